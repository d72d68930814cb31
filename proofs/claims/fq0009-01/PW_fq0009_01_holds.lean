import PyProof.Rows.All
import Wide.All
import OpenK.AllK
import Wide.FinOn
import Lean
import PySem.Challenge.RW_fq0009_01
open PySem PySem.W PySem.Calls PyProof.Rows
set_option Elab.async false
set_option maxRecDepth 100000
set_option maxHeartbeats 0
set_option linter.all false
set_option rowWalk.seconds 0
namespace Mine
open_top hd for PySem.Challenge.rw_fq0009_01
set_option maxHeartbeats 4000000

abbrev PROG : Program := PySem.Challenge.rw_fq0009_01.row.prog

/-- the activation may be taken deeper, and less known, than it is -/
theorem wp_le {α : Type} {M : Model} {A : Around} {t : Sem α} {Q : α → Shared → Prop} {E : Value → Shared → Prop} {s : Shared} {fs : List Env} (dp un : Nat)
    (hA : A.frames = some fs) (hh : A.handled = none) (hd : A.depth ≤ dp) (hu : A.units ≤ un)
    (h : wpAny M ⟨none, dp, some fs, A.guards, un⟩ t Q E s) : wpAny M A t Q E s := by
  obtain ⟨ha, d, f, g, u⟩ := A
  dsimp only at *
  subst hA hh
  exact fun Γ p hΓ => h Γ p ⟨hΓ.1, Nat.le_trans hΓ.2.1 hd, hΓ.2.2.1, hΓ.2.2.2.1, Nat.le_trans hΓ.2.2.2.2 hu⟩

theorem all_ne_of_lt {d : Addr} : ∀ {l : List (Addr × Obj)}, AllLt d l → ∀ p ∈ l, p.1 ≠ d
  | [], _, _, h => nomatch h
  | q :: l, h, p, hp => by
    rcases List.mem_cons.mp hp with rfl | hp
    · exact Nat.ne_of_lt h.1
    · exact all_ne_of_lt h.2 p hp

theorem allLt_mono {d d' : Addr} (h : @LT.lt Nat _ d d') : ∀ {l : List (Addr × Obj)}, AllLt d l → AllLt d' l
  | [], _ => trivial
  | _ :: _, a => ⟨Nat.lt_trans a.1 h, allLt_mono h a.2⟩
theorem all_ne_lt {d d' : Addr} {l : List (Addr × Obj)} (a : AllLt d l) (h : @LT.lt Nat _ d d') : ∀ p ∈ l, p.1 ≠ d' := all_ne_of_lt (allLt_mono h a)
/-- a ledger told in another order, or in part -/
theorem nSub {h₀ h : Heap} {L : Addr} {l l' : List (Addr × Obj)} (N : News h₀ L h l) (k : ∀ p ∈ l', p ∈ l) : News h₀ L h l' := fun p hp => N p (k p hp)

/-- the ledger g x is l with the object at a turned to x -/
structure Upd1 (a : Addr) (oa : Obj) (l : List (Addr × Obj)) (g : Obj → List (Addr × Obj)) : Prop where
  m : (a, oa) ∈ l
  sub : ∀ x p, p ∈ g x → p = (a, x) ∨ (p ∈ l ∧ p.1 ≠ a)
theorem Upd1.head {a : Addr} {oa : Obj} {r : List (Addr × Obj)} (h : ∀ p ∈ r, p.1 ≠ a) : Upd1 a oa ((a, oa) :: r) (fun x => (a, x) :: r) :=
  ⟨List.mem_cons_self, fun x p hp => by
    rcases List.mem_cons.mp hp with rfl | hp
    · exact .inl rfl
    · exact .inr ⟨List.mem_cons_of_mem _ hp, h p hp⟩⟩
theorem Upd1.tail {a : Addr} {oa : Obj} {q : Addr × Obj} {r : List (Addr × Obj)} {g : Obj → List (Addr × Obj)} (h : q.1 ≠ a) (u : Upd1 a oa r g) : Upd1 a oa (q :: r) (fun x => q :: g x) :=
  ⟨List.mem_cons_of_mem _ u.m, fun x p hp => by
    rcases List.mem_cons.mp hp with rfl | hp
    · exact .inr ⟨List.mem_cons_self, h⟩
    · rcases u.sub x p hp with h | h
      · exact .inl h
      · exact .inr ⟨List.mem_cons_of_mem _ h.1, h.2⟩⟩
/-- all but what stands at a -/
def off1 (a : Addr) (l : List (Addr × Obj)) : List (Addr × Obj) := l.filter fun p => !(Nat.beq p.1 a)
theorem mem_off1 {a : Addr} {l : List (Addr × Obj)} {p : Addr × Obj} : p ∈ off1 a l ↔ p ∈ l ∧ p.1 ≠ a := by
  unfold off1
  rw [List.mem_filter]
  refine and_congr_right fun _ => ?_
  rw [Bool.not_eq_true']
  constructor
  · intro h e
    rw [e, Nat.beq_refl] at h
    cases h
  · intro h
    cases q : Nat.beq p.1 a with
    | false => rfl
    | true => exact absurd (Nat.eq_of_beq_eq_true q) h
theorem Upd1.any {a : Addr} {oa : Obj} {l : List (Addr × Obj)} (m : (a, oa) ∈ l) : Upd1 a oa l (fun x => (a, x) :: off1 a l) :=
  ⟨m, fun x p hp => by
    rcases List.mem_cons.mp hp with rfl | hp
    · exact .inl rfl
    · exact .inr (mem_off1.mp hp)⟩
theorem Upd1.front {a : Addr} {oa : Obj} {l : List (Addr × Obj)} {g : Obj → List (Addr × Obj)} (u : Upd1 a oa l g) {h₀ h : Heap} {L : Addr} (N : News h₀ L h l) : News h₀ L h ((a, oa) :: off1 a l) := fun p hp => by
  rcases List.mem_cons.mp hp with rfl | hp
  · exact N _ u.m
  · exact N _ (mem_off1.mp hp).1
theorem Upd1.back {a : Addr} {oa oa' : Obj} {l l' : List (Addr × Obj)} {g : Obj → List (Addr × Obj)} (u : Upd1 a oa l g) {h₀ h : Heap} {L : Addr} (N : News h₀ L h l') (k : ∀ p, p = (a, oa') ∨ p ∈ off1 a l → p ∈ l') : News h₀ L h (g oa') := fun p hp =>
  N p (k p ((u.sub oa' p hp).imp id fun h => mem_off1.mpr h))

/-- two places turned -/
structure Upd2 (a : Addr) (oa : Obj) (b : Addr) (ob : Obj) (l : List (Addr × Obj)) (g : Obj → Obj → List (Addr × Obj)) : Prop where
  ne : a ≠ b
  ma : (a, oa) ∈ l
  mb : (b, ob) ∈ l
  sub : ∀ x y p, p ∈ g x y → p = (a, x) ∨ p = (b, y) ∨ (p ∈ l ∧ p.1 ≠ a ∧ p.1 ≠ b)
theorem Upd2.headA {a b : Addr} {oa ob : Obj} {r : List (Addr × Obj)} {g : Obj → List (Addr × Obj)} (hab : a ≠ b) (h : ∀ p ∈ r, p.1 ≠ a) (u : Upd1 b ob r g) : Upd2 a oa b ob ((a, oa) :: r) (fun x y => (a, x) :: g y) :=
  ⟨hab, List.mem_cons_self, List.mem_cons_of_mem _ u.m, fun x y p hp => by
    rcases List.mem_cons.mp hp with rfl | hp
    · exact .inl rfl
    · rcases u.sub y p hp with e | e
      · exact .inr (.inl e)
      · exact .inr (.inr ⟨List.mem_cons_of_mem _ e.1, h p e.1, e.2⟩)⟩
theorem Upd2.headB {a b : Addr} {oa ob : Obj} {r : List (Addr × Obj)} {g : Obj → List (Addr × Obj)} (hab : a ≠ b) (h : ∀ p ∈ r, p.1 ≠ b) (u : Upd1 a oa r g) : Upd2 a oa b ob ((b, ob) :: r) (fun x y => (b, y) :: g x) :=
  ⟨hab, List.mem_cons_of_mem _ u.m, List.mem_cons_self, fun x y p hp => by
    rcases List.mem_cons.mp hp with rfl | hp
    · exact .inr (.inl rfl)
    · rcases u.sub x p hp with e | e
      · exact .inl e
      · exact .inr (.inr ⟨List.mem_cons_of_mem _ e.1, e.2, h p e.1⟩)⟩
theorem Upd2.tail {a b : Addr} {oa ob : Obj} {q : Addr × Obj} {r : List (Addr × Obj)} {g : Obj → Obj → List (Addr × Obj)} (h1 : q.1 ≠ a) (h2 : q.1 ≠ b) (u : Upd2 a oa b ob r g) : Upd2 a oa b ob (q :: r) (fun x y => q :: g x y) :=
  ⟨u.ne, List.mem_cons_of_mem _ u.ma, List.mem_cons_of_mem _ u.mb, fun x y p hp => by
    rcases List.mem_cons.mp hp with rfl | hp
    · exact .inr (.inr ⟨List.mem_cons_self, h1, h2⟩)
    · rcases u.sub x y p hp with e | e | e
      · exact .inl e
      · exact .inr (.inl e)
      · exact .inr (.inr ⟨List.mem_cons_of_mem _ e.1, e.2⟩)⟩
theorem Upd2.any {a b : Addr} {oa ob : Obj} {l : List (Addr × Obj)} (ne : a ≠ b) (ma : (a, oa) ∈ l) (mb : (b, ob) ∈ l) : Upd2 a oa b ob l (fun x y => (a, x) :: (b, y) :: off1 b (off1 a l)) :=
  ⟨ne, ma, mb, fun x y p hp => by
    rcases List.mem_cons.mp hp with rfl | hp
    · exact .inl rfl
    · rcases List.mem_cons.mp hp with rfl | hp
      · exact .inr (.inl rfl)
      · have h1 := mem_off1.mp hp
        have h2 := mem_off1.mp h1.1
        exact .inr (.inr ⟨h2.1, h2.2, h1.2⟩)⟩
theorem Upd2.front {a b : Addr} {oa ob : Obj} {l : List (Addr × Obj)} {g : Obj → Obj → List (Addr × Obj)} (u : Upd2 a oa b ob l g) {h₀ h : Heap} {L : Addr} (N : News h₀ L h l) : News h₀ L h ((a, oa) :: (b, ob) :: off1 b (off1 a l)) := fun p hp => by
  rcases List.mem_cons.mp hp with rfl | hp
  · exact N _ u.ma
  · rcases List.mem_cons.mp hp with rfl | hp
    · exact N _ u.mb
    · exact N _ (mem_off1.mp (mem_off1.mp hp).1).1
theorem Upd2.back {a b : Addr} {oa ob oa' ob' : Obj} {l l' : List (Addr × Obj)} {g : Obj → Obj → List (Addr × Obj)} (u : Upd2 a oa b ob l g) {h₀ h : Heap} {L : Addr} (N : News h₀ L h l')
    (k : ∀ p, p = (a, oa') ∨ p = (b, ob') ∨ p ∈ off1 b (off1 a l) → p ∈ l') : News h₀ L h (g oa' ob') := fun p hp => by
  refine N p (k p ?_)
  rcases u.sub oa' ob' p hp with h | h | h
  · exact .inl h
  · exact .inr (.inl h)
  · exact .inr (.inr (mem_off1.mpr ⟨mem_off1.mpr ⟨h.1, h.2.1⟩, h.2.2⟩))
theorem off_ne {a : Addr} {l : List (Addr × Obj)} : ∀ p ∈ off1 a l, p.1 ≠ a := fun _ hp => (mem_off1.mp hp).2
theorem off2_ne {a b : Addr} {l : List (Addr × Obj)} : ∀ p ∈ off1 b (off1 a l), p.1 ≠ a := fun _ hp => (mem_off1.mp (mem_off1.mp hp).1).2
theorem off1_mem {a : Addr} {l : List (Addr × Obj)} {p : Addr × Obj} (h : p ∈ l) (ne : p.1 ≠ a) : p ∈ off1 a l := mem_off1.mpr ⟨h, ne⟩
/-- two entries of one ledger with unlike objects stand apart -/
theorem nApart {h₀ h : Heap} {L : Addr} {l : List (Addr × Obj)} (N : News h₀ L h l) {a b : Addr} {oa ob : Obj} (ha : (a, oa) ∈ l) (hb : (b, ob) ∈ l) (ne : oa.cls ≠ ob.cls) : a ≠ b := fun e => by
  subst e
  have := (N _ ha).1.symm.trans (N _ hb).1
  exact ne (congrArg Obj.cls (Option.some.inj this))

abbrev fdObj (dfd : Addr) : Obj := ⟨.ref 70, some dfd, .plain, #[]⟩
abbrev fdDict (w : World) (t1 t2 : Tok) (cv : Value) (hp : Addr) : Obj :=
  W.dictOf [⟨PyData.keyHash w.params "_converter", .str "_converter" t1, cv⟩, ⟨PyData.keyHash w.params "_handler_pairs", .str "_handler_pairs" t2, .ref hp⟩] 2
abbrev msObj (dms : Addr) : Obj := ⟨.ref 142, some dms, .plain, #[]⟩
abbrev msDict (w : World) (t1 t2 t3 t4 : Tok) (ff : Value) (dd fd bm : Addr) : Obj :=
  W.dictOf [⟨PyData.keyHash w.params "_fallback_factory", .str "_fallback_factory" t1, ff⟩, ⟨PyData.keyHash w.params "_direct_dispatch", .str "_direct_dispatch" t2, .ref dd⟩,
    ⟨PyData.keyHash w.params "_function_dispatch", .str "_function_dispatch" t3, .ref fd⟩, ⟨PyData.keyHash w.params "dispatch", .str "dispatch" t4, .ref bm⟩] 4
abbrev tupObj (vs : List Value) : Obj := { cls := .type "tuple", data := .seq vs.toArray }
local macro_rules | `(tactic| walk_at "MY:mem") => `(tactic| first | exact List.mem_cons_self | (refine' List.mem_cons_of_mem _ ?_; walk_at "MY:mem") | ktr_member)
local macro_rules | `(tactic| k_mem) => `(tactic| walk_at "MY:mem")
local macro_rules | `(tactic| k_all) => `(tactic| first | assumption | (refine all_ne_of_lt ?_; assumption) | (refine' all_ne_lt ?a ?b; (case a => assumption); (case b => omega)))
local macro_rules | `(tactic| walk_at "MY:enter1") => `(tactic| (
  k_dflt (refine' code_def ?k1 ?k2 ?k3 ?k4 ?k5 ?kA ?kF ?kK ?k6 ?k7 ?k8 ?k9 ?kB ?_ ?c2 ?c3 ?c4 ?c5)
  (case kA => exact rfl); (case kF => first | exact rfl | assumption); (case kK => first | exact rfl | assumption); (case k1 => k_asm); (case k2 => k_asm); (case k3 => k_asm); (case k4 => k_asm); (case k5 => k_asm)
  (case k6 => k_is); (case k7 => k_is); (case k8 => k_room)
  (case k9 => first | exact BindsTo.of_eq rfl | exact binds_K (by k_in) rfl (by k_is) rfl rfl rfl)
  (case c5 => decide); (case kB => exact locs rfl); (case c2 => exact rfl); (case c3 => exact rfl); (case c4 => exact rfl)
  intro g' L' h' FG' F' N' B' X' T'
  (try dsimp only)))
local macro_rules | `(tactic| walk_at "MY:enter") => `(tactic| (refine wpAny_call ?_; walk_at "MY:enter1"))
local macro_rules | `(tactic| walk_at "MY:make") => `(tactic| (
  k_dflt (refine' call_cls ?k1 ?k2 ?k3 ?k4 ?k5 ?k6 ?_)
  (case k1 => k_asm); (case k2 => k_asm); (case k3 => k_asm); (case k4 => k_is); (case k5 => k_is); (case k6 => k_is)
  intro x' d' h' F' N' l1 l2; (try k_lt l1); (try k_lt2 l2)
  walk_at "MY:enter1"))
local macro_rules | `(tactic| walk_at "MY:ord") => `(tactic| first | assumption | (refine ltN ?_; omega) | (refine allLt_of ?_; assumption))
local macro_rules | `(tactic| walk_at "MY:tail") => `(tactic| first | assumption | (refine List.mem_cons_of_mem _ ?_; walk_at "MY:tail"))
local macro_rules | `(tactic| walk_at "MY:sub") => `(tactic| first | exact List.forall_mem_nil _ | (refine' List.forall_mem_cons.mpr ⟨?a, ?b⟩; (case a => k_mem); (case b => walk_at "MY:sub")) | (intro p hp; walk_at "MY:tail"))
local macro_rules | `(tactic| k_ne) => `(tactic| (dsimp only; first | assumption | (refine Ne.symm ?_; assumption)))
local macro_rules | `(tactic| walk_at "MY:getnd") => `(tactic| (k_here; k_dflt (first
  | (refine' bound_nd ?k1 ?k2 ?k3 ?k4 ?k5 ?k6 ?k7 ?k8 ?k9 ?k10 ?k11 ?_; (case k1 => k_asm); (case k2 => k_asm); (case k3 => k_asm); (case k4 => k_inst); (case k5 => k_is); (case k6 => kernel_rfl); (case k7 => k_is); (case k8 => k_is); (case k9 => k_is); (case k10 => k_is); (case k11 => decide +kernel); intro q' h' F' N' l1; (try k_lt l1))
  | (refine' static_nd ?k1 ?k2 ?k4 ?k5 ?k6 ?k7 ?k8 ?k9 ?k10 ?k11 ?k12 ?_; (case k1 => k_asm); (case k2 => k_asm); (case k4 => k_inst); (case k5 => k_is); (case k6 => kernel_rfl); (case k7 => k_is); (case k8 => k_is); (case k9 => k_is); (case k10 => decide +kernel); (case k11 => k_is); (case k12 => k_handed)))))
local macro_rules | `(tactic| walk_at "callWith ref") => `(tactic| (k_here; k_dflt (first
  | (refine' callWith_K ?k1 ?k2 ?_; (case k1 => k_asm); (case k2 => k_is); k_whole)
  | (refine' callWith_KW ?k1 ?k2 ?k3 ?_; (case k1 => k_asm); (case k2 => k_is); (case k3 => exact rfl); k_whole)
  | (refine' callWith_K0 ?k1 ?k2 ?_; (case k1 => k_in); (case k2 => k_is); k_whole)
  | (refine' callWith_KW0 ?k1 ?k2 ?k3 ?_; (case k1 => k_asm); (case k2 => k_is); (case k3 => exact rfl); k_whole))))
local macro_rules | `(tactic| walk_at "getMethod ref") => `(tactic| (k_here; k_dflt (refine' method_inst ?k1 ?k2 ?k3 ?k4 ?k5 ?k6 ?k7 ?_; (case k1 => k_asm); (case k2 => k_asm); (case k3 => k_inst); (case k4 => k_is); (case k5 => k_is); (case k6 => k_is); (case k7 => k_get); k_whole)))
local macro_rules | `(tactic| walk_at "MY:upd1") => `(tactic| first | (refine' Upd1.head ?a; (case a => k_all)) | (refine' Upd1.tail ?a ?b; (case a => k_ne); (case b => walk_at "MY:upd1")))
local macro_rules | `(tactic| walk_at "MY:upd2") => `(tactic| first
  | (refine' Upd2.headA ?a ?b ?c; (case a => k_ne); (case b => k_all); (case c => walk_at "MY:upd1"))
  | (refine' Upd2.headB ?a ?b ?c; (case a => k_ne); (case b => k_all); (case c => walk_at "MY:upd1"))
  | (refine' Upd2.tail ?a ?b ?c; (case a => k_ne); (case b => k_ne); (case c => walk_at "MY:upd2")))
local macro_rules | `(tactic| walk_at "MY:smem") => `(tactic| first | exact List.mem_cons_self | (refine List.mem_cons_of_mem _ ?_; walk_at "MY:smem"))
local macro_rules | `(tactic| walk_at "MY:each") => `(tactic| first | exact List.forall_mem_nil _ | (refine' List.forall_mem_cons.mpr ⟨?a, ?b⟩; (case a => walk_at "MY:one"); (case b => walk_at "MY:each")))
local macro_rules | `(tactic| walk_at "MY:subI") => `(tactic| first
  | (refine' List.forall_mem_cons.mpr ⟨?a, ?b⟩; (case a => k_mem); (case b => walk_at "MY:subI"))
  | (intro p hp; replace hp := (by assumption : ∀ p ∈ _, p ∈ _) p hp; walk_at "MY:tail"))
local macro_rules | `(tactic| walk_at "MY:sift") => `(tactic| first | refine SiftE.stop ?_ | (refine' SiftE.drop ?a ?b; (case a => with_reducible (walk_at "MY:smem")); (case b => walk_at "MY:sift")) | (refine SiftE.keep ?_; walk_at "MY:sift"))
local macro_rules | `(tactic| k_lt $h:ident) => `(tactic| (replace $h := allLt_of $h; simp only [AllLt, and_true] at $h:ident; (try (replace $h := And.left $h; skip))))
local macro_rules | `(tactic| k_in) => `(tactic| (with_reducible (refine' Frag.In.keeps ?x (Fr.keep ?f); (case f => assumption); (case x => assumption))))
example {M : Model} {A : Around} {E Q : Value → Shared → Prop} {s : Shared} (h : wpAny M A (pure .none) Q E s) : wpAny M A (pure .none) Q E s := by
  w_top off
  first
    | (walk1; fail)
    | exact h
section
def noDictIn (K : Frag) (C : Addr) : Bool := (clsIn K C).any fun cd => !cd.hasDict
section
open PySem.Builtin PySem.Builtin.ObjectAttr
variable {prog : Program} {w : World} {A : Around} {E : Value → Shared → Prop} {s : Shared} {K : Frag} {x C f sp L : Addr} {ox od : Obj} {name : Str} {expr : Bool} {h₀ : Heap} {m : Str → Option Value} {news : List (Addr × Obj)} {Q : Value → Shared → Prop}

theorem findObj_nd {g a : Value} (hh : noDictIn K C = true) (ha : findIn K (.ref C) name = some (some a)) (hg : specialIn K a "__get__" = some (some g)) (ht : takesIn K a = some false) (hc : copiedNames.contains name = false) :
    findObj K C (some od) name = some (.bind g a) := by
  obtain ⟨cd, hc', hd⟩ := any_some hh
  have hd' : cd.hasDict = false := by simpa using hd
  unfold findObj
  have ho : W.ownOf cd (some od) name = some none := by unfold W.ownOf; rw [hd']; rfl
  rw [hc', Option.bind_some, ha, Option.bind_some]
  simp only [hg, ht, Option.bind_some, ho, hc, Bool.false_and, Bool.false_eq_true, if_false]

/-- x.meth as a value, x of a class of slots alone -/
theorem bound_nd (F : Fr h₀ L s.heap m) (X₀ : K.In h₀) (N : News h₀ L s.heap news) (I : InstAt s.heap x ox C (some od)) (hg : plainGet K C name = true) (hh : noDictIn K C = true) (ha : findIn K (.ref C) name = some (some (.ref f))) (hf : isFn K (.ref f) = true)
    (hgf : specialIn K (.ref f) "__get__" = some (some (.builtin "function.__get__"))) (ht : takesIn K (.ref f) = some false) (hc : copiedNames.contains name = false)
    (h : ∀ q h', Fr h₀ L h' m → News h₀ L h' ((q, methodObj (.ref f) (.ref x)) :: news) → (∀ p ∈ news, p.1 < q) → Q (.ref q) { s with heap := h', toks := s.toks + 1 }) : wpAny (model prog w) A (getAttr (.ref x) name expr) Q E s :=
  get_bind (X₀.keeps F.keep) I (plainGet_of hg).1 (findObj_nd hh ha hgf ht hc) (plainGet_of hg).2
    (wpAny_call (fn_get (s := { s with toks := s.toks + 1 }) (X₀.keeps F.keep) (beq_iff_eq.mp hf) (handed_on rfl (h s.heap.objs.size _ (F.push _) (N.push F _) fun p hp => Heap.lt_size (N p hp).1))))

/-- x.sm, a static method, x of a class of slots alone -/
theorem static_nd {fv : Value} {rest : List Value} (F : Fr h₀ L s.heap m) (X₀ : K.In h₀) (I : InstAt s.heap x ox C (some od)) (hg : plainGet K C name = true) (hh : noDictIn K C = true) (ha : findIn K (.ref C) name = some (some (.ref sp)))
    (hgf : specialIn K (.ref sp) "__get__" = some (some (.builtin "staticmethod.__get__"))) (hts : takesIn K (.ref sp) = some false) (hc : copiedNames.contains name = false) (hp : recIn K sp "staticmethod" = some (fv :: rest)) (hv : handedIn fv = true)
    (h : Q fv { s with toks := s.toks + 1 }) : wpAny (model prog w) A (getAttr (.ref x) name expr) Q E s :=
  get_bind (X₀.keeps F.keep) I (plainGet_of hg).1 (findObj_nd hh ha hgf hts hc) (plainGet_of hg).2
    (wpAny_call (sm_get (s := { s with toks := s.toks + 1 }) (X₀.keeps F.keep) hp (handed_on hv h)))
end
end
example {M : Model} {A : Around} {E Q : Value → Shared → Prop} {s : Shared} (h : wpAny M A (pure .none) Q E s) : wpAny M A (pure .none) Q E s := by
  w_top off
  first
    | (walk1; fail)
    | exact h
local macro_rules | `(tactic| walk_at "MY:getnd") => `(tactic| (k_here; k_dflt (first
  | (refine' bound_nd ?k1 ?k2 ?k3 ?k4 ?k5 ?k6 ?k7 ?k8 ?k9 ?k10 ?k11 ?_; (case k1 => k_asm); (case k2 => k_asm); (case k3 => k_asm); (case k4 => k_inst); (case k5 => k_is); (case k6 => kernel_rfl); (case k7 => k_is); (case k8 => k_is); (case k9 => k_is); (case k10 => k_is); (case k11 => decide +kernel); intro q' h' F' N' l1; (try k_lt l1))
  | (refine' static_nd ?k1 ?k2 ?k4 ?k5 ?k6 ?k7 ?k8 ?k9 ?k10 ?k11 ?k12 ?_; (case k1 => k_asm); (case k2 => k_asm); (case k4 => k_inst); (case k5 => k_is); (case k6 => kernel_rfl); (case k7 => k_is); (case k8 => k_is); (case k9 => k_is); (case k10 => decide +kernel); (case k11 => k_is); (case k12 => k_handed)))))
section
section
variable {prog : Program} {w : World} {A : Around} {E : Value → Shared → Prop} {s : Shared} {env : Env} {target : Expr} {body : List Stmt} {R : Result → Shared → Prop} {h₀ : Heap} {lst : Addr} {vs : List Value} {nn : Nat} {m₀ : Str → Option Value} {news : List (Addr × Obj)}

theorem wp_letOwned {M : Model} {A : Around} {E : Value → Shared → Prop} {s : Shared} {Q : Unit → Shared → Prop} {I : Addr} {it : Obj} {v : Value} {n : String} (ho : s.heap.get? I = some it) (hc : it.cls = .type n)
    (hn : ["enumerate", "zip", "dict_itemiterator", "dict_reverseitemiterator", "odict_iterator", "itertools.zip_longest", "itertools.pairwise"].contains n = false) (h : Q () s) :
    wpAny M A (letOwnedTupleGo target (.ref I) v) Q E s := by
  have key : wpAny M A (do
      let (.ref r, .ref a) := ((.ref I : Value), v) | return
      let o ← load r
      match o.cls, o.data with
      | .type n, .fields vs =>
        if ["enumerate", "zip", "dict_itemiterator", "dict_reverseitemiterator", "odict_iterator", "itertools.zip_longest", "itertools.pairwise"].contains n && vs[0]? == some (rawInt a) then
          rule "for.unpacks-the-owned-tuple"
          updateField r 0 .none
      | _, _ => pure ()) Q E s := by
    cases v with
    | ref a =>
      refine wpAny_bind (wpAny_load ho ?_)
      rw [hc]
      cases hd : it.data with
      | fields ws =>
        dsimp only
        rw [if_neg (by rw [hn]; simp)]
        exact wpAny_pure h
      | _ => exact wpAny_pure h
    | _ => exact wpAny_pure h
  unfold letOwnedTupleGo
  split
  · exact key
  · exact key
  · exact wpAny_pure h

/-- the end of a turn: the iterator stands, and what is between the turns holds anew -/
def LEnd (h₀ : Heap) (L : Addr) (s : Shared) (I : Addr) (it : Obj) (P : (Str → Option Value) → List (Addr × Obj) → Prop) (s' : Shared) : Prop :=
  ∃ h' tk m' news', s' = { s with heap := h', toks := tk } ∧ Fr h₀ L h' m' ∧ News h₀ L h' ((I, it) :: news') ∧ (∀ p ∈ news', p.1 ≠ I) ∧ P m' news'
def LPost (h₀ : Heap) (L : Addr) (s : Shared) (I : Addr) (it : Obj) (P : (Str → Option Value) → List (Addr × Obj) → Prop) (R : Result → Shared → Prop) (f : Flow) (s' : Shared) : Prop := match f with
  | .ret v => R (.ok (.ret v)) s'
  | .brk => R (.ok .next) s'
  | _ => LEnd h₀ L s I it P s'

theorem for_list (J : Nat → (Str → Option Value) → List (Addr × Obj) → Prop)
    (hh : A.handled = none) (F : Fr h₀ env.locals s.heap m₀) (N : News h₀ env.locals s.heap news) (hJ : J 0 m₀ news)
    (hmem : ∀ i m₁ news₁, J i m₁ news₁ → (lst, W.listOf vs.toArray nn) ∈ news₁)
    (turn : ∀ I i v m₁ news₁ h tk it, vs[i]? = some v → J i m₁ news₁ → (∀ p ∈ news, p.1 < I) → (∀ p ∈ news₁, p.1 ≠ I) → it.cls = .type "list_iterator" → Fr h₀ env.locals h m₁ → News h₀ env.locals h ((I, it) :: news₁) →
      wpAny (model prog w) A (assign target env v) (fun _ s₂ => wpAny (model prog w) A (execs body env) (LPost h₀ env.locals s I it (J (i + 1)) R) (notedBy (model prog w) A env fun e s' => R (.error e) s') s₂)
        (notedBy (model prog w) A env fun e s' => R (.error e) s') { s with heap := h, toks := tk })
    (done : ∀ m₁ news₁ h tk, J vs.length m₁ news₁ → Fr h₀ env.locals h m₁ → News h₀ env.locals h news₁ → R (.ok .next) { s with heap := h, toks := tk }) :
    wpAny (model prog w) A (pyIter (.ref lst)) (fun it s₂ => codeAny (model prog w) A (.forLoop target it body [] env) R s₂) E s := by
  have isL : ∀ {h : Heap} {l : List (Addr × Obj)}, News h₀ env.locals h l → (lst, W.listOf vs.toArray nn) ∈ l → h.IsList lst vs.toArray := fun N hm => ⟨_, (N _ hm).1, rfl, nn, rfl⟩
  refine wpAny_pyIter_list (isL N (hmem _ _ _ hJ)) ?_
  have hI : ∀ p ∈ news, p.1 < s.heap.objs.size := fun p hp => Heap.lt_size (N p hp).1
  have hfree : h₀.get? s.heap.objs.size = none := by
    cases q : h₀.get? s.heap.objs.size with
    | none => rfl
    | some o => exact absurd (Heap.lt_size (F.keep _ _ q)) (Nat.lt_irrefl _)
  have hIL : s.heap.objs.size ≠ env.locals := Nat.ne_of_gt F.ns.lt
  generalize hgI : s.heap.objs.size = I at hI hfree hIL ⊢
  have N1 : News h₀ env.locals (s.heap.push { cls := .type "list_iterator", data := .fields #[.ref lst, .int 0 0] }) ((I, { cls := .type "list_iterator", data := .fields #[.ref lst, .int 0 0] }) :: news) := hgI ▸ N.push F _
  refine codeAny_forLoop_any (fun n s' => ∃ i m₁ news₁ h tk it, n = vs.length - i ∧ i ≤ vs.length ∧ s' = { s with heap := h, toks := tk } ∧ it.cls = .type "list_iterator" ∧ it.data = .fields #[.ref lst, .int i 0] ∧ Fr h₀ env.locals h m₁ ∧ News h₀ env.locals h ((I, it) :: news₁) ∧ (∀ p ∈ news₁, p.1 ≠ I) ∧ J i m₁ news₁) ?_ vs.length
    ⟨0, m₀, news, _, s.toks, _, (Nat.sub_zero _).symm, Nat.zero_le _, rfl, rfl, rfl, F.push _, N1, fun p hp => Nat.ne_of_lt (hI p hp), hJ⟩
  rintro n _ ⟨i, m₁, news₁, h, tk, it, rfl, hi, rfl, hc, hd, F₁, N₁, off, hJ₁⟩
  have hm₁ := hmem _ _ _ hJ₁
  have L₁ := isL N₁ (List.mem_cons_of_mem _ hm₁)
  have It : Heap.IsListIter h I lst i := ⟨it, (N₁ _ List.mem_cons_self).1, hc, hd⟩
  by_cases hlt : i < vs.length
  · obtain ⟨v, hv⟩ : ∃ v, vs[i]? = some v := ⟨vs[i], by simp [hlt]⟩
    refine wpAny_pyNext_list_item (s := { s with heap := h, toks := tk }) It L₁ (x := v) (by simpa using hv) fun h' It' hs => ?_
    dsimp only
    obtain ⟨it', hit', hc', hd'⟩ := It'
    have F₂ : Fr h₀ env.locals h' m₁ := F₁.change hs hIL hfree
    have N₂ : News h₀ env.locals h' ((I, it') :: news₁) := fun p hp => by
      rcases List.mem_cons.mp hp with rfl | hp
      · exact ⟨hit', hIL, hfree⟩
      · have y := N₁ p (List.mem_cons_of_mem _ hp)
        exact ⟨(hs.2 _ (off p hp)).trans y.1, y.2⟩
    refine wp_letOwned (I := I) (n := "list_iterator") (it := it') hit' hc' (by decide) ?_
    refine wpAny_mono (turn I i v m₁ news₁ h' tk it' hv hJ₁ hI off hc' F₂ N₂) (fun _ s₂ h₂ => wpAny_mono h₂ (fun f s₃ h₃ => ?_) fun _ _ e => e) fun _ _ e => e
    have fin : LEnd h₀ env.locals s I it' (J (i + 1)) s₃ → ∃ k, k < vs.length - i ∧ ∃ i m₁ news₁ h tk it, k = vs.length - i ∧ i ≤ vs.length ∧ s₃ = { s with heap := h, toks := tk } ∧ it.cls = .type "list_iterator" ∧ it.data = .fields #[.ref lst, .int i 0] ∧ Fr h₀ env.locals h m₁ ∧ News h₀ env.locals h ((I, it) :: news₁) ∧ (∀ p ∈ news₁, p.1 ≠ I) ∧ J i m₁ news₁ := by
      rintro ⟨hx, tk₃, m₃, news₃, rfl, F₃, N₃, off₃, hJ₃⟩
      exact ⟨vs.length - (i + 1), by omega, i + 1, m₃, news₃, hx, tk₃, it', rfl, hlt, rfl, hc', hd', F₃, N₃, off₃, hJ₃⟩
    cases f with
    | next => exact fin h₃
    | cont => exact fin h₃
    | brk => exact h₃
    | ret v => exact h₃
  · obtain rfl : i = vs.length := by omega
    refine wpAny_pyNext_list_end (s := { s with heap := h, toks := tk }) hh It L₁ (by simp) fun h' hs => ?_
    dsimp only
    refine wpAny_execs_nil (done m₁ news₁ h' tk hJ₁ ?_ ?_)
    · exact ⟨F₁.ns.extBut hs hIL.symm, fun b o e => hs b o (fun q => by rw [q, hfree] at e; cases e) (F₁.keep b o e), F₁.above⟩
    · intro p hp
      have y := N₁ p (List.mem_cons_of_mem _ hp)
      exact ⟨hs _ _ (off p hp) y.1, y.2⟩
end
end
example {M : Model} {A : Around} {E Q : Value → Shared → Prop} {s : Shared} (h : wpAny M A (pure .none) Q E s) : wpAny M A (pure .none) Q E s := by
  w_top off
  first
    | (walk1; fail)
    | exact h
section
/-- the table of a function's nested functions, all of one name; their records stand in l -/
def TabQ (q : Str) (ps : Array Value) (l : List (Addr × Obj)) : Prop :=
  TriplesOk ps.toList ∧ ∀ pos cv, codeAmong pos ps.toList = some cv → ∃ c' oc vs t, cv = .ref c' ∧ (c', oc) ∈ l ∧ oc.data = .fields vs ∧ vs[1]? = some (.str q t)
theorem TabQ.mono {q : Str} {ps : Array Value} {l l' : List (Addr × Obj)} (T : TabQ q ps l) (k : ∀ p ∈ l, p ∈ l') : TabQ q ps l' :=
  ⟨T.1, fun pos cv h => let ⟨c', oc, vs, t, e, m, r⟩ := T.2 pos cv h; ⟨c', oc, vs, t, e, k _ m, r⟩⟩
theorem codeAmong_old {pos pos' : Pos} {c cv : Value} (l : List Value) (h : TriplesOk l) (hs : codeAmong pos' (l ++ [rawInt pos.line, rawInt pos.col, c]) = some cv) : codeAmong pos' l = some cv ∨ cv = c := by
  fun_induction TriplesOk l with
  | case1 =>
    simp only [List.nil_append, codeAmong, rawInt] at hs
    split at hs
    · exact .inr (Option.some.inj hs).symm
    · cases hs
  | case2 a t b u x rest ih =>
    simp only [List.cons_append, codeAmong] at hs ⊢
    split at hs
    · rename_i hc; rw [if_pos hc]; exact .inl hs
    · rename_i hc; rw [if_neg hc]; exact ih h hs
  | case3 l h1 h2 => exact h.elim
theorem TabQ.snoc {q : Str} {ps : Array Value} {l : List (Addr × Obj)} (T : TabQ q ps l) {pos : Pos} {c' : Addr} {oc : Obj} {vs : Array Value} {t : Tok} (hd : oc.data = .fields vs) (hv : vs[1]? = some (.str q t)) :
    TabQ q (ps ++ #[rawInt pos.line, rawInt pos.col, .ref c']) ((c', oc) :: l) := by
  refine ⟨by rw [Array.toList_append]; exact TriplesOk_snoc _ _ _ _ T.1, fun pos' cv h => ?_⟩
  rw [Array.toList_append] at h
  rcases codeAmong_old _ T.1 h with h | rfl
  · obtain ⟨c₁, oc₁, vs₁, t₁, e, m, r⟩ := T.2 _ _ h
    exact ⟨c₁, oc₁, vs₁, t₁, e, List.mem_cons_of_mem _ m, r⟩
  · exact ⟨c', oc, vs, t, rfl, List.mem_cons_self, hd, hv⟩
theorem TabQ.nil (q : Str) (l : List (Addr × Obj)) : TabQ q #[] l := ⟨trivial, fun _ _ h => by cases h⟩

section
variable {M : Model} {A : Around} {E : Value → Shared → Prop} {s : Shared} {h₀ : Heap} {L a c P : Addr} {m mg mb : Str → Option Value} {cn : Str} {cs : Scope} {ccd : Value} {cl : List (Str × Addr)} {l : List (Addr × Obj)} {U : Obj → List (Addr × Obj)}
  {p : Program} {loose : List Str} {mean : ExcName → Option Value} {name qual : Str} {params : Arguments} {body : Expr} {scope : Scope} {ps : Array Value} {pos : Pos} {firstLine : Nat} {clos : List (Str × Addr)}
/-- a lambda, made the first time or anew -/
theorem kla_any (imm : List (Addr × Obj)) {Q : Value → Shared → Prop} (F : Fr h₀ L s.heap m) (N : News h₀ L s.heap l) (T : Top p loose mean mg mb h₀) (C : CodeHd h₀ c P) (hcd : ccd = .ref c) (u : Upd1 P (tabObj ps) l U) (tq : TabQ qual ps imm)
    (sub : ∀ p ∈ imm, p ∈ l) (off : ∀ p ∈ imm, p.1 ≠ P)
    (hcl : closureFor scope (envX cn cs L a ccd cl) = pure clos)
    (h : ∀ f c' oc vs t ctv ps' h' tk, Fr h₀ L h' m →
      News h₀ L h' ((f, kla_obj name qual params body scope clos ((mg "__name__").getD .none) c' ctv) :: (c', oc) :: U (tabObj ps')) → TabQ qual ps' ((c', oc) :: imm) →
      oc.data = .fields vs → vs[1]? = some (.str qual t) → (∀ q ∈ l, @LT.lt Nat _ q.1 f) → @LT.lt Nat _ c' f → ((∀ q ∈ l, @LT.lt Nat _ q.1 c') ∨ (c', oc) ∈ imm) → Q (.ref f) { s with heap := h', toks := tk }) :
    wpAny M A (makeFunction name qual params (.expr body) scope (envX cn cs L a ccd cl) [] [] [] pos firstLine) Q E s := by
  cases hc : codeAmong pos ps.toList with
  | none =>
    refine kla_nest F (u.front N) T C hcd (UpdF.head off_ne) tq.1 hc (firstLine := firstLine) hcl fun f c' oc vs t ctv h' tk F' N' hd hv l1 l2 => ?_
    have lt : ∀ q ∈ l, q.1 < c' := fun q hq => by
      by_cases e : q.1 = P
      · exact e ▸ l1 (P, _) List.mem_cons_self
      · exact l1 q (List.mem_cons_of_mem _ (off1_mem hq e))
    refine h f c' oc vs t ctv (ps ++ #[rawInt pos.line, rawInt pos.col, .ref c']) h' tk F' (fun p hp => ?_) (tq.snoc (pos := pos) hd hv) hd hv (fun q hq => Nat.lt_trans (lt q hq) l2) l2 (.inl lt)
    rcases List.mem_cons.mp hp with rfl | hp
    · exact N' _ List.mem_cons_self
    · rcases List.mem_cons.mp hp with rfl | hp
      · exact N' _ (List.mem_cons_of_mem _ List.mem_cons_self)
      · exact u.back N' (fun p hp => List.mem_cons_of_mem _ (List.mem_cons_of_mem _ (List.mem_cons.mpr hp))) p hp
  | some cv =>
    obtain ⟨c', oc, vs, t, rfl, hm, hd, hv⟩ := tq.2 _ _ hc
    refine kla_hit F N T C hcd u.m tq.1 hc hcl fun f ctv h' tk F' N' l1 => ?_
    refine h f c' oc vs t ctv ps h' tk F' (fun p hp => ?_) (tq.mono fun p hp => List.mem_cons_of_mem _ hp) hd hv l1 (l1 _ (sub _ hm)) (.inr hm)
    rcases List.mem_cons.mp hp with rfl | hp
    · exact N' _ List.mem_cons_self
    · rcases List.mem_cons.mp hp with rfl | hp
      · exact N' _ (List.mem_cons_of_mem _ (sub _ hm))
      · rcases u.sub _ p hp with rfl | hp
        · exact N' _ (List.mem_cons_of_mem _ u.m)
        · exact N' _ (List.mem_cons_of_mem _ hp.1)
end
/-- a fact kept out of omega's sight -/
def Hid (p : Prop) : Prop := p
theorem of_hid {p : Prop} (h : Hid p) : p := h
/-- own is l without the places ks, up to the tail; told with what is to be shown of it -/
def SiftE (ks : List Addr) (tl l : List (Addr × Obj)) (P : List (Addr × Obj) → Prop) : Prop := ∃ own, (∀ p ∈ own ++ tl, p ∈ l) ∧ P own
theorem SiftE.stop {ks : List Addr} {tl : List (Addr × Obj)} {P : List (Addr × Obj) → Prop} (h : P []) : SiftE ks tl tl P := ⟨[], fun p hp => by simpa using hp, h⟩
theorem SiftE.drop {ks : List Addr} {tl l : List (Addr × Obj)} {P : List (Addr × Obj) → Prop} {a : Addr} {o : Obj} (h : SiftE ks tl l P) : SiftE ks tl ((a, o) :: l) P :=
  let ⟨own, k, y⟩ := h; ⟨own, fun p hp => List.mem_cons_of_mem _ (k p hp), y⟩
theorem SiftE.keep {ks : List Addr} {tl l : List (Addr × Obj)} {P : List (Addr × Obj) → Prop} {p : Addr × Obj} (h : SiftE ks tl l (fun own => P (p :: own))) : SiftE ks tl (p :: l) P :=
  let ⟨own, k, y⟩ := h; ⟨p :: own, fun q hq => by
    rw [List.cons_append] at hq
    rcases List.mem_cons.mp hq with rfl | hq
    · exact List.mem_cons_self
    · exact List.mem_cons_of_mem _ (k q hq), y⟩
theorem SiftE.start {h₀ h : Heap} {L : Addr} {l : List (Addr × Obj)} (_ : News h₀ L h l) (ks : List Addr) (tl : List (Addr × Obj)) (P : List (Addr × Obj) → Prop) (k : SiftE ks tl l P) {G : Prop} (g : ∀ own, (∀ p ∈ own ++ tl, p ∈ l) → P own → G) : G :=
  let ⟨own, a, b⟩ := k; g own a b
end
example {M : Model} {A : Around} {E Q : Value → Shared → Prop} {s : Shared} (h : wpAny M A (pure .none) Q E s) : wpAny M A (pure .none) Q E s := by
  w_top off
  first
    | (walk1; fail)
    | exact h
section
section
variable {M : Model} {A : Around} {c : Code} {E : Value → Shared → Prop} {s : Shared} {env : Env}
theorem ks_wpAt_MethodCallK {o : Expr} {name : Str} {apos pos : Pos} {args : List Expr} {kws : List Keyword} {pl : Sem Bool} {Q : Value → Shared → Prop}
    (h : _root_.PySem.wpAt M A c (attributeBase o name env (eval o env)) (fun ov s₁ => wpAny M A (getMethod ov name pl) (fun fx s₂ => wpAny M A (callWith pos fx.1 fx.2 (backTo pos (starEach args env)) (backToKw pos (keywordEach kws env))) Q E s₂) E s₁) E s)
    (he : eval (.Call (.Attribute o name apos) args kws pos) env = (do
      let ov ← attributeBase o name env (eval o env)
      standAt apos.atName
      let (f, first) ← holding [ov] (getMethod ov name pl)
      callWith pos f first (backTo pos (starEach args env)) (backToKw pos (keywordEach kws env))) := by rfl) :
    _root_.PySem.wpAt M A c (eval (.Call (.Attribute o name apos) args kws pos) env) Q E s := by
  rw [he]
  refine _root_.PySem.wpAt_bind (_root_.PySem.wpAt_mono h (fun ov s₁ h₁ => _root_.PySem.wpAt_of_wpAny (wpAny_bind (wpAny_standAt (wpAny_bind (wpAny_holding (wpAny_mono h₁ (fun fx s₂ h₂ => ?_) fun _ _ x => x)))))) fun _ _ x => x)
  exact h₂
end
theorem code_le {M : Model} {A : Around} {c : Code} {R : Result → Shared → Prop} {s : Shared} {fs : List Env} (dp un : Nat)
    (hA : A.frames = some fs) (hh : A.handled = none) (hd : A.depth ≤ dp) (hu : A.units ≤ un)
    (h : codeAny M ⟨none, dp, some fs, A.guards, un⟩ c R s) : codeAny M A c R s := by
  obtain ⟨ha, d, f, g, u⟩ := A
  dsimp only at *
  subst hA hh
  exact fun Γ p hc hΓ => h Γ p hc ⟨hΓ.1, Nat.le_trans hΓ.2.1 hd, hΓ.2.2.1, hΓ.2.2.2.1, Nat.le_trans hΓ.2.2.2.2 hu⟩
theorem binds_of {K : Frag} {s : Shared} {f : Addr} {o : Obj} {fd fd' : FuncData} {c' : Value} {d' : Option Addr} {sl' : Array (Option Value)} {args : Args} {binds : List (Str × Value)}
    (h : K.lookup f = some o) (hd : o.data = .func fd) (h' : K.lookup f = some ⟨c', d', .func fd', sl'⟩) (hb : BindsTo s fd args binds) : BindsTo s fd' args binds := by
  rw [h] at h'
  cases h'
  cases hd
  exact hb
/-- the arguments bind to these names, at the def that stands at f -/
def BindsF (P : Params) (s : Shared) (f : Addr) (args : Args) (binds : List (Str × Value)) : Prop :=
  ∃ o fd, (Mine.hd.heap_39 P).lookup f = some o ∧ o.data = .func fd ∧ BindsTo s fd args binds
theorem BindsF.to {P : Params} {s : Shared} {f : Addr} {args : Args} {binds : List (Str × Value)} {fd' : FuncData} {c' : Value} {d' : Option Addr} {sl' : Array (Option Value)} (h : BindsF P s f args binds)
    (h' : (Mine.hd.heap_39 P).lookup f = some ⟨c', d', .func fd', sl'⟩) : BindsTo s fd' args binds :=
  let ⟨_, _, a, b, c⟩ := h; binds_of a b h' c
section
variable {K : Frag} {M : Model} {A : Around} {E : Value → Shared → Prop} {s : Shared}
theorem callWith_MKW0 {env : Env} {pos : Pos} {first : List Value} {Q : Value → Shared → Prop} {kws : List Keyword} {q g : Addr} {self : Value} (hf : fnIn K g = true) (hall : (backToKw pos (keywordEach kws env)).all (·.1.isSome) = true)
    (h : wpAny M A (evalAll ((backToKw pos (keywordEach kws env)).map (·.2))) (fun ks s₂ => MethP K q g self s₂.heap ∧ wpAny M A (call (.ref q) (first ++ []) (((backToKw pos (keywordEach kws env)).filterMap (·.1)).zip ks)) Q E s₂) E s)
    (hplain : ((backTo pos (starEach [] env)).any (·.1) || (backToKw pos (keywordEach kws env)).any (·.1.isNone)) = false := by rfl) :
    wpAny M A (callWith pos (.ref q) first (backTo pos (starEach [] env)) (backToKw pos (keywordEach kws env))) Q E s :=
  callWith_of hplain (keeps_M hf) (evalArgs_kw2_nil hall h)
end
theorem news_rot {h₀ h : Heap} {L : Addr} {a b c d : Addr × Obj} {l : List (Addr × Obj)} (N : News h₀ L h (a :: b :: c :: d :: l)) : News h₀ L h (c :: d :: a :: b :: l) := fun p hp => N p (by
  simp only [List.mem_cons] at hp ⊢
  rcases hp with h | h | h | h | h <;> simp [h])
end
example {M : Model} {A : Around} {E Q : Value → Shared → Prop} {s : Shared} (h : wpAny M A (pure .none) Q E s) : wpAny M A (pure .none) Q E s := by
  w_top off
  first
    | (walk1; fail)
    | exact h
section
local macro_rules | `(tactic| k_lt $h:ident) => `(tactic| (replace $h := allLt_of $h; simp only [AllLt, and_true] at $h:ident))
theorem kl_ins0 (xs : List Value) (y : Value) : kl_ins xs.toArray.toList 0 y = y :: xs := by simp [kl_ins]
theorem lt_of_allLt {d : Addr} : ∀ {l : List (Addr × Obj)}, AllLt d l → ∀ p ∈ l, p.1 < d
  | [], _, _, h => nomatch h
  | q :: l, h, p, hp => by
    rcases List.mem_cons.mp hp with rfl | hp
    · exact h.1
    · exact lt_of_allLt h.2 p hp

section
variable {w : World} {A₀ A : Around} {base h₀ : Heap} {env : Env} {outer : List Env} {L : Addr} {m mg mb : Str → Option Value} {p : Program} {loose : List Str} {mean : ExcName → Option Value} {s : Shared} {Q E : Value → Shared → Prop} {news l : List (Addr × Obj)} {U : Obj → List (Addr × Obj)}

theorem spec_register_front {fd dfd hp : Addr} {cv pv fv : Value} {t1 t2 : Tok} {xs : List Value} {n : Nat}
    (hA : A.frames = some (env :: outer)) (hh : A.handled = none) (hd : A.depth ≤ 350) (hu : A.units ≤ 900) (hf : env.frame = some L) (hke : env.scope.kind = .function)
    (B : Below A₀ base outer h₀) (F : Fr h₀ L s.heap m) (X : (Mine.hd.heap_39 w.params).In h₀) (T : Top p loose mean mg mb h₀)
    (N : News h₀ L s.heap ((hp, W.listOf xs.toArray n) :: news))
    (ne : ∀ p ∈ news, p.1 ≠ hp) (m1 : (fd, fdObj dfd) ∈ news) (m2 : (dfd, fdDict w t1 t2 cv hp) ∈ news) (hl : xs.length ≤ 100)
    (hQ : ∀ tup h' tk, Fr h₀ L h' m → News h₀ L h' ((tup, tupObj [pv, fv, .bool false, .bool false]) :: (hp, W.listOf (.ref tup :: xs).toArray (n + 1)) :: news) → (∀ q ∈ (hp, W.listOf xs.toArray n) :: news, q.1 < tup) → Q .none { s with heap := h', toks := tk }) :
    wpAny (model PROG w) A (call (.ref 45) [.ref fd, pv, fv] []) Q E s := by
  refine wp_le 350 900 hA hh hd hu ?_
  walk_at "MY:enter"
  (focus ((iterate 24 walk1)))
  k_dflt (refine' kl_insert (its := xs.toArray) (n := n) ?F ?N ?f (kl_ins0 _ _) (Upd.tail ?a (Upd.head ?b)) ?z ?_)
  (case F => k_asm); (case N => k_asm); (case f => rfl)
  (case a => rename _ ∧ AllLt _ _ => l1; exact Nat.ne_of_gt l1.1); (case b => assumption)
  (case z => exact Nat.le_trans hl (by decide))
  intro h2' F2' N2'
  rename _ ∧ AllLt _ _ => l1
  (focus ((iterate 3 walk1)))
  exact hQ _ _ _ (by assumption) (by assumption) (by intro q hq; rcases List.mem_cons.mp hq with rfl | hq; exact l1.1; exact lt_of_allLt l1.2 q hq)

theorem spec_register {fd dfd hp : Addr} {cv pv fv : Value} {t1 t2 : Tok} {xs : List Value} {n : Nat}
    (hA : A.frames = some (env :: outer)) (hh : A.handled = none) (hd : A.depth ≤ 350) (hu : A.units ≤ 900) (hf : env.frame = some L) (hke : env.scope.kind = .function)
    (B : Below A₀ base outer h₀) (F : Fr h₀ L s.heap m) (X : (Mine.hd.heap_39 w.params).In h₀) (T : Top p loose mean mg mb h₀)
    (N : News h₀ L s.heap l) (u : Upd1 hp (W.listOf xs.toArray n) l U)
    (m1 : (fd, fdObj dfd) ∈ l) (m2 : (dfd, fdDict w t1 t2 cv hp) ∈ l) (hl : xs.length ≤ 100)
    (hQ : ∀ tup h' tk, Fr h₀ L h' m → News h₀ L h' ((tup, tupObj [pv, fv, .bool false, .bool false]) :: U (W.listOf (.ref tup :: xs).toArray (n + 1))) → (∀ q ∈ l, q.1 < tup) → Q .none { s with heap := h', toks := tk }) :
    wpAny (model PROG w) A (call (.ref 45) [.ref fd, pv, fv] []) Q E s := by
  refine spec_register_front hA hh hd hu hf hke B F X T (u.front N) off_ne (off1_mem m1 (nApart N m1 u.m (by intro e; cases e))) (off1_mem m2 (nApart N m2 u.m (by intro e; exact absurd (Value.type.inj e) (by decide)))) hl fun tup h' tk F' N' lt => hQ tup h' tk F' ?_ ?_
  · intro p hp
    rcases List.mem_cons.mp hp with rfl | hp
    · exact N' _ List.mem_cons_self
    · exact u.back N' (fun p hp => hp.elim (fun e => e ▸ List.mem_cons_of_mem _ List.mem_cons_self) fun h => List.mem_cons_of_mem _ (List.mem_cons_of_mem _ h)) p hp
  · intro q hq
    by_cases e : q.1 = hp
    · exact e ▸ lt (hp, _) List.mem_cons_self
    · exact lt q (List.mem_cons_of_mem _ (off1_mem hq e))
end

section
variable {w : World} {A₀ A : Around} {base h₀ : Heap} {env : Env} {outer : List Env} {L : Addr} {m mg mb : Str → Option Value} {p : Program} {loose : List Str} {mean : ExcName → Option Value} {s : Shared} {Q E : Value → Shared → Prop} {news l : List (Addr × Obj)} {U : Obj → List (Addr × Obj)}

theorem spec_registerG_front {fd dfd hp : Addr} {cv pv fv gv : Value} {t1 t2 : Tok} {xs : List Value} {n : Nat}
    (hA : A.frames = some (env :: outer)) (hh : A.handled = none) (hd : A.depth ≤ 350) (hu : A.units ≤ 900) (hf : env.frame = some L) (hke : env.scope.kind = .function)
    (B : Below A₀ base outer h₀) (F : Fr h₀ L s.heap m) (X : (Mine.hd.heap_39 w.params).In h₀) (T : Top p loose mean mg mb h₀)
    (N : News h₀ L s.heap ((hp, W.listOf xs.toArray n) :: news))
    (ne : ∀ p ∈ news, p.1 ≠ hp) (m1 : (fd, fdObj dfd) ∈ news) (m2 : (dfd, fdDict w t1 t2 cv hp) ∈ news) (hl : xs.length ≤ 100)
    (hQ : ∀ tup h' tk, Fr h₀ L h' m → News h₀ L h' ((tup, tupObj [pv, fv, gv, .bool false]) :: (hp, W.listOf (.ref tup :: xs).toArray (n + 1)) :: news) → (∀ q ∈ (hp, W.listOf xs.toArray n) :: news, q.1 < tup) → Q .none { s with heap := h', toks := tk }) :
    wpAny (model PROG w) A (call (.ref 45) [.ref fd, pv, fv] [("is_generator", gv)]) Q E s := by
  refine wp_le 350 900 hA hh hd hu ?_
  walk_at "MY:enter"
  (focus ((iterate 24 walk1)))
  k_dflt (refine' kl_insert (its := xs.toArray) (n := n) ?F ?N ?f (kl_ins0 _ _) (Upd.tail ?a (Upd.head ?b)) ?z ?_)
  (case F => k_asm); (case N => k_asm); (case f => rfl)
  (case a => rename _ ∧ AllLt _ _ => l1; exact Nat.ne_of_gt l1.1); (case b => assumption)
  (case z => exact Nat.le_trans hl (by decide))
  intro h2' F2' N2'
  rename _ ∧ AllLt _ _ => l1
  (focus ((iterate 3 walk1)))
  exact hQ _ _ _ (by assumption) (by assumption) (by intro q hq; rcases List.mem_cons.mp hq with rfl | hq; exact l1.1; exact lt_of_allLt l1.2 q hq)

theorem spec_registerG {fd dfd hp : Addr} {cv pv fv gv : Value} {t1 t2 : Tok} {xs : List Value} {n : Nat}
    (hA : A.frames = some (env :: outer)) (hh : A.handled = none) (hd : A.depth ≤ 350) (hu : A.units ≤ 900) (hf : env.frame = some L) (hke : env.scope.kind = .function)
    (B : Below A₀ base outer h₀) (F : Fr h₀ L s.heap m) (X : (Mine.hd.heap_39 w.params).In h₀) (T : Top p loose mean mg mb h₀)
    (N : News h₀ L s.heap l) (u : Upd1 hp (W.listOf xs.toArray n) l U)
    (m1 : (fd, fdObj dfd) ∈ l) (m2 : (dfd, fdDict w t1 t2 cv hp) ∈ l) (hl : xs.length ≤ 100)
    (hQ : ∀ tup h' tk, Fr h₀ L h' m → News h₀ L h' ((tup, tupObj [pv, fv, gv, .bool false]) :: U (W.listOf (.ref tup :: xs).toArray (n + 1))) → (∀ q ∈ l, q.1 < tup) → Q .none { s with heap := h', toks := tk }) :
    wpAny (model PROG w) A (call (.ref 45) [.ref fd, pv, fv] [("is_generator", gv)]) Q E s := by
  refine spec_registerG_front hA hh hd hu hf hke B F X T (u.front N) off_ne (off1_mem m1 (nApart N m1 u.m (by intro e; cases e))) (off1_mem m2 (nApart N m2 u.m (by intro e; exact absurd (Value.type.inj e) (by decide)))) hl fun tup h' tk F' N' lt => hQ tup h' tk F' ?_ ?_
  · intro p hp
    rcases List.mem_cons.mp hp with rfl | hp
    · exact N' _ List.mem_cons_self
    · exact u.back N' (fun p hp => hp.elim (fun e => e ▸ List.mem_cons_of_mem _ List.mem_cons_self) fun h => List.mem_cons_of_mem _ (List.mem_cons_of_mem _ h)) p hp
  · intro q hq
    by_cases e : q.1 = hp
    · exact e ▸ lt (hp, _) List.mem_cons_self
    · exact lt q (List.mem_cons_of_mem _ (off1_mem hq e))
end
end
example {M : Model} {A : Around} {E Q : Value → Shared → Prop} {s : Shared} (h : wpAny M A (pure .none) Q E s) : wpAny M A (pure .none) Q E s := by
  w_top off
  first
    | (walk1; fail)
    | exact h
section
section
variable {w : World} {A₀ A : Around} {base h₀ : Heap} {env : Env} {outer : List Env} {L : Addr} {m mg mb : Str → Option Value} {p : Program} {loose : List Str} {mean : ExcName → Option Value} {s : Shared} {Q E : Value → Shared → Prop} {news l : List (Addr × Obj)} {U : Obj → List (Addr × Obj)}

theorem dict_clear_method {d : Addr} {o : Obj} {K : Type} [DecidableEq K] {knd : KeyKind PROG w K} {kvs : List (K × Value)} {pl : Sem Bool} {Q : Value × List Value → Shared → Prop} (N : News h₀ L s.heap news) (hp : (d, o) ∈ news) (hd : o.IsDictOf knd kvs) (h : Q (.builtin "dict.clear", [.ref d]) s) :
    wpAny (model PROG w) A (getMethod (.ref d) "clear" pl) Q E s :=
  have hD := kda_dict N hp hd
  getMethod_builtin hD.typeIs PySem.F.plainAttrs_dict PySem.F.slot_dict_clear PySem.F.type_dict_clear hD.mapOf.noDict h
theorem spec_clear_front {ms dms dd fd bm : Addr} {od : Obj} {ff : Value} {t1 t2 t3 t4 : Tok}
    (hA : A.frames = some (env :: outer)) (hh : A.handled = none) (hd : A.depth ≤ 350) (hu : A.units ≤ 900) (hf : env.frame = some L) (hke : env.scope.kind = .function)
    (B : Below A₀ base outer h₀) (F : Fr h₀ L s.heap m) (X : (Mine.hd.heap_39 w.params).In h₀) (T : Top p loose mean mg mb h₀)
    (N : News h₀ L s.heap ((dd, od) :: news)) (hod : od.IsDictOf (strKind PROG w) [])
    (ne : ∀ p ∈ news, p.1 ≠ dd) (m1 : (ms, msObj dms) ∈ news) (m2 : (dms, msDict w t1 t2 t3 t4 ff dd fd bm) ∈ news)
    (hQ : ∀ od' h' tk, Fr h₀ L h' m → News h₀ L h' ((dd, od') :: news) → od'.IsDictOf (strKind PROG w) [] → Q .none { s with heap := h', toks := tk }) :
    wpAny (model PROG w) A (call (.ref 117) [.ref ms] []) Q E s := by
  refine wp_le 350 900 hA hh hd hu ?_
  walk_at "MY:enter"
  (focus ((iterate 7 walk1)))
  k_dflt (refine dict_clear_method (knd := strKind PROG w) (kvs := []) (by k_asm) (by k_mem) hod ?_)
  (focus (walk1))
  k_dflt (refine kt_clear_K (knd := strKind PROG w) (enc := PyData.str) (D := []) (by k_asm) (by k_asm) (UpdF.head ne) hod (by first | exact .nil | constructor | simp [PyProof.V.FlatPairs]) ?_ (by decide))
  intro h2' o2' F2' N2' hd2 _
  (focus ((iterate 2 walk1)))
  exact hQ _ _ _ (by assumption) (by assumption) hd2

theorem spec_clear {ms dms dd fd bm : Addr} {od : Obj} {ff : Value} {t1 t2 t3 t4 : Tok}
    (hA : A.frames = some (env :: outer)) (hh : A.handled = none) (hd : A.depth ≤ 350) (hu : A.units ≤ 900) (hf : env.frame = some L) (hke : env.scope.kind = .function)
    (B : Below A₀ base outer h₀) (F : Fr h₀ L s.heap m) (X : (Mine.hd.heap_39 w.params).In h₀) (T : Top p loose mean mg mb h₀)
    (N : News h₀ L s.heap l) (hod : od.IsDictOf (strKind PROG w) []) (u : Upd1 dd od l U)
    (m1 : (ms, msObj dms) ∈ l) (m2 : (dms, msDict w t1 t2 t3 t4 ff dd fd bm) ∈ l) (n1 : ms ≠ dd) (n2 : dms ≠ dd)
    (hQ : ∀ od' h' tk, Fr h₀ L h' m → News h₀ L h' (U od') → od'.IsDictOf (strKind PROG w) [] → Q .none { s with heap := h', toks := tk }) :
    wpAny (model PROG w) A (call (.ref 117) [.ref ms] []) Q E s :=
  spec_clear_front hA hh hd hu hf hke B F X T (u.front N) hod off_ne (off1_mem m1 n1) (off1_mem m2 n2) fun od' h' tk F' N' hd' => hQ od' h' tk F' (u.back N' fun p hp => List.mem_cons.mpr hp) hd'
theorem spec_cache_front {ms dms dd fd bm : Addr} {od : Obj} {ff : Value} {t1 t2 t3 t4 : Tok}
    (hA : A.frames = some (env :: outer)) (hh : A.handled = none) (hd : A.depth ≤ 350) (hu : A.units ≤ 900) (hf : env.frame = some L) (hke : env.scope.kind = .function)
    (B : Below A₀ base outer h₀) (F : Fr h₀ L s.heap m) (X : (Mine.hd.heap_39 w.params).In h₀) (T : Top p loose mean mg mb h₀)
    (N : News h₀ L s.heap ((dd, od) :: news)) (hod : od.IsDictOf (strKind PROG w) [])
    (ne : ∀ p ∈ news, p.1 ≠ dd) (m1 : (ms, msObj dms) ∈ news) (m2 : (dms, msDict w t1 t2 t3 t4 ff dd fd bm) ∈ news)
    (hQ : ∀ od' h' tk, Fr h₀ L h' m → News h₀ L h' ((dd, od') :: news) → od'.IsDictOf (strKind PROG w) [] → Q .none { s with heap := h', toks := tk }) :
    wpAny (model PROG w) A (call (.ref 124) [.ref ms] []) Q E s := by
  refine wp_le 350 900 hA hh hd hu ?_
  walk_at "MY:enter"
  (focus ((iterate 7 walk1)))
  k_dflt (refine dict_clear_method (knd := strKind PROG w) (kvs := []) (by k_asm) (by k_mem) hod ?_)
  (focus (walk1))
  k_dflt (refine kt_clear_K (knd := strKind PROG w) (enc := PyData.str) (D := []) (by k_asm) (by k_asm) (UpdF.head ne) hod (by first | exact .nil | constructor | simp [PyProof.V.FlatPairs]) ?_ (by decide))
  intro h2' o2' F2' N2' hd2 _
  (focus ((iterate 2 walk1)))
  exact hQ _ _ _ (by assumption) (by assumption) hd2

theorem spec_cache {ms dms dd fd bm : Addr} {od : Obj} {ff : Value} {t1 t2 t3 t4 : Tok}
    (hA : A.frames = some (env :: outer)) (hh : A.handled = none) (hd : A.depth ≤ 350) (hu : A.units ≤ 900) (hf : env.frame = some L) (hke : env.scope.kind = .function)
    (B : Below A₀ base outer h₀) (F : Fr h₀ L s.heap m) (X : (Mine.hd.heap_39 w.params).In h₀) (T : Top p loose mean mg mb h₀)
    (N : News h₀ L s.heap l) (hod : od.IsDictOf (strKind PROG w) []) (u : Upd1 dd od l U)
    (m1 : (ms, msObj dms) ∈ l) (m2 : (dms, msDict w t1 t2 t3 t4 ff dd fd bm) ∈ l) (n1 : ms ≠ dd) (n2 : dms ≠ dd)
    (hQ : ∀ od' h' tk, Fr h₀ L h' m → News h₀ L h' (U od') → od'.IsDictOf (strKind PROG w) [] → Q .none { s with heap := h', toks := tk }) :
    wpAny (model PROG w) A (call (.ref 124) [.ref ms] []) Q E s :=
  spec_cache_front hA hh hd hu hf hke B F X T (u.front N) hod off_ne (off1_mem m1 n1) (off1_mem m2 n2) fun od' h' tk F' N' hd' => hQ od' h' tk F' (u.back N' fun p hp => List.mem_cons.mpr hp) hd'
end
end
example {M : Model} {A : Around} {E Q : Value → Shared → Prop} {s : Shared} (h : wpAny M A (pure .none) Q E s) : wpAny M A (pure .none) Q E s := by
  w_top off
  first
    | (walk1; fail)
    | exact h
section
section
variable {w : World} {A₀ A : Around} {base h₀ : Heap} {env : Env} {outer : List Env} {L : Addr} {m mg mb : Str → Option Value} {p : Program} {loose : List Str} {mean : ExcName → Option Value} {s : Shared} {Q E : Value → Shared → Prop} {news l : List (Addr × Obj)}
theorem spec_num {ms dms dd fd dfd hp bm : Addr} {ff cv : Value} {t1 t2 t3 t4 t5 t6 : Tok} {xs : List Value} {n : Nat}
    (hA : A.frames = some (env :: outer)) (hh : A.handled = none) (hd : A.depth ≤ 345) (hu : A.units ≤ 850) (hf : env.frame = some L) (hke : env.scope.kind = .function)
    (B : Below A₀ base outer h₀) (F : Fr h₀ L s.heap m) (X : (Mine.hd.heap_39 w.params).In h₀) (T : Top p loose mean mg mb h₀)
    (N : News h₀ L s.heap l) (hl : xs.length ≤ 100)
    (m1 : (ms, msObj dms) ∈ l) (m2 : (dms, msDict w t1 t2 t3 t4 ff dd fd bm) ∈ l) (m3 : (fd, fdObj dfd) ∈ l) (m4 : (dfd, fdDict w t5 t6 cv hp) ∈ l) (m5 : (hp, W.listOf xs.toArray n) ∈ l)
    (hQ : ∀ t h' tk, Fr h₀ L h' m → News h₀ L h' l → Q (.int xs.length t) { s with heap := h', toks := tk }) :
    wpAny (model PROG w) A (call (.ref 131) [.ref ms] []) Q E s := by
  refine wp_le 345 850 hA hh hd hu ?_
  walk_at "MY:enter"
  (focus ((iterate 9 walk1)))
  (focus (walk1))
  (focus ((iterate 11 walk1)))
  k_dflt (refine Calls.call_len_list (items := xs.toArray) ⟨_, News.get (by k_asm) m5, rfl, n, rfl⟩ (by rw [List.size_toArray]; omega) ?_)
  rw [List.size_toArray]
  (focus ((k_unfold; (try dsimp only)); (iterate 2 walk1)))
  exact hQ _ _ _ (by assumption) (by assumption)
end
end
example {M : Model} {A : Around} {E Q : Value → Shared → Prop} {s : Shared} (h : wpAny M A (pure .none) Q E s) : wpAny M A (pure .none) Q E s := by
  w_top off
  first
    | (walk1; fail)
    | exact h
section
/-- a lambda's text, read out of the program's own function -/
structure Lam where
  params : Arguments
  body : Expr
  scope : Scope
noncomputable def bodyAt (P : Params) (a : Addr) : List Stmt := match (Mine.hd.heap_39 P).lookup a with
  | some o => match o.data with
    | .func fd => match fd.body with
      | .stmts l => l
      | _ => []
    | _ => []
  | _ => []
def exLam : Expr → Option Lam
  | .Lambda p b s _ => some ⟨p, b, s⟩
  | _ => none
def exArg (i : Nat) : Expr → Option Expr
  | .Call _ as _ _ => as[i]?
  | _ => none
def exElt (i : Nat) : Expr → Option Expr
  | .List es _ => es[i]?
  | .Tuple es _ _ => es[i]?
  | _ => none
def stEx : Stmt → Option Expr
  | .Expr e _ => some e
  | .Assign _ v _ => some v
  | .Return v _ => v
  | _ => none
def stBody : Stmt → List Stmt
  | .If _ b _ _ => b
  | _ => []
def stElse : Stmt → List Stmt
  | .If _ _ b _ => b
  | _ => []
def lamOf (l : List Stmt) (i : Nat) (f : Expr → Option Expr) : Option Lam := l[i]?.bind fun st => (stEx st).bind fun e => (f e).bind exLam
noncomputable def ifOf (l : List Stmt) : Nat → List Stmt
  | 0 => match l with | st :: _ => stBody st | [] => []
  | k + 1 => match l with | st :: _ => ifOf (stElse st) k | [] => []
noncomputable def elseOf (l : List Stmt) : Nat → List Stmt
  | 0 => l
  | k + 1 => match l with | st :: _ => elseOf (stElse st) k | [] => []
def lPA' : {u : Lam // ∀ P, lamOf (bodyAt P 231) 3 (fun e => (exArg 0 e).bind fun e => (exElt 0 e).bind (exElt 0)) = some u} := ⟨_, fun _ => rfl⟩
def lPB' : {u : Lam // ∀ P, lamOf (bodyAt P 231) 5 (fun e => (exArg 0 e).bind fun e => (exElt 0 e).bind (exElt 0)) = some u} := ⟨_, fun _ => rfl⟩
def lHB' : {u : Lam // ∀ P, lamOf (bodyAt P 231) 5 (fun e => (exArg 0 e).bind fun e => (exElt 0 e).bind (exElt 1)) = some u} := ⟨_, fun _ => rfl⟩
def lPC' : {u : Lam // ∀ P, lamOf (bodyAt P 231) 6 (fun e => (exArg 0 e).bind fun e => (exElt 0 e).bind (exElt 0)) = some u} := ⟨_, fun _ => rfl⟩
def lOut' : {u : Lam // ∀ P, lamOf (bodyAt P 452) 1 some = some u} := ⟨_, fun _ => rfl⟩
def lInto' : {u : Lam // ∀ P, lamOf (bodyAt P 452) 2 some = some u} := ⟨_, fun _ => rfl⟩
def lLastOut' : {u : Lam // ∀ P, lamOf (bodyAt P 438) 0 some = some u} := ⟨_, fun _ => rfl⟩
def lLastIn' : {u : Lam // ∀ P, lamOf (bodyAt P 445) 0 some = some u} := ⟨_, fun _ => rfl⟩
def lIs' : {u : Lam // ∀ P, lamOf (bodyAt P 459) 0 some = some u} := ⟨_, fun _ => rfl⟩
def lMadeIn' : {u : Lam // ∀ P, lamOf (bodyAt P 473) 0 some = some u} := ⟨_, fun _ => rfl⟩
def lMadeOut' : {u : Lam // ∀ P, lamOf (bodyAt P 480) 0 some = some u} := ⟨_, fun _ => rfl⟩
def lR0' : {u : Lam // ∀ P, lamOf (ifOf (bodyAt P 487) 0) 0 (exArg 1) = some u} := ⟨_, fun _ => rfl⟩
def lR1' : {u : Lam // ∀ P, lamOf (ifOf (bodyAt P 487) 1) 0 (exArg 1) = some u} := ⟨_, fun _ => rfl⟩
def lR2' : {u : Lam // ∀ P, lamOf (ifOf (bodyAt P 487) 2) 0 (exArg 1) = some u} := ⟨_, fun _ => rfl⟩
def lR3' : {u : Lam // ∀ P, lamOf (elseOf (bodyAt P 487) 3) 0 (exArg 1) = some u} := ⟨_, fun _ => rfl⟩
abbrev lPA := lPA'.1
abbrev lPB := lPB'.1
abbrev lHB := lHB'.1
abbrev lPC := lPC'.1
abbrev lOut := lOut'.1
abbrev lInto := lInto'.1
abbrev lLastOut := lLastOut'.1
abbrev lLastIn := lLastIn'.1
abbrev lIs := lIs'.1
abbrev lMadeIn := lMadeIn'.1
abbrev lMadeOut := lMadeOut'.1
abbrev lR0 := lR0'.1
abbrev lR1 := lR1'.1
abbrev lR2 := lR2'.1
abbrev lR3 := lR3'.1
abbrev qLam (s : String) : Str := Str.ofString s ++ Str.ofString ".<locals>." ++ Str.ofString "<lambda>"
/-- f is that lambda, closed over clos -/
def LamAt (l : List (Addr × Obj)) (f : Addr) (q : Str) (u : Lam) (clos : List (Str × Addr)) : Prop :=
  ∃ pm c' ctv oc vs t, (f, kla_obj "<lambda>" q u.params u.body u.scope clos pm c' ctv) ∈ l ∧ (c', oc) ∈ l ∧ oc.data = .fields vs ∧ vs[1]? = some (.str q t)
theorem LamAt.mono {l l' : List (Addr × Obj)} {f : Addr} {q : Str} {u : Lam} {clos : List (Str × Addr)} (h : LamAt l f q u clos) (k : ∀ p ∈ l, p ∈ l') : LamAt l' f q u clos :=
  let ⟨pm, c', ctv, oc, vs, t, a, b, r⟩ := h; ⟨pm, c', ctv, oc, vs, t, k _ a, k _ b, r⟩
structure Disp where
  ms : Addr
  dms : Addr
  dd : Addr
  fd : Addr
  dfd : Addr
  hp : Addr
  bm : Addr
/-- what of a dispatcher stands for good -/
structure DispAt (w : World) (l : List (Addr × Obj)) (D : Disp) (ff : Value) : Prop where
  ms : (D.ms, msObj D.dms) ∈ l
  dms : ∃ t1 t2 t3 t4, (D.dms, msDict w t1 t2 t3 t4 ff D.dd D.fd D.bm) ∈ l
  fd : (D.fd, fdObj D.dfd) ∈ l
  bm : (D.bm, methodObj (.ref 95) (.ref D.ms)) ∈ l
theorem DispAt.mono {w : World} {l l' : List (Addr × Obj)} {D : Disp} {ff : Value} (h : DispAt w l D ff) (k : ∀ p ∈ l, p ∈ l') : DispAt w l' D ff :=
  ⟨k _ h.ms, let ⟨a, b, c, d, e⟩ := h.dms; ⟨a, b, c, d, k _ e⟩, k _ h.fd, k _ h.bm⟩
/-- what the three first hooks are -/
structure Firsts (l : List (Addr × Obj)) (x tO tB tC : Addr) : Prop where
  o : ∃ f b, (tO, tupObj [.ref f, .ref b, .bool false, .bool false]) ∈ l ∧ (b, methodObj (.ref 239) (.ref x)) ∈ l ∧ LamAt l f (qLam "BaseConverter.__init__") lPA []
  b : ∃ f g, (tB, tupObj [.ref f, .ref g, .bool false, .bool false]) ∈ l ∧ LamAt l f (qLam "BaseConverter.__init__") lPB [] ∧ LamAt l g (qLam "BaseConverter.__init__") lHB []
  c : ∃ f, (tC, tupObj [.ref f, .ref 299, .bool false, .bool false]) ∈ l ∧ LamAt l f (qLam "BaseConverter.__init__") lPC []
theorem Firsts.mono {l l' : List (Addr × Obj)} {x tO tB tC : Addr} (h : Firsts l x tO tB tC) (k : ∀ p ∈ l, p ∈ l') : Firsts l' x tO tB tC :=
  ⟨let ⟨f, b, a, c, d⟩ := h.o; ⟨f, b, k _ a, k _ c, d.mono k⟩, let ⟨f, g, a, c, d⟩ := h.b; ⟨f, g, k _ a, c.mono k, d.mono k⟩, let ⟨f, a, c⟩ := h.c; ⟨f, k _ a, c.mono k⟩⟩
end
example {M : Model} {A : Around} {E Q : Value → Shared → Prop} {s : Shared} (h : wpAny M A (pure .none) Q E s) : wpAny M A (pure .none) Q E s := by
  w_top off
  first
    | (walk1; fail)
    | exact h
section
section
variable {w : World} {A₀ A : Around} {base h₀ : Heap} {env : Env} {outer : List Env} {L : Addr} {m mg mb : Str → Option Value} {p : Program} {loose : List Str} {mean : ExcName → Option Value} {s : Shared} {Q E : Value → Shared → Prop} {news : List (Addr × Obj)}

theorem spec_makeFd {cv : Value}
    (hA : A.frames = some (env :: outer)) (hh : A.handled = none) (hd : A.depth ≤ 350) (hu : A.units ≤ 900) (hf : env.frame = some L) (hke : env.scope.kind = .function)
    (B : Below A₀ base outer h₀) (F : Fr h₀ L s.heap m) (X : (Mine.hd.heap_39 w.params).In h₀) (T : Top p loose mean mg mb h₀)
    (N : News h₀ L s.heap news)
    (hQ : ∀ fd dfd hp t1 t2 h' tk, Fr h₀ L h' m → News h₀ L h' ((hp, W.listOf [].toArray 0) :: (fd, fdObj dfd) :: (dfd, fdDict w t1 t2 cv hp) :: news) → AllLt dfd news → @LT.lt Nat _ dfd fd → @LT.lt Nat _ fd hp → Q (.ref fd) { s with heap := h', toks := tk }) :
    wpAny (model PROG w) A (call (.ref 70) [cv] []) Q E s := by
  refine wp_le 350 900 hA hh hd hu ?_
  walk_at "MY:make"
  (focus ((iterate 16 walk1)))
  refine hQ _ _ _ _ _ _ _ (by assumption) (by assumption) ?_ ?_ ?_ <;> walk_at "MY:ord"
end
end
example {M : Model} {A : Around} {E Q : Value → Shared → Prop} {s : Shared} (h : wpAny M A (pure .none) Q E s) : wpAny M A (pure .none) Q E s := by
  w_top off
  first
    | (walk1; fail)
    | exact h
section
local macro_rules | `(tactic| walk_at "eval Name") => `(tactic| (k_here; k_dflt (refine' ld ?k1 ?k2 ?_; (case k1 => k_asm); (case k2 => first | exact rfl | assumption))))
local macro_rules | `(tactic| walk_at "call ref") => `(tactic| (k_here; k_dflt (refine spec_register (by rfl) (by rfl) (Nat.le_of_ble_eq_true (by rfl)) (Nat.le_of_ble_eq_true (by rfl)) (by rfl) (by rfl) (by k_asm) (by k_asm) (by k_asm) (by k_asm) (by k_asm) (Upd1.tail (by assumption) (Upd1.head ?_)) (by k_mem) (by k_mem) (by assumption) ?_)))
section
variable {w : World} {A₀ A : Around} {base h₀ : Heap} {env : Env} {outer : List Env} {L : Addr} {m mg mb : Str → Option Value} {p : Program} {loose : List Str} {mean : ExcName → Option Value} {s : Shared} {Q E : Value → Shared → Prop} {news l : List (Addr × Obj)}
variable {U : Obj → Obj → List (Addr × Obj)}

theorem spec_rfl2_front {ms dms dd fd dfd hp bm lst t0 : Addr} {od : Obj} {ff cv pv fv : Value} {t1 t2 t3 t4 t5 t6 : Tok} {xs : List Value} {n : Nat}
    (hA : A.frames = some (env :: outer)) (hh : A.handled = none) (hd : A.depth ≤ 340) (hu : A.units ≤ 800) (hf : env.frame = some L) (hke : env.scope.kind = .function)
    (B : Below A₀ base outer h₀) (F : Fr h₀ L s.heap m) (X : (Mine.hd.heap_39 w.params).In h₀) (T : Top p loose mean mg mb h₀)
    (N : News h₀ L s.heap ((hp, W.listOf xs.toArray n) :: (dd, od) :: news)) (hod : od.IsDictOf (strKind PROG w) [])
    (ne1 : ∀ p ∈ news, p.1 ≠ hp) (ne2 : ∀ p ∈ news, p.1 ≠ dd) (ne3 : hp ≠ dd) (hl : xs.length ≤ 100)
    (m1 : (ms, msObj dms) ∈ news) (m2 : (dms, msDict w t1 t2 t3 t4 ff dd fd bm) ∈ news) (m3 : (fd, fdObj dfd) ∈ news) (m4 : (dfd, fdDict w t5 t6 cv hp) ∈ news)
    (m5 : (lst, W.listOf [.ref t0].toArray 0) ∈ news) (m6 : (t0, tupObj [pv, fv]) ∈ news)
    (hQ : ∀ tup od' h' tk, Fr h₀ L h' m → News h₀ L h' ((tup, tupObj [pv, fv, .bool false, .bool false]) :: (hp, W.listOf (.ref tup :: xs).toArray (n + 1)) :: (dd, od') :: news) → (∀ q ∈ (hp, W.listOf xs.toArray n) :: (dd, od) :: news, q.1 < tup) →
      od'.IsDictOf (strKind PROG w) [] → Q .none { s with heap := h', toks := tk }) :
    wpAny (model PROG w) A (call (.ref 110) [.ref ms, .ref lst] []) Q E s := by
  refine wp_le 340 800 hA hh hd hu ?_
  walk_at "MY:enter"
  (focus ((iterate 2 walk1)))
  refine wpAny_For ?_ 
  (focus (walk1))
  refine for_list (vs := [.ref t0]) (nn := 0) (fun i m' nw => m' "self" = some (.ref ms) ∧ ((i = 0 ∧ nw = (hp, W.listOf xs.toArray n) :: (dd, od) :: news) ∨ (i = 1 ∧ ∃ tup, nw = (tup, tupObj [pv, fv, .bool false, .bool false]) :: (hp, W.listOf (.ref tup :: xs).toArray (n + 1)) :: (dd, od) :: news ∧ (∀ q ∈ (hp, W.listOf xs.toArray n) :: (dd, od) :: news, q.1 < tup)))) rfl (by k_asm) (by k_asm) ⟨rfl, .inl ⟨rfl, rfl⟩⟩ ?_ ?_ ?_
  · rintro i m' nw ⟨_, ⟨_, rfl⟩ | ⟨_, tup, rfl, _⟩⟩ <;> k_mem
  · rintro I i v m₁ news₁ hx tkx it hv ⟨hself, hJ⟩ hI hoff hc F1 N1
    rcases i with _ | i
    · obtain rfl : v = .ref t0 := by simpa using hv.symm
      rcases hJ with ⟨_, rfl⟩ | ⟨h1, _⟩
      · clear hv
        (try k_fold)
        have hIhp : I ≠ hp := fun e => hoff _ List.mem_cons_self e.symm
        (focus ((iterate 2 walk1); (k_unfold; (try dsimp only)); (iterate 41 walk1)))
        refine spec_register (by rfl) (by rfl) (Nat.le_of_ble_eq_true (by rfl)) (Nat.le_of_ble_eq_true (by rfl)) (by rfl) (by rfl) (by k_asm) (by k_asm) (by k_asm) (by k_asm) (by k_asm) (Upd1.tail (by assumption) (Upd1.head ?_)) (by k_mem) (by k_mem) (by assumption) ?_
        · exact List.forall_mem_cons.mpr ⟨Ne.symm ne3, ne1⟩
        intro tup h2 tk2 F2 N2 lt2
        (focus ((iterate 2 walk1)))
        refine ⟨_, _, _, (tup, tupObj [pv, fv, .bool false, .bool false]) :: (hp, W.listOf (.ref tup :: xs).toArray (n + 1)) :: (dd, od) :: news, rfl, F2, nSub N2 (by walk_at "MY:sub"), ?_, hself, .inr ⟨by first | rfl | trivial, tup, rfl, fun q hq => lt2 q (List.mem_cons_of_mem _ hq)⟩⟩
        exact List.forall_mem_cons.mpr ⟨Nat.ne_of_gt (lt2 _ List.mem_cons_self), List.forall_mem_cons.mpr ⟨fun e => hoff _ List.mem_cons_self e, fun q hq => hoff q (List.mem_cons_of_mem _ hq)⟩⟩
      · cases h1
    · simp at hv
  · rintro m₁ news₁ h3 tk3 ⟨hself, ⟨h0, _⟩ | ⟨_, tup, rfl, lt⟩⟩ F3 N3
    · cases h0
    · (try k_fold)
      (focus ((iterate 6 walk1)))
      refine spec_clear (by rfl) (by rfl) (Nat.le_of_ble_eq_true (by rfl)) (Nat.le_of_ble_eq_true (by rfl)) (by rfl) (by rfl) (by k_asm) (by k_asm) (by k_asm) (by k_asm) (by k_asm) hod (Upd1.tail (Nat.ne_of_gt (lt (dd, od) (by k_mem))) (Upd1.tail ne3 (Upd1.head ne2))) (by k_mem) (by k_mem) (ne2 _ m1) (ne2 _ m2) ?_
      intro od' h4 tk4 F4 N4 hod4
      (focus ((iterate 2 walk1)))
      exact hQ tup od' _ _ (by assumption) (by assumption) lt hod4

theorem spec_rfl2 {U : Obj → Obj → List (Addr × Obj)} {ms dms dd fd dfd hp bm lst t0 : Addr} {od : Obj} {ff cv pv fv : Value} {t1 t2 t3 t4 t5 t6 : Tok} {xs : List Value} {n : Nat}
    (hA : A.frames = some (env :: outer)) (hh : A.handled = none) (hd : A.depth ≤ 340) (hu : A.units ≤ 800) (hf : env.frame = some L) (hke : env.scope.kind = .function)
    (B : Below A₀ base outer h₀) (F : Fr h₀ L s.heap m) (X : (Mine.hd.heap_39 w.params).In h₀) (T : Top p loose mean mg mb h₀)
    (N : News h₀ L s.heap l) (hod : od.IsDictOf (strKind PROG w) []) (u : Upd2 hp (W.listOf xs.toArray n) dd od l U) (hl : xs.length ≤ 100)
    (m1 : (ms, msObj dms) ∈ l) (m2 : (dms, msDict w t1 t2 t3 t4 ff dd fd bm) ∈ l) (m3 : (fd, fdObj dfd) ∈ l) (m4 : (dfd, fdDict w t5 t6 cv hp) ∈ l)
    (m5 : (lst, W.listOf [.ref t0].toArray 0) ∈ l) (m6 : (t0, tupObj [pv, fv]) ∈ l) (n1 : dms ≠ dd) (n2 : dfd ≠ dd) (n3 : lst ≠ hp)
    (hQ : ∀ tup od' h' tk, Fr h₀ L h' m → News h₀ L h' ((tup, tupObj [pv, fv, .bool false, .bool false]) :: U (W.listOf (.ref tup :: xs).toArray (n + 1)) od') → (∀ q ∈ l, q.1 < tup) →
      od'.IsDictOf (strKind PROG w) [] → Q .none { s with heap := h', toks := tk }) :
    wpAny (model PROG w) A (call (.ref 110) [.ref ms, .ref lst] []) Q E s := by
  have key : ∀ {a : Addr} {o : Obj}, (a, o) ∈ l → a ≠ hp → a ≠ dd → (a, o) ∈ off1 dd (off1 hp l) := fun h a b => off1_mem (off1_mem h a) b
  have hcd : od.cls = .type "dict" := by obtain ⟨es, ep, he, _⟩ := hod; exact he.1
  refine spec_rfl2_front hA hh hd hu hf hke B F X T (u.front N) hod off2_ne off_ne u.ne hl (key m1 (nApart N m1 u.ma (by intro e; cases e)) (nApart N m1 u.mb (by rw [hcd]; intro e; cases e)))
    (key m2 (nApart N m2 u.ma (by intro e; exact absurd (Value.type.inj e) (by decide))) n1) (key m3 (nApart N m3 u.ma (by intro e; cases e)) (nApart N m3 u.mb (by rw [hcd]; intro e; cases e)))
    (key m4 (nApart N m4 u.ma (by intro e; exact absurd (Value.type.inj e) (by decide))) n2) (key m5 n3 (nApart N m5 u.mb (by rw [hcd]; intro e; exact absurd (Value.type.inj e) (by decide))))
    (key m6 (nApart N m6 u.ma (by intro e; exact absurd (Value.type.inj e) (by decide))) (nApart N m6 u.mb (by rw [hcd]; intro e; exact absurd (Value.type.inj e) (by decide))))
    fun tup od' h' tk F' N' lt hd' => hQ tup od' h' tk F' (fun p hp => ?_) (fun q hq => ?_) hd'
  · rcases List.mem_cons.mp hp with rfl | hp
    · exact N' _ List.mem_cons_self
    · refine u.back N' (fun p hp => ?_) p hp
      rcases hp with rfl | rfl | hp
      · exact List.mem_cons_of_mem _ List.mem_cons_self
      · exact List.mem_cons_of_mem _ (List.mem_cons_of_mem _ List.mem_cons_self)
      · exact List.mem_cons_of_mem _ (List.mem_cons_of_mem _ (List.mem_cons_of_mem _ hp))
  · by_cases e1 : q.1 = hp
    · exact e1 ▸ lt (hp, _) List.mem_cons_self
    · by_cases e2 : q.1 = dd
      · exact e2 ▸ lt (dd, _) (List.mem_cons_of_mem _ List.mem_cons_self)
      · exact lt q (List.mem_cons_of_mem _ (List.mem_cons_of_mem _ (key hq e1 e2)))
end
end
example {M : Model} {A : Around} {E Q : Value → Shared → Prop} {s : Shared} (h : wpAny M A (pure .none) Q E s) : wpAny M A (pure .none) Q E s := by
  w_top off
  first
    | (walk1; fail)
    | exact h
section
local macro_rules | `(tactic| walk_at "eval Name") => `(tactic| (k_here; k_dflt (refine' ld ?k1 ?k2 ?_; (case k1 => k_asm); (case k2 => first | exact rfl | assumption))))
local macro_rules | `(tactic| walk_at "call ref") => `(tactic| (k_here; k_dflt (refine spec_register (by rfl) (by rfl) (Nat.le_of_ble_eq_true (by rfl)) (Nat.le_of_ble_eq_true (by rfl)) (by rfl) (by rfl) (by k_asm) (by k_asm) (by k_asm) (by k_asm) (by k_asm) (Upd1.tail (by assumption) (Upd1.head ?_)) (by k_mem) (by k_mem) (by assumption) ?_)))
section
variable {w : World} {A₀ A : Around} {base h₀ : Heap} {env : Env} {outer : List Env} {L : Addr} {m mg mb : Str → Option Value} {p : Program} {loose : List Str} {mean : ExcName → Option Value} {s : Shared} {Q E : Value → Shared → Prop} {news l : List (Addr × Obj)}
variable {U : Obj → Obj → List (Addr × Obj)}

theorem spec_rfl3_front {ms dms dd fd dfd hp bm lst t0 : Addr} {od : Obj} {ff cv pv fv : Value} {t1 t2 t3 t4 t5 t6 : Tok} {xs : List Value} {n : Nat}
    (hA : A.frames = some (env :: outer)) (hh : A.handled = none) (hd : A.depth ≤ 340) (hu : A.units ≤ 800) (hf : env.frame = some L) (hke : env.scope.kind = .function)
    (B : Below A₀ base outer h₀) (F : Fr h₀ L s.heap m) (X : (Mine.hd.heap_39 w.params).In h₀) (T : Top p loose mean mg mb h₀)
    (N : News h₀ L s.heap ((hp, W.listOf xs.toArray n) :: (dd, od) :: news)) (hod : od.IsDictOf (strKind PROG w) [])
    (ne1 : ∀ p ∈ news, p.1 ≠ hp) (ne2 : ∀ p ∈ news, p.1 ≠ dd) (ne3 : hp ≠ dd) (hl : xs.length ≤ 100)
    (m1 : (ms, msObj dms) ∈ news) (m2 : (dms, msDict w t1 t2 t3 t4 ff dd fd bm) ∈ news) (m3 : (fd, fdObj dfd) ∈ news) (m4 : (dfd, fdDict w t5 t6 cv hp) ∈ news)
    (m5 : (lst, W.listOf [.ref t0].toArray 0) ∈ news) (m6 : (t0, tupObj [pv, fv, .bool true]) ∈ news)
    (hQ : ∀ tup od' h' tk, Fr h₀ L h' m → News h₀ L h' ((tup, tupObj [pv, fv, .bool true, .bool false]) :: (hp, W.listOf (.ref tup :: xs).toArray (n + 1)) :: (dd, od') :: news) → (∀ q ∈ (hp, W.listOf xs.toArray n) :: (dd, od) :: news, q.1 < tup) →
      od'.IsDictOf (strKind PROG w) [] → Q .none { s with heap := h', toks := tk }) :
    wpAny (model PROG w) A (call (.ref 110) [.ref ms, .ref lst] []) Q E s := by
  refine wp_le 340 800 hA hh hd hu ?_
  walk_at "MY:enter"
  (focus ((iterate 2 walk1)))
  refine wpAny_For ?_ 
  (focus (walk1))
  refine for_list (vs := [.ref t0]) (nn := 0) (fun i m' nw => m' "self" = some (.ref ms) ∧ ((i = 0 ∧ nw = (hp, W.listOf xs.toArray n) :: (dd, od) :: news) ∨ (i = 1 ∧ ∃ tup, nw = (tup, tupObj [pv, fv, .bool true, .bool false]) :: (hp, W.listOf (.ref tup :: xs).toArray (n + 1)) :: (dd, od) :: news ∧ (∀ q ∈ (hp, W.listOf xs.toArray n) :: (dd, od) :: news, q.1 < tup)))) rfl (by k_asm) (by k_asm) ⟨rfl, .inl ⟨rfl, rfl⟩⟩ ?_ ?_ ?_
  · rintro i m' nw ⟨_, ⟨_, rfl⟩ | ⟨_, tup, rfl, _⟩⟩ <;> k_mem
  · rintro I i v m₁ news₁ hx tkx it hv ⟨hself, hJ⟩ hI hoff hc F1 N1
    rcases i with _ | i
    · obtain rfl : v = .ref t0 := by simpa using hv.symm
      rcases hJ with ⟨_, rfl⟩ | ⟨h1, _⟩
      · clear hv
        (try k_fold)
        have hIhp : I ≠ hp := fun e => hoff _ List.mem_cons_self e.symm
        (focus ((iterate 2 walk1); (k_unfold; (try dsimp only)); (iterate 56 walk1)))
        refine spec_registerG (by rfl) (by rfl) (Nat.le_of_ble_eq_true (by rfl)) (Nat.le_of_ble_eq_true (by rfl)) (by rfl) (by rfl) (by k_asm) (by k_asm) (by k_asm) (by k_asm) (by k_asm) (Upd1.tail (by assumption) (Upd1.head ?_)) (by k_mem) (by k_mem) (by assumption) ?_
        · exact List.forall_mem_cons.mpr ⟨Ne.symm ne3, ne1⟩
        intro tup h2 tk2 F2 N2 lt2
        (focus ((iterate 3 walk1)))
        refine ⟨_, _, _, (tup, tupObj [pv, fv, .bool true, .bool false]) :: (hp, W.listOf (.ref tup :: xs).toArray (n + 1)) :: (dd, od) :: news, rfl, F2, nSub N2 (by walk_at "MY:sub"), ?_, hself, .inr ⟨by first | rfl | trivial, tup, rfl, fun q hq => lt2 q (List.mem_cons_of_mem _ hq)⟩⟩
        exact List.forall_mem_cons.mpr ⟨Nat.ne_of_gt (lt2 _ List.mem_cons_self), List.forall_mem_cons.mpr ⟨fun e => hoff _ List.mem_cons_self e, fun q hq => hoff q (List.mem_cons_of_mem _ hq)⟩⟩
      · cases h1
    · simp at hv
  · rintro m₁ news₁ h3 tk3 ⟨hself, ⟨h0, _⟩ | ⟨_, tup, rfl, lt⟩⟩ F3 N3
    · cases h0
    · (try k_fold)
      (focus ((iterate 6 walk1)))
      refine spec_clear (by rfl) (by rfl) (Nat.le_of_ble_eq_true (by rfl)) (Nat.le_of_ble_eq_true (by rfl)) (by rfl) (by rfl) (by k_asm) (by k_asm) (by k_asm) (by k_asm) (by k_asm) hod (Upd1.tail (Nat.ne_of_gt (lt (dd, od) (by k_mem))) (Upd1.tail ne3 (Upd1.head ne2))) (by k_mem) (by k_mem) (ne2 _ m1) (ne2 _ m2) ?_
      intro od' h4 tk4 F4 N4 hod4
      (focus ((iterate 2 walk1)))
      exact hQ tup od' _ _ (by assumption) (by assumption) lt hod4

theorem spec_rfl3 {U : Obj → Obj → List (Addr × Obj)} {ms dms dd fd dfd hp bm lst t0 : Addr} {od : Obj} {ff cv pv fv : Value} {t1 t2 t3 t4 t5 t6 : Tok} {xs : List Value} {n : Nat}
    (hA : A.frames = some (env :: outer)) (hh : A.handled = none) (hd : A.depth ≤ 340) (hu : A.units ≤ 800) (hf : env.frame = some L) (hke : env.scope.kind = .function)
    (B : Below A₀ base outer h₀) (F : Fr h₀ L s.heap m) (X : (Mine.hd.heap_39 w.params).In h₀) (T : Top p loose mean mg mb h₀)
    (N : News h₀ L s.heap l) (hod : od.IsDictOf (strKind PROG w) []) (u : Upd2 hp (W.listOf xs.toArray n) dd od l U) (hl : xs.length ≤ 100)
    (m1 : (ms, msObj dms) ∈ l) (m2 : (dms, msDict w t1 t2 t3 t4 ff dd fd bm) ∈ l) (m3 : (fd, fdObj dfd) ∈ l) (m4 : (dfd, fdDict w t5 t6 cv hp) ∈ l)
    (m5 : (lst, W.listOf [.ref t0].toArray 0) ∈ l) (m6 : (t0, tupObj [pv, fv, .bool true]) ∈ l) (n1 : dms ≠ dd) (n2 : dfd ≠ dd) (n3 : lst ≠ hp)
    (hQ : ∀ tup od' h' tk, Fr h₀ L h' m → News h₀ L h' ((tup, tupObj [pv, fv, .bool true, .bool false]) :: U (W.listOf (.ref tup :: xs).toArray (n + 1)) od') → (∀ q ∈ l, q.1 < tup) →
      od'.IsDictOf (strKind PROG w) [] → Q .none { s with heap := h', toks := tk }) :
    wpAny (model PROG w) A (call (.ref 110) [.ref ms, .ref lst] []) Q E s := by
  have key : ∀ {a : Addr} {o : Obj}, (a, o) ∈ l → a ≠ hp → a ≠ dd → (a, o) ∈ off1 dd (off1 hp l) := fun h a b => off1_mem (off1_mem h a) b
  have hcd : od.cls = .type "dict" := by obtain ⟨es, ep, he, _⟩ := hod; exact he.1
  refine spec_rfl3_front hA hh hd hu hf hke B F X T (u.front N) hod off2_ne off_ne u.ne hl (key m1 (nApart N m1 u.ma (by intro e; cases e)) (nApart N m1 u.mb (by rw [hcd]; intro e; cases e)))
    (key m2 (nApart N m2 u.ma (by intro e; exact absurd (Value.type.inj e) (by decide))) n1) (key m3 (nApart N m3 u.ma (by intro e; cases e)) (nApart N m3 u.mb (by rw [hcd]; intro e; cases e)))
    (key m4 (nApart N m4 u.ma (by intro e; exact absurd (Value.type.inj e) (by decide))) n2) (key m5 n3 (nApart N m5 u.mb (by rw [hcd]; intro e; exact absurd (Value.type.inj e) (by decide))))
    (key m6 (nApart N m6 u.ma (by intro e; exact absurd (Value.type.inj e) (by decide))) (nApart N m6 u.mb (by rw [hcd]; intro e; exact absurd (Value.type.inj e) (by decide))))
    fun tup od' h' tk F' N' lt hd' => hQ tup od' h' tk F' (fun p hp => ?_) (fun q hq => ?_) hd'
  · rcases List.mem_cons.mp hp with rfl | hp
    · exact N' _ List.mem_cons_self
    · refine u.back N' (fun p hp => ?_) p hp
      rcases hp with rfl | rfl | hp
      · exact List.mem_cons_of_mem _ List.mem_cons_self
      · exact List.mem_cons_of_mem _ (List.mem_cons_of_mem _ List.mem_cons_self)
      · exact List.mem_cons_of_mem _ (List.mem_cons_of_mem _ (List.mem_cons_of_mem _ hp))
  · by_cases e1 : q.1 = hp
    · exact e1 ▸ lt (hp, _) List.mem_cons_self
    · by_cases e2 : q.1 = dd
      · exact e2 ▸ lt (dd, _) (List.mem_cons_of_mem _ List.mem_cons_self)
      · exact lt q (List.mem_cons_of_mem _ (List.mem_cons_of_mem _ (key hq e1 e2)))
end
end
example {M : Model} {A : Around} {E Q : Value → Shared → Prop} {s : Shared} (h : wpAny M A (pure .none) Q E s) : wpAny M A (pure .none) Q E s := by
  w_top off
  first
    | (walk1; fail)
    | exact h
section
local macro_rules | `(tactic| k_lt $h:ident) => `(tactic| (replace $h := allLt_of $h; simp only [AllLt, and_true] at $h:ident))
section
variable {w : World} {A₀ A : Around} {base h₀ : Heap} {env : Env} {outer : List Env} {L : Addr} {m mg mb : Str → Option Value} {p : Program} {loose : List Str} {mean : ExcName → Option Value} {s : Shared} {Q E : Value → Shared → Prop} {news : List (Addr × Obj)}

theorem spec_makeMs {ff cv : Value}
    (hA : A.frames = some (env :: outer)) (hh : A.handled = none) (hd : A.depth ≤ 345) (hu : A.units ≤ 850) (hf : env.frame = some L) (hke : env.scope.kind = .function)
    (B : Below A₀ base outer h₀) (F : Fr h₀ L s.heap m) (X : (Mine.hd.heap_39 w.params).In h₀) (T : Top p loose mean mg mb h₀)
    (N : News h₀ L s.heap news)
    (hQ : ∀ ms dms dd od fd dfd hp bm t1 t2 t3 t4 t5 t6 h' tk, Fr h₀ L h' m →
      News h₀ L h' ((bm, methodObj (.ref 95) (.ref ms)) :: (hp, W.listOf [].toArray 0) :: (fd, fdObj dfd) :: (dfd, fdDict w t1 t2 cv hp) :: (dd, od) :: (ms, msObj dms) :: (dms, msDict w t3 t4 t5 t6 ff dd fd bm) :: news) →
      od.IsDictOf (strKind PROG w) [] → (dd == sysModules) = false → AllLt dms news → @LT.lt Nat _ dms ms → @LT.lt Nat _ ms dd → @LT.lt Nat _ dd dfd → @LT.lt Nat _ dfd fd → @LT.lt Nat _ fd hp → @LT.lt Nat _ hp bm → Q (.ref ms) { s with heap := h', toks := tk }) :
    wpAny (model PROG w) A (call (.ref 142) [ff, cv] []) Q E s := by
  refine wp_le 345 850 hA hh hd hu ?_
  walk_at "MY:make"
  (focus ((iterate 36 walk1); (k_unfold; (try dsimp only)); (iterate 13 walk1)))
  refine hQ _ _ _ _ _ _ _ _ _ _ _ _ _ _ _ _ (by assumption) (by assumption) ?_ ?_ ?_ ?_ ?_ ?_ ?_ ?_ ?_ <;> walk_at "MY:ord"
end
end
example {M : Model} {A : Around} {E Q : Value → Shared → Prop} {s : Shared} (h : wpAny M A (pure .none) Q E s) : wpAny M A (pure .none) Q E s := by
  w_top off
  first
    | (walk1; fail)
    | exact h
section
local macro_rules | `(tactic| walk_at "getAttr ref") => `(tactic| walk_at "MY:getnd")
section
variable {w : World} {A₀ A : Around} {base h₀ : Heap} {env : Env} {outer : List Env} {L : Addr} {m mg mb : Str → Option Value} {p : Program} {loose : List Str} {mean : ExcName → Option Value} {s : Shared} {Q E : Value → Shared → Prop} {news l : List (Addr × Obj)}
local macro_rules | `(tactic| walk_at "MY:one") => `(tactic| (dsimp only; refine ⟨?_, ?_, ?_, ?_, ?_, ?_, ?_⟩ <;> first | assumption | exact neN (by omega) | (refine .inl ?_; omega) | (refine of_hid ?_; assumption)))
theorem spec_initB_321 {x dx : Addr} {imm : List (Addr × Obj)} {ps : Array Value} {pv dv uf sf : Value} {pos : List Value} {kw : List (Str × Value)} {R : Result → Shared → Prop}
    (hA : A.frames = some (env :: outer)) (hh : A.handled = none) (hd : A.depth ≤ 335) (hu : A.units ≤ 750) (hf : env.frame = some L) (hke : env.scope.kind = .function)
    (B : Below A₀ base outer h₀) (F : Fr h₀ L s.heap m) (X : (Mine.hd.heap_39 w.params).In h₀) (T : Top p loose mean mg mb h₀)
    (hb : BindsF w.params s 231 ⟨pos, kw⟩ [("self", .ref x), ("prefer_attrib_converters", pv), ("detailed_validation", dv), ("unstructure_fallback_factory", uf), ("structure_fallback_factory", sf)])
    (N : News h₀ L s.heap ((x, ⟨.ref 321, some dx, .plain, #[]⟩) :: (226, tabObj ps) :: news)) (tq : TabQ (qLam "BaseConverter.__init__") ps imm) (sub : ∀ p ∈ imm, p ∈ news)
    (m1 : (dx, W.dictOf [] 0) ∈ news) (ne1 : ∀ p ∈ news, p.1 ≠ x) (ne2 : ∀ p ∈ news, p.1 ≠ 226) (ne3 : @Ne Nat x 226)
    (hQ : ∀ (O I : Disp) tO tB tC i1 i2 t5 t6 t7 t8 odO odI ps' own h' tk, Fr h₀ L h' m →
      News h₀ L h' ((x, ⟨.ref 321, some dx, .plain, #[none, some pv, some (.int 2 i2), none, some (.ref I.ms), none, some (.int 1 i1), none, some (.ref O.ms), some dv]⟩) :: (226, tabObj ps') ::
        (O.hp, W.listOf [.ref tO].toArray 1) :: (O.dd, odO) :: (O.dfd, fdDict w t5 t6 (.ref x) O.hp) :: (I.hp, W.listOf [.ref tC, .ref tB].toArray 2) :: (I.dd, odI) :: (I.dfd, fdDict w t7 t8 (.ref x) I.hp) :: (own ++ news)) →
      DispAt w own O uf → DispAt w own I sf → Firsts own x tO tB tC → TabQ (qLam "BaseConverter.__init__") ps' (own ++ imm) → odO.IsDictOf (strKind PROG w) [] → odI.IsDictOf (strKind PROG w) [] →
      (∀ p ∈ (x, (⟨.ref 321, some dx, .plain, #[]⟩ : Obj)) :: (226, tabObj ps) :: news, @LT.lt Nat _ p.1 O.dms) →
      (∀ p ∈ own, p.1 ≠ O.hp ∧ p.1 ≠ O.dd ∧ p.1 ≠ O.dfd ∧ p.1 ≠ I.hp ∧ p.1 ≠ I.dd ∧ p.1 ≠ I.dfd ∧ (@LE.le Nat _ O.dms p.1 ∨ p ∈ imm)) →
      @LT.lt Nat _ O.dms O.dd → @LT.lt Nat _ O.dd O.dfd → @LT.lt Nat _ O.dfd O.hp → @LT.lt Nat _ O.hp I.dd → @LT.lt Nat _ I.dd I.dfd → @LT.lt Nat _ I.dfd I.hp → (O.dd == sysModules) = false → (I.dd == sysModules) = false →
      R (.ok (.ret .none)) { s with heap := h', toks := tk }) :
    codeAny (model PROG w) A (.call (.ref 231) ⟨pos, kw⟩) R s := by
  refine code_le 335 750 hA hh hd hu ?_
  have C1 : CodeHd h₀ 230 226 := codeHd_of_K X (by kernel_rfl)
  k_dflt (refine' code_def ?k1 ?k2 ?k3 ?k4 ?k5 ?kA ?kF ?kK ?k6 ?k7 ?k8 ?k9 ?kB ?_ ?c2 ?c3 ?c4 ?c5)
  (case kA => exact rfl); (case kF => first | exact rfl | assumption); (case kK => first | exact rfl | assumption); (case k1 => k_asm); (case k2 => k_asm); (case k3 => k_asm); (case k4 => k_asm); (case k5 => k_asm)
  (case k6 => k_is); (case k7 => k_is); (case k8 => k_room)
  (case k9 => exact hb.to (by k_is))
  (case c5 => decide); (case kB => exact locs rfl); (case c2 => exact rfl); (case c3 => exact rfl); (case c4 => exact rfl)
  intro g' L' h' FG' F' N' B' X' T'
  (try dsimp only)
  have C2 : CodeHd g' 230 226 := codeHd_of_K X' (by kernel_rfl)
  (try dsimp only)
  (focus ((iterate 21 walk1)))
  refine spec_makeMs (by rfl) (by rfl) (Nat.le_of_ble_eq_true (by rfl)) (Nat.le_of_ble_eq_true (by rfl)) (by rfl) (by rfl) (by k_asm) (by k_asm) (by k_asm) (by k_asm) (by k_asm) ?_
  intro ms dms dd od fd dfd hp bm u1 u2 u3 u4 u5 u6 h1 tk1 F1 N1 hod lo1 l1 l2 l3 l4 l5 l6 l7
  have ld := l1
  simp only [AllLt] at l1
  obtain ⟨lx, lt, ln⟩ := l1
  have im : ∀ i ∈ imm, @LT.lt Nat _ i.1 dms := fun i hi => lt_of_allLt ln i (sub i hi)
  (try dsimp only)
  (focus ((iterate 16 walk1)))
  refine kla_eval (by exact rfl) ?_
  refine kla_any (c := 230) (imm) (by k_asm) (by k_asm) (by k_asm) C2 (by exact rfl) (by walk_at "MY:upd1") tq (by walk_at "MY:subI") (fun p hp => ne2 p (sub p hp)) (by exact rfl) ?_
  intro f1 c1 oc1 vs1 t1 ctv1 ps1 hh1 tkk1 FF1 NN1 tq1 hd1 hv1 lf1 lcf1 kin1
  (try dsimp only at NN1)
  have pi1 : Hid (@LE.le Nat _ dms c1 ∨ (c1, oc1) ∈ imm) := by
    unfold Hid
    rcases kin1 with h | h
    · exact .inl (Nat.le_of_lt (h (dms, _) (by k_mem)))
    · exact .inr h
  have pc1 : Hid ((@LT.lt Nat _ c1 dms ∧ @Ne Nat c1 x ∧ @Ne Nat c1 226) ∨ @LT.lt Nat _ bm c1) := by
    unfold Hid
    rcases kin1 with h | h
    · have h := h (bm, _) (by k_mem)
      dsimp only at h
      omega
    · exact .inl ⟨im _ h, ne1 _ (sub _ h), ne2 _ (sub _ h)⟩
  clear kin1
  replace lf1 := allLt_of lf1
  simp only [AllLt] at lf1
  replace lf1 := lf1.1
  have : @Ne Addr c1 x := by have hh := pc1; unfold Hid at hh; exact neN (by omega)
  have : @Ne Addr c1 226 := by have hh := pc1; unfold Hid at hh; exact neN (by omega)
  have : @Ne Addr c1 hp := by have hh := pc1; unfold Hid at hh; exact neN (by omega)
  have : @Ne Addr c1 dd := by have hh := pc1; unfold Hid at hh; exact neN (by omega)
  have : @Ne Addr c1 dfd := by have hh := pc1; unfold Hid at hh; exact neN (by omega)
  (try dsimp only)
  (focus ((iterate 10 walk1)))
  refine spec_rfl2 (hp := hp) (dd := dd) (fd := fd) (dfd := dfd) (by rfl) (by rfl) (Nat.le_of_ble_eq_true (by rfl)) (Nat.le_of_ble_eq_true (by rfl)) (by rfl) (by rfl) (by k_asm) (by k_asm) (by k_asm) (by k_asm) (by k_asm) hod (by walk_at "MY:upd2") (Nat.le_of_ble_eq_true (by rfl)) (by k_mem) (by k_mem) (by k_mem) (by k_mem) (by k_mem) (by k_mem) (by k_ne) (by k_ne) (by k_ne) ?_
  intro tup od' h2 tk2 F2 N2 lt2 hod2
  replace lt2 := allLt_of lt2
  simp only [AllLt] at lt2
  replace lt2 := lt2.1
  (try dsimp only)
  (focus ((iterate 11 walk1)))
  refine spec_makeMs (by rfl) (by rfl) (Nat.le_of_ble_eq_true (by rfl)) (Nat.le_of_ble_eq_true (by rfl)) (by rfl) (by rfl) (by k_asm) (by k_asm) (by k_asm) (by k_asm) (by k_asm) ?_
  intro ms2 dms2 dd2 od2 fd2 dfd2 hp2 bm2 v1 v2 v3 v4 v5 v6 h3 tk3 F3 N3 hod3 lo3 k1 k2 k3 k4 k5 k6 k7
  simp only [AllLt] at k1
  replace k1 := k1.1
  have : @Ne Addr c1 hp2 := neN (by omega)
  have : @Ne Addr c1 dd2 := neN (by omega)
  have : @Ne Addr c1 dfd2 := neN (by omega)
  (try dsimp only)
  (focus ((iterate 16 walk1)))
  refine kla_eval (by exact rfl) ?_
  refine kla_any (c := 230) ((c1, oc1) :: imm) (by k_asm) (by k_asm) (by k_asm) C2 (by exact rfl) (by walk_at "MY:upd1") tq1 (by walk_at "MY:subI") (by refine List.forall_mem_cons.mpr ⟨by dsimp only; assumption, ?_⟩; exact fun p hp => ne2 p (sub p hp)) (by exact rfl) ?_
  intro f2 c2 oc2 vs2 t2 ctv2 ps2 hh2 tkk2 FF2 NN2 tq2 hd2 hv2 lf2 lcf2 kin2
  (try dsimp only at NN2)
  have pi2 : Hid (@LE.le Nat _ dms c2 ∨ (c2, oc2) ∈ imm) := by
    unfold Hid
    rcases kin2 with h | h
    · exact .inl (Nat.le_of_lt (h (dms, _) (by k_mem)))
    · rcases List.mem_cons.mp h with e | h
      · obtain ⟨e1, e2⟩ := Prod.mk.inj e; rw [e1, e2]; exact pi1
      · exact .inr h
  have pc2 : Hid ((@LT.lt Nat _ c2 dms ∧ @Ne Nat c2 x ∧ @Ne Nat c2 226) ∨ (@LT.lt Nat _ bm c2 ∧ @LT.lt Nat _ c2 dms2) ∨ @LT.lt Nat _ bm2 c2) := by
    unfold Hid
    rcases kin2 with h | h
    · have h := h (bm2, _) (by k_mem)
      dsimp only at h
      omega
    · rcases List.mem_cons.mp h with e | h
      · obtain ⟨e1, e2⟩ := Prod.mk.inj e; rw [e1]; have hh := pc1; unfold Hid at hh; omega
      · exact .inl ⟨im _ h, ne1 _ (sub _ h), ne2 _ (sub _ h)⟩
  clear kin2
  replace lf2 := allLt_of lf2
  simp only [AllLt] at lf2
  replace lf2 := lf2.1
  have : @Ne Addr c2 x := by have hh := pc2; unfold Hid at hh; exact neN (by omega)
  have : @Ne Addr c2 226 := by have hh := pc2; unfold Hid at hh; exact neN (by omega)
  have : @Ne Addr c2 hp := by have hh := pc2; unfold Hid at hh; exact neN (by omega)
  have : @Ne Addr c2 dd := by have hh := pc2; unfold Hid at hh; exact neN (by omega)
  have : @Ne Addr c2 dfd := by have hh := pc2; unfold Hid at hh; exact neN (by omega)
  have : @Ne Addr c2 hp2 := by have hh := pc2; unfold Hid at hh; exact neN (by omega)
  have : @Ne Addr c2 dd2 := by have hh := pc2; unfold Hid at hh; exact neN (by omega)
  have : @Ne Addr c2 dfd2 := by have hh := pc2; unfold Hid at hh; exact neN (by omega)
  (try dsimp only)
  (focus (walk1))
  refine kla_eval (by exact rfl) ?_
  refine kla_any (c := 230) ((c2, oc2) :: (c1, oc1) :: imm) (by k_asm) (by k_asm) (by k_asm) C2 (by exact rfl) (by walk_at "MY:upd1") tq2 (by walk_at "MY:subI") (by refine List.forall_mem_cons.mpr ⟨by dsimp only; assumption, ?_⟩; refine List.forall_mem_cons.mpr ⟨by dsimp only; assumption, ?_⟩; exact fun p hp => ne2 p (sub p hp)) (by exact rfl) ?_
  intro f3 c3 oc3 vs3 t3 ctv3 ps3 hh3 tkk3 FF3 NN3 tq3 hd3 hv3 lf3 lcf3 kin3
  (try dsimp only at NN3)
  have pi3 : Hid (@LE.le Nat _ dms c3 ∨ (c3, oc3) ∈ imm) := by
    unfold Hid
    rcases kin3 with h | h
    · exact .inl (Nat.le_of_lt (h (dms, _) (by k_mem)))
    · rcases List.mem_cons.mp h with e | h
      · obtain ⟨e1, e2⟩ := Prod.mk.inj e; rw [e1, e2]; exact pi2
      · rcases List.mem_cons.mp h with e | h
        · obtain ⟨e1, e2⟩ := Prod.mk.inj e; rw [e1, e2]; exact pi1
        · exact .inr h
  have pc3 : Hid ((@LT.lt Nat _ c3 dms ∧ @Ne Nat c3 x ∧ @Ne Nat c3 226) ∨ (@LT.lt Nat _ bm c3 ∧ @LT.lt Nat _ c3 dms2) ∨ @LT.lt Nat _ bm2 c3) := by
    unfold Hid
    rcases kin3 with h | h
    · have h := h (bm2, _) (by k_mem)
      dsimp only at h
      omega
    · rcases List.mem_cons.mp h with e | h
      · obtain ⟨e1, e2⟩ := Prod.mk.inj e; rw [e1]; have hh := pc2; unfold Hid at hh; omega
      · rcases List.mem_cons.mp h with e | h
        · obtain ⟨e1, e2⟩ := Prod.mk.inj e; rw [e1]; have hh := pc1; unfold Hid at hh; omega
        · exact .inl ⟨im _ h, ne1 _ (sub _ h), ne2 _ (sub _ h)⟩
  clear kin3
  replace lf3 := allLt_of lf3
  simp only [AllLt] at lf3
  replace lf3 := lf3.1
  have : @Ne Addr c3 x := by have hh := pc3; unfold Hid at hh; exact neN (by omega)
  have : @Ne Addr c3 226 := by have hh := pc3; unfold Hid at hh; exact neN (by omega)
  have : @Ne Addr c3 hp := by have hh := pc3; unfold Hid at hh; exact neN (by omega)
  have : @Ne Addr c3 dd := by have hh := pc3; unfold Hid at hh; exact neN (by omega)
  have : @Ne Addr c3 dfd := by have hh := pc3; unfold Hid at hh; exact neN (by omega)
  have : @Ne Addr c3 hp2 := by have hh := pc3; unfold Hid at hh; exact neN (by omega)
  have : @Ne Addr c3 dd2 := by have hh := pc3; unfold Hid at hh; exact neN (by omega)
  have : @Ne Addr c3 dfd2 := by have hh := pc3; unfold Hid at hh; exact neN (by omega)
  (try dsimp only)
  (focus ((iterate 6 walk1)))
  refine spec_rfl2 (hp := hp2) (dd := dd2) (fd := fd2) (dfd := dfd2) (by rfl) (by rfl) (Nat.le_of_ble_eq_true (by rfl)) (Nat.le_of_ble_eq_true (by rfl)) (by rfl) (by rfl) (by k_asm) (by k_asm) (by k_asm) (by k_asm) (by k_asm) hod3 (by walk_at "MY:upd2") (Nat.le_of_ble_eq_true (by rfl)) (by k_mem) (by k_mem) (by k_mem) (by k_mem) (by k_mem) (by k_mem) (by k_ne) (by k_ne) (by k_ne) ?_
  intro tup2 od3 h4 tk4 F4 N4 lt4 hod4
  replace lt4 := allLt_of lt4
  simp only [AllLt] at lt4
  replace lt4 := lt4.1
  (try dsimp only)
  (focus ((iterate 13 walk1)))
  refine kla_eval (by exact rfl) ?_
  refine kla_any (c := 230) ((c3, oc3) :: (c2, oc2) :: (c1, oc1) :: imm) (by k_asm) (by k_asm) (by k_asm) C2 (by exact rfl) (by walk_at "MY:upd1") tq3 (by walk_at "MY:subI") (by refine List.forall_mem_cons.mpr ⟨by dsimp only; assumption, ?_⟩; refine List.forall_mem_cons.mpr ⟨by dsimp only; assumption, ?_⟩; refine List.forall_mem_cons.mpr ⟨by dsimp only; assumption, ?_⟩; exact fun p hp => ne2 p (sub p hp)) (by exact rfl) ?_
  intro f4 c4 oc4 vs4 t4 ctv4 ps4 hh4 tkk4 FF4 NN4 tq4 hd4 hv4 lf4 lcf4 kin4
  (try dsimp only at NN4)
  have pi4 : Hid (@LE.le Nat _ dms c4 ∨ (c4, oc4) ∈ imm) := by
    unfold Hid
    rcases kin4 with h | h
    · exact .inl (Nat.le_of_lt (h (dms, _) (by k_mem)))
    · rcases List.mem_cons.mp h with e | h
      · obtain ⟨e1, e2⟩ := Prod.mk.inj e; rw [e1, e2]; exact pi3
      · rcases List.mem_cons.mp h with e | h
        · obtain ⟨e1, e2⟩ := Prod.mk.inj e; rw [e1, e2]; exact pi2
        · rcases List.mem_cons.mp h with e | h
          · obtain ⟨e1, e2⟩ := Prod.mk.inj e; rw [e1, e2]; exact pi1
          · exact .inr h
  have pc4 : Hid ((@LT.lt Nat _ c4 dms ∧ @Ne Nat c4 x ∧ @Ne Nat c4 226) ∨ (@LT.lt Nat _ bm c4 ∧ @LT.lt Nat _ c4 dms2) ∨ @LT.lt Nat _ bm2 c4) := by
    unfold Hid
    rcases kin4 with h | h
    · have h := h (bm2, _) (by k_mem)
      dsimp only at h
      omega
    · rcases List.mem_cons.mp h with e | h
      · obtain ⟨e1, e2⟩ := Prod.mk.inj e; rw [e1]; have hh := pc3; unfold Hid at hh; omega
      · rcases List.mem_cons.mp h with e | h
        · obtain ⟨e1, e2⟩ := Prod.mk.inj e; rw [e1]; have hh := pc2; unfold Hid at hh; omega
        · rcases List.mem_cons.mp h with e | h
          · obtain ⟨e1, e2⟩ := Prod.mk.inj e; rw [e1]; have hh := pc1; unfold Hid at hh; omega
          · exact .inl ⟨im _ h, ne1 _ (sub _ h), ne2 _ (sub _ h)⟩
  clear kin4
  replace lf4 := allLt_of lf4
  simp only [AllLt] at lf4
  replace lf4 := lf4.1
  have : @Ne Addr c4 x := by have hh := pc4; unfold Hid at hh; exact neN (by omega)
  have : @Ne Addr c4 226 := by have hh := pc4; unfold Hid at hh; exact neN (by omega)
  have : @Ne Addr c4 hp := by have hh := pc4; unfold Hid at hh; exact neN (by omega)
  have : @Ne Addr c4 dd := by have hh := pc4; unfold Hid at hh; exact neN (by omega)
  have : @Ne Addr c4 dfd := by have hh := pc4; unfold Hid at hh; exact neN (by omega)
  have : @Ne Addr c4 hp2 := by have hh := pc4; unfold Hid at hh; exact neN (by omega)
  have : @Ne Addr c4 dd2 := by have hh := pc4; unfold Hid at hh; exact neN (by omega)
  have : @Ne Addr c4 dfd2 := by have hh := pc4; unfold Hid at hh; exact neN (by omega)
  (try dsimp only)
  (focus ((iterate 10 walk1)))
  refine spec_rfl2 (hp := hp2) (dd := dd2) (fd := fd2) (dfd := dfd2) (xs := [.ref tup2]) (by rfl) (by rfl) (Nat.le_of_ble_eq_true (by rfl)) (Nat.le_of_ble_eq_true (by rfl)) (by rfl) (by rfl) (by k_asm) (by k_asm) (by k_asm) (by k_asm) (by k_asm) hod4 (by walk_at "MY:upd2") (Nat.le_of_ble_eq_true (by rfl)) (by k_mem) (by k_mem) (by k_mem) (by k_mem) (by k_mem) (by k_mem) (by k_ne) (by k_ne) (by k_ne) ?_
  intro tup3 od4 h5 tk5 F5 N5 lt5 hod5
  replace lt5 := allLt_of lt5
  simp only [AllLt] at lt5
  replace lt5 := lt5.1
  (try dsimp only)
  (focus ((iterate 8 walk1)))
  refine spec_num (ms := ms) (fd := fd) (dfd := dfd) (hp := hp) (xs := [.ref tup]) (by rfl) (by rfl) (Nat.le_of_ble_eq_true (by rfl)) (Nat.le_of_ble_eq_true (by rfl)) (by rfl) (by rfl) (by k_asm) (by k_asm) (by k_asm) (by k_asm) (by k_asm) (Nat.le_of_ble_eq_true (by rfl)) (by k_mem) (by k_mem) (by k_mem) (by k_mem) (by k_mem) ?_
  intro i1 h6 tk6 F6 N6
  (try dsimp only)
  (focus ((iterate 11 walk1)))
  refine spec_num (ms := ms2) (fd := fd2) (dfd := dfd2) (hp := hp2) (xs := [.ref tup3, .ref tup2]) (by rfl) (by rfl) (Nat.le_of_ble_eq_true (by rfl)) (Nat.le_of_ble_eq_true (by rfl)) (by rfl) (by rfl) (by k_asm) (by k_asm) (by k_asm) (by k_asm) (by k_asm) (Nat.le_of_ble_eq_true (by rfl)) (by k_mem) (by k_mem) (by k_mem) (by k_mem) (by k_mem) ?_
  intro i2 h7 tk7 F7 N7
  (focus ((iterate 4 walk1)))
  rename News h₀ L _ _ => NN
  refine SiftE.start NN [x, 226, hp, dd, dfd, hp2, dd2, dfd2] news (fun own => DispAt w own ⟨ms, dms, dd, fd, dfd, hp, bm⟩ uf ∧ DispAt w own ⟨ms2, dms2, dd2, fd2, dfd2, hp2, bm2⟩ sf ∧ Firsts own x tup tup2 tup3 ∧ TabQ (qLam "BaseConverter.__init__") ps4 (own ++ imm) ∧
    (∀ p ∈ own, p.1 ≠ hp ∧ p.1 ≠ dd ∧ p.1 ≠ dfd ∧ p.1 ≠ hp2 ∧ p.1 ≠ dd2 ∧ p.1 ≠ dfd2 ∧ (@LE.le Nat _ dms p.1 ∨ p ∈ imm))) ?_ ?_
  · (iterate 13 (refine SiftE.keep ?_)); refine SiftE.drop ?_; refine SiftE.keep ?_; refine SiftE.drop ?_; refine SiftE.drop ?_
    (iterate 9 (refine SiftE.keep ?_)); refine SiftE.drop ?_; refine SiftE.keep ?_; refine SiftE.drop ?_; refine SiftE.drop ?_
    (iterate 2 (refine SiftE.keep ?_)); refine SiftE.drop ?_; refine SiftE.drop ?_; refine SiftE.stop ?_
    refine ⟨⟨by k_mem, ⟨_, _, _, _, by k_mem⟩, by k_mem, by k_mem⟩, ⟨by k_mem, ⟨_, _, _, _, by k_mem⟩, by k_mem, by k_mem⟩, ⟨⟨_, _, by k_mem, by k_mem, ⟨_, _, _, _, _, _, by k_mem, by k_mem, hd1, hv1⟩⟩, ⟨_, _, by k_mem, ⟨_, _, _, _, _, _, by k_mem, by k_mem, hd2, hv2⟩, ⟨_, _, _, _, _, _, by k_mem, by k_mem, hd3, hv3⟩⟩, ⟨_, by k_mem, ⟨_, _, _, _, _, _, by k_mem, by k_mem, hd4, hv4⟩⟩⟩, ?_, ?_⟩
    · refine tq4.mono ?_
      (iterate 4 (refine List.forall_mem_cons.mpr ⟨List.mem_append_left _ (by k_mem), ?_⟩))
      exact fun p hp => List.mem_append_right _ hp
    · walk_at "MY:each"
  · intro own sb hh
    obtain ⟨q1, q2, q3, q4, q5⟩ := hh
    refine hQ ⟨ms, dms, dd, fd, dfd, hp, bm⟩ ⟨ms2, dms2, dd2, fd2, dfd2, hp2, bm2⟩ tup tup2 tup3 i1 i2 u1 u2 v1 v2 od' od4 ps4 own _ _ (by k_asm) ?_ q1 q2 q3 q4 hod2 hod5 (lt_of_allLt ld) q5 (by dsimp only; omega) (by dsimp only; omega) (by dsimp only; omega) (by dsimp only; omega) (by dsimp only; omega) (by dsimp only; omega) lo1 lo3
    refine nSub NN ?_
    (iterate 8 (refine List.forall_mem_cons.mpr ⟨by k_mem, ?_⟩))
    exact sb
end
end
example {M : Model} {A : Around} {E Q : Value → Shared → Prop} {s : Shared} (h : wpAny M A (pure .none) Q E s) : wpAny M A (pure .none) Q E s := by
  w_top off
  first
    | (walk1; fail)
    | exact h
section
local macro_rules | `(tactic| walk_at "getAttr ref") => `(tactic| walk_at "MY:getnd")
section
variable {w : World} {A₀ A : Around} {base h₀ : Heap} {env : Env} {outer : List Env} {L : Addr} {m mg mb : Str → Option Value} {p : Program} {loose : List Str} {mean : ExcName → Option Value} {s : Shared} {Q E : Value → Shared → Prop} {news l : List (Addr × Obj)}
local macro_rules | `(tactic| walk_at "MY:one") => `(tactic| (dsimp only; refine ⟨?_, ?_, ?_, ?_, ?_, ?_, ?_⟩ <;> first | assumption | exact neN (by omega) | (refine .inl ?_; omega) | (refine of_hid ?_; assumption)))
theorem spec_initB_410 {x dx : Addr} {imm : List (Addr × Obj)} {ps : Array Value} {pv dv uf sf : Value} {pos : List Value} {kw : List (Str × Value)} {R : Result → Shared → Prop}
    (hA : A.frames = some (env :: outer)) (hh : A.handled = none) (hd : A.depth ≤ 335) (hu : A.units ≤ 750) (hf : env.frame = some L) (hke : env.scope.kind = .function)
    (B : Below A₀ base outer h₀) (F : Fr h₀ L s.heap m) (X : (Mine.hd.heap_39 w.params).In h₀) (T : Top p loose mean mg mb h₀)
    (hb : BindsF w.params s 231 ⟨pos, kw⟩ [("self", .ref x), ("prefer_attrib_converters", pv), ("detailed_validation", dv), ("unstructure_fallback_factory", uf), ("structure_fallback_factory", sf)])
    (N : News h₀ L s.heap ((x, ⟨.ref 410, some dx, .plain, #[]⟩) :: (226, tabObj ps) :: news)) (tq : TabQ (qLam "BaseConverter.__init__") ps imm) (sub : ∀ p ∈ imm, p ∈ news)
    (m1 : (dx, W.dictOf [] 0) ∈ news) (ne1 : ∀ p ∈ news, p.1 ≠ x) (ne2 : ∀ p ∈ news, p.1 ≠ 226) (ne3 : @Ne Nat x 226)
    (hQ : ∀ (O I : Disp) tO tB tC i1 i2 t5 t6 t7 t8 odO odI ps' own h' tk, Fr h₀ L h' m →
      News h₀ L h' ((x, ⟨.ref 410, some dx, .plain, #[none, none, none, none, none, none, some pv, some (.int 2 i2), none, some (.ref I.ms), none, some (.int 1 i1), none, some (.ref O.ms), some dv]⟩) :: (226, tabObj ps') ::
        (O.hp, W.listOf [.ref tO].toArray 1) :: (O.dd, odO) :: (O.dfd, fdDict w t5 t6 (.ref x) O.hp) :: (I.hp, W.listOf [.ref tC, .ref tB].toArray 2) :: (I.dd, odI) :: (I.dfd, fdDict w t7 t8 (.ref x) I.hp) :: (own ++ news)) →
      DispAt w own O uf → DispAt w own I sf → Firsts own x tO tB tC → TabQ (qLam "BaseConverter.__init__") ps' (own ++ imm) → odO.IsDictOf (strKind PROG w) [] → odI.IsDictOf (strKind PROG w) [] →
      (∀ p ∈ (x, (⟨.ref 410, some dx, .plain, #[]⟩ : Obj)) :: (226, tabObj ps) :: news, @LT.lt Nat _ p.1 O.dms) →
      (∀ p ∈ own, p.1 ≠ O.hp ∧ p.1 ≠ O.dd ∧ p.1 ≠ O.dfd ∧ p.1 ≠ I.hp ∧ p.1 ≠ I.dd ∧ p.1 ≠ I.dfd ∧ (@LE.le Nat _ O.dms p.1 ∨ p ∈ imm)) →
      @LT.lt Nat _ O.dms O.dd → @LT.lt Nat _ O.dd O.dfd → @LT.lt Nat _ O.dfd O.hp → @LT.lt Nat _ O.hp I.dd → @LT.lt Nat _ I.dd I.dfd → @LT.lt Nat _ I.dfd I.hp → (O.dd == sysModules) = false → (I.dd == sysModules) = false →
      R (.ok (.ret .none)) { s with heap := h', toks := tk }) :
    codeAny (model PROG w) A (.call (.ref 231) ⟨pos, kw⟩) R s := by
  refine code_le 335 750 hA hh hd hu ?_
  have C1 : CodeHd h₀ 230 226 := codeHd_of_K X (by kernel_rfl)
  k_dflt (refine' code_def ?k1 ?k2 ?k3 ?k4 ?k5 ?kA ?kF ?kK ?k6 ?k7 ?k8 ?k9 ?kB ?_ ?c2 ?c3 ?c4 ?c5)
  (case kA => exact rfl); (case kF => first | exact rfl | assumption); (case kK => first | exact rfl | assumption); (case k1 => k_asm); (case k2 => k_asm); (case k3 => k_asm); (case k4 => k_asm); (case k5 => k_asm)
  (case k6 => k_is); (case k7 => k_is); (case k8 => k_room)
  (case k9 => exact hb.to (by k_is))
  (case c5 => decide); (case kB => exact locs rfl); (case c2 => exact rfl); (case c3 => exact rfl); (case c4 => exact rfl)
  intro g' L' h' FG' F' N' B' X' T'
  (try dsimp only)
  have C2 : CodeHd g' 230 226 := codeHd_of_K X' (by kernel_rfl)
  (try dsimp only)
  (focus ((iterate 21 walk1)))
  refine spec_makeMs (by rfl) (by rfl) (Nat.le_of_ble_eq_true (by rfl)) (Nat.le_of_ble_eq_true (by rfl)) (by rfl) (by rfl) (by k_asm) (by k_asm) (by k_asm) (by k_asm) (by k_asm) ?_
  intro ms dms dd od fd dfd hp bm u1 u2 u3 u4 u5 u6 h1 tk1 F1 N1 hod lo1 l1 l2 l3 l4 l5 l6 l7
  have ld := l1
  simp only [AllLt] at l1
  obtain ⟨lx, lt, ln⟩ := l1
  have im : ∀ i ∈ imm, @LT.lt Nat _ i.1 dms := fun i hi => lt_of_allLt ln i (sub i hi)
  (try dsimp only)
  (focus ((iterate 16 walk1)))
  refine kla_eval (by exact rfl) ?_
  refine kla_any (c := 230) (imm) (by k_asm) (by k_asm) (by k_asm) C2 (by exact rfl) (by walk_at "MY:upd1") tq (by walk_at "MY:subI") (fun p hp => ne2 p (sub p hp)) (by exact rfl) ?_
  intro f1 c1 oc1 vs1 t1 ctv1 ps1 hh1 tkk1 FF1 NN1 tq1 hd1 hv1 lf1 lcf1 kin1
  (try dsimp only at NN1)
  have pi1 : Hid (@LE.le Nat _ dms c1 ∨ (c1, oc1) ∈ imm) := by
    unfold Hid
    rcases kin1 with h | h
    · exact .inl (Nat.le_of_lt (h (dms, _) (by k_mem)))
    · exact .inr h
  have pc1 : Hid ((@LT.lt Nat _ c1 dms ∧ @Ne Nat c1 x ∧ @Ne Nat c1 226) ∨ @LT.lt Nat _ bm c1) := by
    unfold Hid
    rcases kin1 with h | h
    · have h := h (bm, _) (by k_mem)
      dsimp only at h
      omega
    · exact .inl ⟨im _ h, ne1 _ (sub _ h), ne2 _ (sub _ h)⟩
  clear kin1
  replace lf1 := allLt_of lf1
  simp only [AllLt] at lf1
  replace lf1 := lf1.1
  have : @Ne Addr c1 x := by have hh := pc1; unfold Hid at hh; exact neN (by omega)
  have : @Ne Addr c1 226 := by have hh := pc1; unfold Hid at hh; exact neN (by omega)
  have : @Ne Addr c1 hp := by have hh := pc1; unfold Hid at hh; exact neN (by omega)
  have : @Ne Addr c1 dd := by have hh := pc1; unfold Hid at hh; exact neN (by omega)
  have : @Ne Addr c1 dfd := by have hh := pc1; unfold Hid at hh; exact neN (by omega)
  (try dsimp only)
  (focus ((iterate 10 walk1)))
  refine spec_rfl2 (hp := hp) (dd := dd) (fd := fd) (dfd := dfd) (by rfl) (by rfl) (Nat.le_of_ble_eq_true (by rfl)) (Nat.le_of_ble_eq_true (by rfl)) (by rfl) (by rfl) (by k_asm) (by k_asm) (by k_asm) (by k_asm) (by k_asm) hod (by walk_at "MY:upd2") (Nat.le_of_ble_eq_true (by rfl)) (by k_mem) (by k_mem) (by k_mem) (by k_mem) (by k_mem) (by k_mem) (by k_ne) (by k_ne) (by k_ne) ?_
  intro tup od' h2 tk2 F2 N2 lt2 hod2
  replace lt2 := allLt_of lt2
  simp only [AllLt] at lt2
  replace lt2 := lt2.1
  (try dsimp only)
  (focus ((iterate 11 walk1)))
  refine spec_makeMs (by rfl) (by rfl) (Nat.le_of_ble_eq_true (by rfl)) (Nat.le_of_ble_eq_true (by rfl)) (by rfl) (by rfl) (by k_asm) (by k_asm) (by k_asm) (by k_asm) (by k_asm) ?_
  intro ms2 dms2 dd2 od2 fd2 dfd2 hp2 bm2 v1 v2 v3 v4 v5 v6 h3 tk3 F3 N3 hod3 lo3 k1 k2 k3 k4 k5 k6 k7
  simp only [AllLt] at k1
  replace k1 := k1.1
  have : @Ne Addr c1 hp2 := neN (by omega)
  have : @Ne Addr c1 dd2 := neN (by omega)
  have : @Ne Addr c1 dfd2 := neN (by omega)
  (try dsimp only)
  (focus ((iterate 16 walk1)))
  refine kla_eval (by exact rfl) ?_
  refine kla_any (c := 230) ((c1, oc1) :: imm) (by k_asm) (by k_asm) (by k_asm) C2 (by exact rfl) (by walk_at "MY:upd1") tq1 (by walk_at "MY:subI") (by refine List.forall_mem_cons.mpr ⟨by dsimp only; assumption, ?_⟩; exact fun p hp => ne2 p (sub p hp)) (by exact rfl) ?_
  intro f2 c2 oc2 vs2 t2 ctv2 ps2 hh2 tkk2 FF2 NN2 tq2 hd2 hv2 lf2 lcf2 kin2
  (try dsimp only at NN2)
  have pi2 : Hid (@LE.le Nat _ dms c2 ∨ (c2, oc2) ∈ imm) := by
    unfold Hid
    rcases kin2 with h | h
    · exact .inl (Nat.le_of_lt (h (dms, _) (by k_mem)))
    · rcases List.mem_cons.mp h with e | h
      · obtain ⟨e1, e2⟩ := Prod.mk.inj e; rw [e1, e2]; exact pi1
      · exact .inr h
  have pc2 : Hid ((@LT.lt Nat _ c2 dms ∧ @Ne Nat c2 x ∧ @Ne Nat c2 226) ∨ (@LT.lt Nat _ bm c2 ∧ @LT.lt Nat _ c2 dms2) ∨ @LT.lt Nat _ bm2 c2) := by
    unfold Hid
    rcases kin2 with h | h
    · have h := h (bm2, _) (by k_mem)
      dsimp only at h
      omega
    · rcases List.mem_cons.mp h with e | h
      · obtain ⟨e1, e2⟩ := Prod.mk.inj e; rw [e1]; have hh := pc1; unfold Hid at hh; omega
      · exact .inl ⟨im _ h, ne1 _ (sub _ h), ne2 _ (sub _ h)⟩
  clear kin2
  replace lf2 := allLt_of lf2
  simp only [AllLt] at lf2
  replace lf2 := lf2.1
  have : @Ne Addr c2 x := by have hh := pc2; unfold Hid at hh; exact neN (by omega)
  have : @Ne Addr c2 226 := by have hh := pc2; unfold Hid at hh; exact neN (by omega)
  have : @Ne Addr c2 hp := by have hh := pc2; unfold Hid at hh; exact neN (by omega)
  have : @Ne Addr c2 dd := by have hh := pc2; unfold Hid at hh; exact neN (by omega)
  have : @Ne Addr c2 dfd := by have hh := pc2; unfold Hid at hh; exact neN (by omega)
  have : @Ne Addr c2 hp2 := by have hh := pc2; unfold Hid at hh; exact neN (by omega)
  have : @Ne Addr c2 dd2 := by have hh := pc2; unfold Hid at hh; exact neN (by omega)
  have : @Ne Addr c2 dfd2 := by have hh := pc2; unfold Hid at hh; exact neN (by omega)
  (try dsimp only)
  (focus (walk1))
  refine kla_eval (by exact rfl) ?_
  refine kla_any (c := 230) ((c2, oc2) :: (c1, oc1) :: imm) (by k_asm) (by k_asm) (by k_asm) C2 (by exact rfl) (by walk_at "MY:upd1") tq2 (by walk_at "MY:subI") (by refine List.forall_mem_cons.mpr ⟨by dsimp only; assumption, ?_⟩; refine List.forall_mem_cons.mpr ⟨by dsimp only; assumption, ?_⟩; exact fun p hp => ne2 p (sub p hp)) (by exact rfl) ?_
  intro f3 c3 oc3 vs3 t3 ctv3 ps3 hh3 tkk3 FF3 NN3 tq3 hd3 hv3 lf3 lcf3 kin3
  (try dsimp only at NN3)
  have pi3 : Hid (@LE.le Nat _ dms c3 ∨ (c3, oc3) ∈ imm) := by
    unfold Hid
    rcases kin3 with h | h
    · exact .inl (Nat.le_of_lt (h (dms, _) (by k_mem)))
    · rcases List.mem_cons.mp h with e | h
      · obtain ⟨e1, e2⟩ := Prod.mk.inj e; rw [e1, e2]; exact pi2
      · rcases List.mem_cons.mp h with e | h
        · obtain ⟨e1, e2⟩ := Prod.mk.inj e; rw [e1, e2]; exact pi1
        · exact .inr h
  have pc3 : Hid ((@LT.lt Nat _ c3 dms ∧ @Ne Nat c3 x ∧ @Ne Nat c3 226) ∨ (@LT.lt Nat _ bm c3 ∧ @LT.lt Nat _ c3 dms2) ∨ @LT.lt Nat _ bm2 c3) := by
    unfold Hid
    rcases kin3 with h | h
    · have h := h (bm2, _) (by k_mem)
      dsimp only at h
      omega
    · rcases List.mem_cons.mp h with e | h
      · obtain ⟨e1, e2⟩ := Prod.mk.inj e; rw [e1]; have hh := pc2; unfold Hid at hh; omega
      · rcases List.mem_cons.mp h with e | h
        · obtain ⟨e1, e2⟩ := Prod.mk.inj e; rw [e1]; have hh := pc1; unfold Hid at hh; omega
        · exact .inl ⟨im _ h, ne1 _ (sub _ h), ne2 _ (sub _ h)⟩
  clear kin3
  replace lf3 := allLt_of lf3
  simp only [AllLt] at lf3
  replace lf3 := lf3.1
  have : @Ne Addr c3 x := by have hh := pc3; unfold Hid at hh; exact neN (by omega)
  have : @Ne Addr c3 226 := by have hh := pc3; unfold Hid at hh; exact neN (by omega)
  have : @Ne Addr c3 hp := by have hh := pc3; unfold Hid at hh; exact neN (by omega)
  have : @Ne Addr c3 dd := by have hh := pc3; unfold Hid at hh; exact neN (by omega)
  have : @Ne Addr c3 dfd := by have hh := pc3; unfold Hid at hh; exact neN (by omega)
  have : @Ne Addr c3 hp2 := by have hh := pc3; unfold Hid at hh; exact neN (by omega)
  have : @Ne Addr c3 dd2 := by have hh := pc3; unfold Hid at hh; exact neN (by omega)
  have : @Ne Addr c3 dfd2 := by have hh := pc3; unfold Hid at hh; exact neN (by omega)
  (try dsimp only)
  (focus ((iterate 6 walk1)))
  refine spec_rfl2 (hp := hp2) (dd := dd2) (fd := fd2) (dfd := dfd2) (by rfl) (by rfl) (Nat.le_of_ble_eq_true (by rfl)) (Nat.le_of_ble_eq_true (by rfl)) (by rfl) (by rfl) (by k_asm) (by k_asm) (by k_asm) (by k_asm) (by k_asm) hod3 (by walk_at "MY:upd2") (Nat.le_of_ble_eq_true (by rfl)) (by k_mem) (by k_mem) (by k_mem) (by k_mem) (by k_mem) (by k_mem) (by k_ne) (by k_ne) (by k_ne) ?_
  intro tup2 od3 h4 tk4 F4 N4 lt4 hod4
  replace lt4 := allLt_of lt4
  simp only [AllLt] at lt4
  replace lt4 := lt4.1
  (try dsimp only)
  (focus ((iterate 13 walk1)))
  refine kla_eval (by exact rfl) ?_
  refine kla_any (c := 230) ((c3, oc3) :: (c2, oc2) :: (c1, oc1) :: imm) (by k_asm) (by k_asm) (by k_asm) C2 (by exact rfl) (by walk_at "MY:upd1") tq3 (by walk_at "MY:subI") (by refine List.forall_mem_cons.mpr ⟨by dsimp only; assumption, ?_⟩; refine List.forall_mem_cons.mpr ⟨by dsimp only; assumption, ?_⟩; refine List.forall_mem_cons.mpr ⟨by dsimp only; assumption, ?_⟩; exact fun p hp => ne2 p (sub p hp)) (by exact rfl) ?_
  intro f4 c4 oc4 vs4 t4 ctv4 ps4 hh4 tkk4 FF4 NN4 tq4 hd4 hv4 lf4 lcf4 kin4
  (try dsimp only at NN4)
  have pi4 : Hid (@LE.le Nat _ dms c4 ∨ (c4, oc4) ∈ imm) := by
    unfold Hid
    rcases kin4 with h | h
    · exact .inl (Nat.le_of_lt (h (dms, _) (by k_mem)))
    · rcases List.mem_cons.mp h with e | h
      · obtain ⟨e1, e2⟩ := Prod.mk.inj e; rw [e1, e2]; exact pi3
      · rcases List.mem_cons.mp h with e | h
        · obtain ⟨e1, e2⟩ := Prod.mk.inj e; rw [e1, e2]; exact pi2
        · rcases List.mem_cons.mp h with e | h
          · obtain ⟨e1, e2⟩ := Prod.mk.inj e; rw [e1, e2]; exact pi1
          · exact .inr h
  have pc4 : Hid ((@LT.lt Nat _ c4 dms ∧ @Ne Nat c4 x ∧ @Ne Nat c4 226) ∨ (@LT.lt Nat _ bm c4 ∧ @LT.lt Nat _ c4 dms2) ∨ @LT.lt Nat _ bm2 c4) := by
    unfold Hid
    rcases kin4 with h | h
    · have h := h (bm2, _) (by k_mem)
      dsimp only at h
      omega
    · rcases List.mem_cons.mp h with e | h
      · obtain ⟨e1, e2⟩ := Prod.mk.inj e; rw [e1]; have hh := pc3; unfold Hid at hh; omega
      · rcases List.mem_cons.mp h with e | h
        · obtain ⟨e1, e2⟩ := Prod.mk.inj e; rw [e1]; have hh := pc2; unfold Hid at hh; omega
        · rcases List.mem_cons.mp h with e | h
          · obtain ⟨e1, e2⟩ := Prod.mk.inj e; rw [e1]; have hh := pc1; unfold Hid at hh; omega
          · exact .inl ⟨im _ h, ne1 _ (sub _ h), ne2 _ (sub _ h)⟩
  clear kin4
  replace lf4 := allLt_of lf4
  simp only [AllLt] at lf4
  replace lf4 := lf4.1
  have : @Ne Addr c4 x := by have hh := pc4; unfold Hid at hh; exact neN (by omega)
  have : @Ne Addr c4 226 := by have hh := pc4; unfold Hid at hh; exact neN (by omega)
  have : @Ne Addr c4 hp := by have hh := pc4; unfold Hid at hh; exact neN (by omega)
  have : @Ne Addr c4 dd := by have hh := pc4; unfold Hid at hh; exact neN (by omega)
  have : @Ne Addr c4 dfd := by have hh := pc4; unfold Hid at hh; exact neN (by omega)
  have : @Ne Addr c4 hp2 := by have hh := pc4; unfold Hid at hh; exact neN (by omega)
  have : @Ne Addr c4 dd2 := by have hh := pc4; unfold Hid at hh; exact neN (by omega)
  have : @Ne Addr c4 dfd2 := by have hh := pc4; unfold Hid at hh; exact neN (by omega)
  (try dsimp only)
  (focus ((iterate 10 walk1)))
  refine spec_rfl2 (hp := hp2) (dd := dd2) (fd := fd2) (dfd := dfd2) (xs := [.ref tup2]) (by rfl) (by rfl) (Nat.le_of_ble_eq_true (by rfl)) (Nat.le_of_ble_eq_true (by rfl)) (by rfl) (by rfl) (by k_asm) (by k_asm) (by k_asm) (by k_asm) (by k_asm) hod4 (by walk_at "MY:upd2") (Nat.le_of_ble_eq_true (by rfl)) (by k_mem) (by k_mem) (by k_mem) (by k_mem) (by k_mem) (by k_mem) (by k_ne) (by k_ne) (by k_ne) ?_
  intro tup3 od4 h5 tk5 F5 N5 lt5 hod5
  replace lt5 := allLt_of lt5
  simp only [AllLt] at lt5
  replace lt5 := lt5.1
  (try dsimp only)
  (focus ((iterate 8 walk1)))
  refine spec_num (ms := ms) (fd := fd) (dfd := dfd) (hp := hp) (xs := [.ref tup]) (by rfl) (by rfl) (Nat.le_of_ble_eq_true (by rfl)) (Nat.le_of_ble_eq_true (by rfl)) (by rfl) (by rfl) (by k_asm) (by k_asm) (by k_asm) (by k_asm) (by k_asm) (Nat.le_of_ble_eq_true (by rfl)) (by k_mem) (by k_mem) (by k_mem) (by k_mem) (by k_mem) ?_
  intro i1 h6 tk6 F6 N6
  (try dsimp only)
  (focus ((iterate 11 walk1)))
  refine spec_num (ms := ms2) (fd := fd2) (dfd := dfd2) (hp := hp2) (xs := [.ref tup3, .ref tup2]) (by rfl) (by rfl) (Nat.le_of_ble_eq_true (by rfl)) (Nat.le_of_ble_eq_true (by rfl)) (by rfl) (by rfl) (by k_asm) (by k_asm) (by k_asm) (by k_asm) (by k_asm) (Nat.le_of_ble_eq_true (by rfl)) (by k_mem) (by k_mem) (by k_mem) (by k_mem) (by k_mem) ?_
  intro i2 h7 tk7 F7 N7
  (focus ((iterate 4 walk1)))
  rename News h₀ L _ _ => NN
  refine SiftE.start NN [x, 226, hp, dd, dfd, hp2, dd2, dfd2] news (fun own => DispAt w own ⟨ms, dms, dd, fd, dfd, hp, bm⟩ uf ∧ DispAt w own ⟨ms2, dms2, dd2, fd2, dfd2, hp2, bm2⟩ sf ∧ Firsts own x tup tup2 tup3 ∧ TabQ (qLam "BaseConverter.__init__") ps4 (own ++ imm) ∧
    (∀ p ∈ own, p.1 ≠ hp ∧ p.1 ≠ dd ∧ p.1 ≠ dfd ∧ p.1 ≠ hp2 ∧ p.1 ≠ dd2 ∧ p.1 ≠ dfd2 ∧ (@LE.le Nat _ dms p.1 ∨ p ∈ imm))) ?_ ?_
  · (iterate 13 (refine SiftE.keep ?_)); refine SiftE.drop ?_; refine SiftE.keep ?_; refine SiftE.drop ?_; refine SiftE.drop ?_
    (iterate 9 (refine SiftE.keep ?_)); refine SiftE.drop ?_; refine SiftE.keep ?_; refine SiftE.drop ?_; refine SiftE.drop ?_
    (iterate 2 (refine SiftE.keep ?_)); refine SiftE.drop ?_; refine SiftE.drop ?_; refine SiftE.stop ?_
    refine ⟨⟨by k_mem, ⟨_, _, _, _, by k_mem⟩, by k_mem, by k_mem⟩, ⟨by k_mem, ⟨_, _, _, _, by k_mem⟩, by k_mem, by k_mem⟩, ⟨⟨_, _, by k_mem, by k_mem, ⟨_, _, _, _, _, _, by k_mem, by k_mem, hd1, hv1⟩⟩, ⟨_, _, by k_mem, ⟨_, _, _, _, _, _, by k_mem, by k_mem, hd2, hv2⟩, ⟨_, _, _, _, _, _, by k_mem, by k_mem, hd3, hv3⟩⟩, ⟨_, by k_mem, ⟨_, _, _, _, _, _, by k_mem, by k_mem, hd4, hv4⟩⟩⟩, ?_, ?_⟩
    · refine tq4.mono ?_
      (iterate 4 (refine List.forall_mem_cons.mpr ⟨List.mem_append_left _ (by k_mem), ?_⟩))
      exact fun p hp => List.mem_append_right _ hp
    · walk_at "MY:each"
  · intro own sb hh
    obtain ⟨q1, q2, q3, q4, q5⟩ := hh
    refine hQ ⟨ms, dms, dd, fd, dfd, hp, bm⟩ ⟨ms2, dms2, dd2, fd2, dfd2, hp2, bm2⟩ tup tup2 tup3 i1 i2 u1 u2 v1 v2 od' od4 ps4 own _ _ (by k_asm) ?_ q1 q2 q3 q4 hod2 hod5 (lt_of_allLt ld) q5 (by dsimp only; omega) (by dsimp only; omega) (by dsimp only; omega) (by dsimp only; omega) (by dsimp only; omega) (by dsimp only; omega) lo1 lo3
    refine nSub NN ?_
    (iterate 8 (refine List.forall_mem_cons.mpr ⟨by k_mem, ?_⟩))
    exact sb
end
end
example {M : Model} {A : Around} {E Q : Value → Shared → Prop} {s : Shared} (h : wpAny M A (pure .none) Q E s) : wpAny M A (pure .none) Q E s := by
  w_top off
  first
    | (walk1; fail)
    | exact h
section
section
variable {prog : Program} {w : World} {K : Type} [DecidableEq K] {knd : KeyKind prog w K} {A : Around} {E : Value → Shared → Prop} {s : Shared} {h₀ : Heap} {L src : Addr} {m : Str → Option Value} {news : List (Addr × Obj)} {kvs : List (K × Value)}
/-- dict(d), whatever the values are -/
theorem dict_copy_any {Q : Value → Shared → Prop} (F : Fr h₀ L s.heap m) (N : News h₀ L s.heap news) (hbig : h₀.NoLimit) (hd : s.heap.DictOf knd src kvs) (lo : (src == sysModules) = false) (hsz : kvs.length ≤ sizeLine)
    (k : ∀ d h' o, Fr h₀ L h' m → News h₀ L h' ((d, o) :: news) → (∀ p ∈ news, p.1 < d) → (d == sysModules) = false → o.IsDictOf knd kvs → Q (.ref d) { s with heap := h' }) :
    wpAny (model prog w) A (call (.type "dict") [.ref src]) Q E s := by
  refine kt_call_dict lo hd hsz fun h' hm hs => ?_
  obtain ⟨o', ho', hd'⟩ := Heap.dictOf_iff.mp hm
  have N1 := News.push F N { cls := .type "dict", data := .dict #[] }
  exact k _ h' o' ((F.push _).change hs (N1 _ (.head _)).2.1 (N1.fresh (.head _))) (N1.setHead N.apart hs ho') (fun p hp => Heap.lt_size (N p hp).1) (F.notModules (modules_low hbig)) hd'
end
/-- an empty dict that stands: made in the call, or written in the text -/
def OvAt (w : World) (l : List (Addr × Obj)) (a : Addr) : Prop :=
  (a == sysModules) = false ∧ ∃ o, o.IsDictOf (strKind PROG w) [] ∧ ((a, o) ∈ l ∨ (Mine.hd.heap_39 w.params).lookup a = some o)
theorem OvAt.mono {w : World} {l l' : List (Addr × Obj)} {a : Addr} (h : OvAt w l a) (k : ∀ p ∈ l, p ∈ l') : OvAt w l' a :=
  ⟨h.1, let ⟨o, a, b⟩ := h.2; ⟨o, a, b.imp (k _) id⟩⟩
theorem OvAt.dict {w : World} {l : List (Addr × Obj)} {a : Addr} {h₀ h : Heap} {L : Addr} {m : Str → Option Value} (O : OvAt w l a) (X : (Mine.hd.heap_39 w.params).In h₀) (F : Fr h₀ L h m) (N : News h₀ L h l) : h.DictOf (strKind PROG w) a [] := by
  obtain ⟨_, o, hd, hm | hk⟩ := O
  · exact Heap.dictOf_iff.mpr ⟨o, (N _ hm).1, hd⟩
  · exact Heap.dictOf_iff.mpr ⟨o, F.keep _ _ (X _ _ hk), hd⟩
end
example {M : Model} {A : Around} {E Q : Value → Shared → Prop} {s : Shared} (h : wpAny M A (pure .none) Q E s) : wpAny M A (pure .none) Q E s := by
  w_top off
  first
    | (walk1; fail)
    | exact h
section
local macro_rules | `(tactic| walk_at "getAttr ref") => `(tactic| walk_at "MY:getnd")
local macro_rules | `(tactic| walk_at "MY:mem") => `(tactic| first | exact List.mem_cons_self | (refine' List.mem_cons_of_mem _ ?_; walk_at "MY:mem") | assumption | ktr_member)
section
variable {w : World} {A₀ A : Around} {base h₀ : Heap} {env : Env} {outer : List Env} {L : Addr} {m mg mb : Str → Option Value} {p : Program} {loose : List Str} {mean : ExcName → Option Value} {s : Shared} {Q E : Value → Shared → Prop} {news l : List (Addr × Obj)}
theorem spec_initC {x dx ov : Addr} {imm : List (Addr × Obj)} {ps : Array Value} {om fb pv dv uf sf ua : Value} {pos : List Value} {kw : List (Str × Value)} {R : Result → Shared → Prop}
    (hA : A.frames = some (env :: outer)) (hh : A.handled = none) (hd : A.depth ≤ 330) (hu : A.units ≤ 700) (hf : env.frame = some L) (hke : env.scope.kind = .function)
    (B : Below A₀ base outer h₀) (F : Fr h₀ L s.heap m) (X : (Mine.hd.heap_39 w.params).In h₀) (T : Top p loose mean mg mb h₀)
    (hb : BindsF w.params s 366 ⟨pos, kw⟩ [("self", .ref x), ("omit_if_default", om), ("forbid_extra_keys", fb), ("type_overrides", .ref ov), ("prefer_attrib_converters", pv), ("detailed_validation", dv), ("unstructure_fallback_factory", uf), ("structure_fallback_factory", sf), ("use_alias", ua)])
    (N : News h₀ L s.heap ((x, ⟨.ref 410, some dx, .plain, #[]⟩) :: (226, tabObj ps) :: news)) (tq : TabQ (qLam "BaseConverter.__init__") ps imm) (sub : ∀ p ∈ imm, p ∈ news) (hov : OvAt w news ov)
    (m1 : (dx, W.dictOf [] 0) ∈ news) (ne1 : ∀ p ∈ news, p.1 ≠ x) (ne2 : ∀ p ∈ news, p.1 ≠ 226) (ne3 : @Ne Nat x 226)
    (hQ : ∀ (O I : Disp) tO tB tC i1 i2 t5 t6 t7 t8 odO odI ps' own ov' h' tk, Fr h₀ L h' m →
      News h₀ L h' ((x, ⟨.ref 410, some dx, .plain, #[none, some fb, some om, some (.ref ov'), some ua, none, some pv, some (.int 2 i2), none, some (.ref I.ms), none, some (.int 1 i1), none, some (.ref O.ms), some dv]⟩) :: (226, tabObj ps') ::
        (O.hp, W.listOf [.ref tO].toArray 1) :: (O.dd, odO) :: (O.dfd, fdDict w t5 t6 (.ref x) O.hp) :: (I.hp, W.listOf [.ref tC, .ref tB].toArray 2) :: (I.dd, odI) :: (I.dfd, fdDict w t7 t8 (.ref x) I.hp) :: (own ++ news)) →
      DispAt w own O uf → DispAt w own I sf → Firsts own x tO tB tC → TabQ (qLam "BaseConverter.__init__") ps' (own ++ imm) → OvAt w own ov' → odO.IsDictOf (strKind PROG w) [] → odI.IsDictOf (strKind PROG w) [] →
      (∀ p ∈ (x, (⟨.ref 410, some dx, .plain, #[]⟩ : Obj)) :: (226, tabObj ps) :: news, @LT.lt Nat _ p.1 O.dms) →
      (∀ p ∈ own, p.1 ≠ O.hp ∧ p.1 ≠ O.dd ∧ p.1 ≠ O.dfd ∧ p.1 ≠ I.hp ∧ p.1 ≠ I.dd ∧ p.1 ≠ I.dfd ∧ (@LE.le Nat _ O.dms p.1 ∨ p ∈ imm)) →
      @LT.lt Nat _ O.dms O.dd → @LT.lt Nat _ O.dd O.dfd → @LT.lt Nat _ O.dfd O.hp → @LT.lt Nat _ O.hp I.dd → @LT.lt Nat _ I.dd I.dfd → @LT.lt Nat _ I.dfd I.hp → (O.dd == sysModules) = false → (I.dd == sysModules) = false →
      R (.ok (.ret .none)) { s with heap := h', toks := tk }) :
    codeAny (model PROG w) A (.call (.ref 366) ⟨pos, kw⟩) R s := by
  refine code_le 330 700 hA hh hd hu ?_
  k_dflt (refine' ks_code_super ?k1 ?k2 ?k3 ?k4 ?k5 ?kA ?kF ?kK ?k6 ?k7 ?k8 ?k9 ?kB ?_ ?c1 ?c2 ?c3 ?c4)
  (case kA => exact rfl); (case kF => first | exact rfl | assumption); (case kK => first | exact rfl | assumption); (case k1 => k_asm); (case k2 => k_asm); (case k3 => k_asm); (case k4 => k_asm); (case k5 => k_asm); (case k6 => k_is); (case k7 => k_is); (case k8 => k_room)
  (case k9 => exact hb.to (by k_is))
  (case kB => exact locs rfl); (case c1 => decide); (case c2 => exact rfl); (case c3 => exact rfl); (case c4 => exact rfl)
  intro g' L' h' FG' F' N' B' X' T' l1
  replace l1 := allLt_of l1
  (try dsimp only)
  skip
  (focus ((iterate 2 walk1)))
  refine ks_wpAt_MethodCallK ?_
  (focus ((iterate 2 walk1)))
  (try dsimp only)
  k_here
  refine callWith_MKW0 (K := Mine.hd.heap_39 w.params) (g := 231) (self := .ref x) (by k_is) (by rfl) ?_
  (focus ((iterate 9 walk1)))
  refine ⟨?_, ?_⟩
  · k_dflt k_meth
  (try dsimp only)
  k_dflt (refine' call_meth ?k1 ?k2 ?_; (case k1 => k_asm); (case k2 => k_mem))
  have N1 := (by with_reducible assumption : News g' L' _ (_ :: _ :: (x, _) :: (226, _) :: _))
  have N2 := news_rot N1
  have ap1 := nApart N1 (List.mem_cons_self) (List.mem_cons_of_mem _ (List.mem_cons_of_mem _ (List.mem_cons_self))) (by intro e; cases e)
  have ap2 := nApart N1 (List.mem_cons_self) (List.mem_cons_of_mem _ (List.mem_cons_of_mem _ (List.mem_cons_of_mem _ (List.mem_cons_self)))) (by intro e; cases e)
  have ap3 := nApart N1 (List.mem_cons_of_mem _ (List.mem_cons_self)) (List.mem_cons_of_mem _ (List.mem_cons_of_mem _ (List.mem_cons_self))) (by intro e; cases e)
  have ap4 := nApart N1 (List.mem_cons_of_mem _ (List.mem_cons_self)) (List.mem_cons_of_mem _ (List.mem_cons_of_mem _ (List.mem_cons_of_mem _ (List.mem_cons_self)))) (by intro e; cases e)
  clear N1
  generalize hqs : (_ :: _ :: news : List (Addr × Obj)) = qs at N2
  have hne1 : ∀ p ∈ qs, p.1 ≠ x := by
    subst hqs
    exact List.forall_mem_cons.mpr ⟨ap1, List.forall_mem_cons.mpr ⟨ap3, ne1⟩⟩
  have hne2 : ∀ p ∈ qs, p.1 ≠ 226 := by
    subst hqs
    exact List.forall_mem_cons.mpr ⟨ap2, List.forall_mem_cons.mpr ⟨ap4, ne2⟩⟩
  have hsub : ∀ p ∈ news, p ∈ qs := by subst hqs; exact fun p hp => List.mem_cons_of_mem _ (List.mem_cons_of_mem _ hp)
  refine spec_initB_410 (imm := imm) (pv := pv) (dv := dv) (uf := uf) (sf := sf) (dx := dx) (by rfl) (by rfl) (Nat.le_of_ble_eq_true (by rfl)) (Nat.le_of_ble_eq_true (by rfl)) (by rfl) (by rfl) (by k_asm) (by k_asm) (by k_asm) (by k_asm) ?hb N2 tq ?sub ?m1 ?ne1 ?ne2 ne3 ?hQ
  case hb => exact ⟨_, _, by k_is, rfl, by first | exact BindsTo.of_eq rfl | exact binds_K (by k_in) rfl (by k_is) rfl rfl rfl⟩
  case sub => exact fun p hp => hsub p (sub p hp)
  case m1 => exact hsub _ m1
  case ne1 => exact hne1
  case ne2 => exact hne2
  case hQ =>
    intro O I tO tB tC i1 i2 t5 t6 t7 t8 odO odI ps' own h1 tk1 F1 N1 dO dI fi tq' ho hi lt off o1 o2 o3 o4 o5 o6 q1 q2
    have lx : @LT.lt Nat _ x O.dms := lt _ List.mem_cons_self
    have hx : ∀ p ∈ own ++ qs, p.1 ≠ x := fun p hp => by
      rcases List.mem_append.mp hp with hp | hp
      · rcases (off p hp).2.2.2.2.2.2 with h | h
        · exact Nat.ne_of_gt (Nat.lt_of_lt_of_le lx h)
        · exact ne1 p (sub p h)
      · exact hne1 p hp
    have kO : ∀ p ∈ own, p ∈ own ++ qs := fun p hp => List.mem_append_left _ hp
    have kN : ∀ p ∈ news, p ∈ own ++ qs := fun p hp => List.mem_append_right _ (hsub p hp)
    have msI := kO _ dI.ms
    have fdI := kO _ dI.fd
    have msO := kO _ dO.ms
    have fdO := kO _ dO.fd
    obtain ⟨_, _, _, _, dmsO⟩ := dO.dms
    obtain ⟨_, _, _, _, dmsI⟩ := dI.dms
    replace dmsO := kO _ dmsO
    replace dmsI := kO _ dmsI
    have mdx := kN _ m1
    replace hov := hov.mono kN
    generalize hOwn : own ++ qs = tl at hx N1 kO kN msI fdI msO fdO dmsO dmsI mdx hov
    have hxx : ∀ p ∈ (226, tabObj ps') :: (O.hp, W.listOf [.ref tO].toArray 1) :: (O.dd, odO) :: (O.dfd, fdDict w t5 t6 (.ref x) O.hp) :: (I.hp, W.listOf [.ref tC, .ref tB].toArray 2) :: (I.dd, odI) :: (I.dfd, fdDict w t7 t8 (.ref x) I.hp) :: tl, p.1 ≠ x := by
      refine List.forall_mem_cons.mpr ⟨neN (by dsimp only; omega), ?_⟩
      (iterate 6 (refine List.forall_mem_cons.mpr ⟨neN (by dsimp only; omega), ?_⟩))
      exact hx
    (try dsimp only)
    (focus ((iterate 21 walk1)))
    refine dict_copy_any (knd := strKind PROG w) (kvs := []) (by k_asm) (by k_asm) (Top.nolimit (by k_asm)) (hov.dict (l := tl) (by k_asm) (by k_asm) (nSub (by k_asm) (by walk_at "MY:sub"))) hov.1 (Nat.zero_le _) ?_
    intro ov' h2 oov F2 N2 lt2 nov hov2
    have nx : @Ne Addr ov' x := Nat.ne_of_gt (lt2 (x, _) (by k_mem))
    have nw : @LT.lt Nat _ I.hp ov' := lt2 (I.hp, _) (by k_mem)
    clear lt2
    (try dsimp only)
    (focus ((iterate 16 walk1)))
    refine spec_num (ms := I.ms) (fd := I.fd) (dfd := I.dfd) (hp := I.hp) (dd := I.dd) (bm := I.bm) (xs := [.ref tC, .ref tB]) (by rfl) (by rfl) (Nat.le_of_ble_eq_true (by rfl)) (Nat.le_of_ble_eq_true (by rfl)) (by rfl) (by rfl) (by k_asm) (by k_asm) (by k_asm) (by k_asm) (by k_asm) (Nat.le_of_ble_eq_true (by rfl)) (by k_mem) (by k_mem) (by k_mem) (by k_mem) (by k_mem) ?_
    intro j1 h3 tk3 F3 N3
    (try dsimp only)
    (focus ((iterate 11 walk1)))
    refine spec_num (ms := O.ms) (fd := O.fd) (dfd := O.dfd) (hp := O.hp) (dd := O.dd) (bm := O.bm) (xs := [.ref tO]) (by rfl) (by rfl) (Nat.le_of_ble_eq_true (by rfl)) (Nat.le_of_ble_eq_true (by rfl)) (by rfl) (by rfl) (by k_asm) (by k_asm) (by k_asm) (by k_asm) (by k_asm) (Nat.le_of_ble_eq_true (by rfl)) (by k_mem) (by k_mem) (by k_mem) (by k_mem) (by k_mem) ?_
    intro j2 h4 tk4 F4 N4
    (try dsimp only)
    (focus ((iterate 5 walk1)))
    rename News h₀ L _ _ => NN
    subst hOwn
    refine hQ O I tO tB tC j2 j1 t5 t6 t7 t8 odO odI ps' ((ov', oov) :: own) ov' _ _ (by k_asm) ?_ (dO.mono ?_) (dI.mono ?_) (fi.mono ?_) (tq'.mono ?_) ⟨nov, oov, hov2, .inl List.mem_cons_self⟩ ho hi (List.forall_mem_cons.mpr ⟨lt _ List.mem_cons_self, List.forall_mem_cons.mpr ⟨lt _ (List.mem_cons_of_mem _ List.mem_cons_self), fun p hp => lt p (List.mem_cons_of_mem _ (List.mem_cons_of_mem _ (hsub p hp)))⟩⟩) ?_ o1 o2 o3 o4 o5 o6 q1 q2
    · refine nSub NN ?_
      (iterate 8 (refine List.forall_mem_cons.mpr ⟨by k_mem, ?_⟩))
      refine List.forall_mem_cons.mpr ⟨by k_mem, ?_⟩
      intro p hp
      refine List.mem_cons_of_mem _ (List.mem_cons_of_mem _ (List.mem_cons_of_mem _ (List.mem_cons_of_mem _ (List.mem_cons_of_mem _ (List.mem_cons_of_mem _ (List.mem_cons_of_mem _ (List.mem_cons_of_mem _ (List.mem_cons_of_mem _ ?_))))))))
      exact (List.mem_append.mp hp).elim (kO p) (kN p)
    · exact fun p hp => List.mem_cons_of_mem _ hp
    · exact fun p hp => List.mem_cons_of_mem _ hp
    · exact fun p hp => List.mem_cons_of_mem _ hp
    · exact fun p hp => List.mem_cons_of_mem _ hp
    · refine List.forall_mem_cons.mpr ⟨?_, off⟩
      dsimp only
      refine ⟨neN (by omega), neN (by omega), neN (by omega), neN (by omega), neN (by omega), neN (by omega), .inl (by omega)⟩
end
end
example {M : Model} {A : Around} {E Q : Value → Shared → Prop} {s : Shared} (h : wpAny M A (pure .none) Q E s) : wpAny M A (pure .none) Q E s := by
  w_top off
  first
    | (walk1; fail)
    | exact h
section
structure Conv where
  k : Bool
  x : Addr
  O : Disp
  I : Disp
  tO : Addr
  tB : Addr
  tC : Addr
  uf : Value
  sf : Value
/-- the object itself, with the slots that are of use -/
inductive ObjAt (w : World) (l : List (Addr × Obj)) (C : Conv) : Prop
  | c (dx : Addr) (fb om : Bool) (ov : Addr) (ua pv dv : Bool) (i1 i2 : Tok) (hk : C.k = true)
      (ho : (C.x, ⟨.ref 410, some dx, .plain, #[none, some (.bool fb), some (.bool om), some (.ref ov), some (.bool ua), none, some (.bool pv), some (.int 2 i2), none, some (.ref C.I.ms), none, some (.int 1 i1), none, some (.ref C.O.ms), some (.bool dv)]⟩) ∈ l)
      (hd : (dx, W.dictOf [] 0) ∈ l) (hov : OvAt w l ov) : ObjAt w l C
  | b (dx : Addr) (pv dv : Bool) (i1 i2 : Tok) (hk : C.k = false)
      (ho : (C.x, ⟨.ref 321, some dx, .plain, #[none, some (.bool pv), some (.int 2 i2), none, some (.ref C.I.ms), none, some (.int 1 i1), none, some (.ref C.O.ms), some (.bool dv)]⟩) ∈ l)
      (hd : (dx, W.dictOf [] 0) ∈ l) : ObjAt w l C
theorem ObjAt.mono {w : World} {l l' : List (Addr × Obj)} {C : Conv} (h : ObjAt w l C) (k : ∀ p ∈ l, p ∈ l') : ObjAt w l' C := by
  cases h with
  | c dx fb om ov ua pv dv i1 i2 hk ho hd hov => exact .c dx fb om ov ua pv dv i1 i2 hk (k _ ho) (k _ hd) (hov.mono k)
  | b dx pv dv i1 i2 hk ho hd => exact .b dx pv dv i1 i2 hk (k _ ho) (k _ hd)
structure BaseAt (w : World) (l : List (Addr × Obj)) (C : Conv) : Prop where
  obj : ObjAt w l C
  dO : DispAt w l C.O C.uf
  dI : DispAt w l C.I C.sf
  fi : Firsts l C.x C.tO C.tB C.tC
theorem BaseAt.mono {w : World} {l l' : List (Addr × Obj)} {C : Conv} (h : BaseAt w l C) (k : ∀ p ∈ l, p ∈ l') : BaseAt w l' C := ⟨h.obj.mono k, h.dO.mono k, h.dI.mono k, h.fi.mono k⟩
/-- the six places of a new converter that may change, and what else was made -/
structure Fresh6 (old own imm : List (Addr × Obj)) (C : Conv) : Prop where
  lo : ∀ q ∈ old, @LT.lt Nat _ q.1 C.O.dd
  c1 : @LT.lt Nat _ C.O.dd C.O.dfd
  c2 : @LT.lt Nat _ C.O.dfd C.O.hp
  c3 : @LT.lt Nat _ C.O.hp C.I.dd
  c4 : @LT.lt Nat _ C.I.dd C.I.dfd
  c5 : @LT.lt Nat _ C.I.dfd C.I.hp
  s1 : (C.O.dd == sysModules) = false
  s2 : (C.I.dd == sysModules) = false
  own : ∀ p ∈ own, p.1 ≠ C.O.hp ∧ p.1 ≠ C.O.dd ∧ p.1 ≠ C.O.dfd ∧ p.1 ≠ C.I.hp ∧ p.1 ≠ C.I.dd ∧ p.1 ≠ C.I.dfd ∧ ((∀ q ∈ old, @LT.lt Nat _ q.1 p.1) ∨ p ∈ imm)
section
variable {w : World} {A₀ A : Around} {base h₀ : Heap} {env : Env} {outer : List Env} {L : Addr} {m mg mb : Str → Option Value} {p : Program} {loose : List Str} {mean : ExcName → Option Value} {s : Shared} {Q E : Value → Shared → Prop} {news l : List (Addr × Obj)}
theorem spec_newC {imm : List (Addr × Obj)} {ps : Array Value} {ov : Addr} {om fb pv dv ua : Bool} {uf sf : Value} {pos : List Value} {kw : List (Str × Value)}
    (hA : A.frames = some (env :: outer)) (hh : A.handled = none) (hd : A.depth ≤ 325) (hu : A.units ≤ 650) (hf : env.frame = some L) (hke : env.scope.kind = .function)
    (B : Below A₀ base outer h₀) (F : Fr h₀ L s.heap m) (X : (Mine.hd.heap_39 w.params).In h₀) (T : Top p loose mean mg mb h₀)
    (hb : ∀ x s', (Mine.hd.heap_39 w.params).In s'.heap → BindsF w.params s' 366 ⟨.ref x :: pos, kw⟩ [("self", .ref x), ("omit_if_default", .bool om), ("forbid_extra_keys", .bool fb), ("type_overrides", .ref ov), ("prefer_attrib_converters", .bool pv), ("detailed_validation", .bool dv), ("unstructure_fallback_factory", uf), ("structure_fallback_factory", sf), ("use_alias", .bool ua)])
    (N : News h₀ L s.heap ((226, tabObj ps) :: news)) (tq : TabQ (qLam "BaseConverter.__init__") ps imm) (sub : ∀ p ∈ imm, p ∈ news) (hov : OvAt w news ov) (ne2 : ∀ p ∈ news, p.1 ≠ 226)
    (hQ : ∀ (C : Conv) t5 t6 t7 t8 odO odI ps' own h' tk, C.k = true → C.uf = uf → C.sf = sf → Fr h₀ L h' m →
      News h₀ L h' ((226, tabObj ps') :: (C.O.hp, W.listOf [.ref C.tO].toArray 1) :: (C.O.dd, odO) :: (C.O.dfd, fdDict w t5 t6 (.ref C.x) C.O.hp) :: (C.I.hp, W.listOf [.ref C.tC, .ref C.tB].toArray 2) :: (C.I.dd, odI) :: (C.I.dfd, fdDict w t7 t8 (.ref C.x) C.I.hp) :: (own ++ news)) →
      BaseAt w own C → TabQ (qLam "BaseConverter.__init__") ps' (own ++ imm) → odO.IsDictOf (strKind PROG w) [] → odI.IsDictOf (strKind PROG w) [] → Fresh6 ((226, tabObj ps) :: news) own imm C →
      Q (.ref C.x) { s with heap := h', toks := tk }) :
    wpAny (model PROG w) A (call (.ref 410) pos kw) Q E s := by
  refine wp_le 325 650 hA hh hd hu ?_
  k_dflt (refine' call_cls ?k1 ?k2 ?k3 ?k4 ?k5 ?k6 ?_)
  (case k1 => k_asm); (case k2 => k_asm); (case k3 => k_asm); (case k4 => k_is); (case k5 => k_is); (case k6 => k_is)
  intro x dx h' F' N' l1 l2
  replace l2 := ltN l2
  have n0 : @LT.lt Nat _ 226 dx := l1 _ List.mem_cons_self
  have N2 : News h₀ L h' ((x, ⟨.ref 410, some dx, .plain, #[]⟩) :: (226, tabObj ps) :: (dx, W.dictOf [] 0) :: news) := nSub N' (by walk_at "MY:sub")
  refine spec_initC (s := { s with heap := h' }) (imm := imm) (x := x) (dx := dx) (ov := ov) (om := .bool om) (fb := .bool fb) (pv := .bool pv) (dv := .bool dv) (uf := uf) (sf := sf) (ua := .bool ua) (by rfl) (by rfl) (Nat.le_of_ble_eq_true (by rfl)) (Nat.le_of_ble_eq_true (by rfl)) hf hke (by k_asm) (by k_asm) (by k_asm) (by k_asm) (hb x _ (X.keeps F'.keep)) N2 tq ?sub ?hov ?m1 ?ne1 ?ne2 ?ne3 ?hQ
  case sub => exact fun p hp => List.mem_cons_of_mem _ (sub p hp)
  case hov => exact hov.mono fun p hp => List.mem_cons_of_mem _ hp
  case m1 => exact List.mem_cons_self
  case ne1 => exact List.forall_mem_cons.mpr ⟨neN (by dsimp only; omega), fun p hp => Nat.ne_of_lt (Nat.lt_trans (l1 p (List.mem_cons_of_mem _ hp)) l2)⟩
  case ne2 => exact List.forall_mem_cons.mpr ⟨neN (by dsimp only; omega), ne2⟩
  case ne3 => omega
  case hQ =>
    intro O I tO tB tC i1 i2 t5 t6 t7 t8 odO odI ps' own ov' h2 tk F2 N3 dO dI fi tq' hov' ho hi lt off o1 o2 o3 o4 o5 o6 q1 q2
    refine ⟨rfl, ?_⟩
    have lx : @LT.lt Nat _ x O.dms := lt _ List.mem_cons_self
    have old : ∀ q ∈ (226, tabObj ps) :: news, @LT.lt Nat _ q.1 dx := l1
    have m0 : ∀ p ∈ own, p ∈ (x, (⟨.ref 410, some dx, .plain, #[none, some (.bool fb), some (.bool om), some (.ref ov'), some (.bool ua), none, some (.bool pv), some (.int 2 i2), none, some (.ref I.ms), none, some (.int 1 i1), none, some (.ref O.ms), some (.bool dv)]⟩ : Obj)) :: (dx, W.dictOf [] 0) :: own := fun p hp => List.mem_cons_of_mem _ (List.mem_cons_of_mem _ hp)
    refine hQ ⟨true, x, O, I, tO, tB, tC, uf, sf⟩ t5 t6 t7 t8 odO odI ps' ((x, _) :: (dx, W.dictOf [] 0) :: own) h2 tk rfl rfl rfl F2 ?_ ⟨.c dx fb om ov' ua pv dv i1 i2 rfl List.mem_cons_self (List.mem_cons_of_mem _ List.mem_cons_self) (hov'.mono m0), dO.mono m0, dI.mono m0, fi.mono m0⟩ (tq'.mono fun p hp => (List.mem_cons_of_mem _ (List.mem_cons_of_mem _ hp))) ho hi ⟨?_, o2, o3, o4, o5, o6, q1, q2, ?_⟩
    · refine nSub N3 ?_
      (iterate 8 (refine List.forall_mem_cons.mpr ⟨by k_mem, ?_⟩))
      refine List.forall_mem_cons.mpr ⟨?_, ?_⟩
      · (iterate 8 (refine List.mem_cons_of_mem _ ?_)); exact List.mem_append_right _ List.mem_cons_self
      · intro p hp
        (iterate 8 (refine List.mem_cons_of_mem _ ?_))
        exact (List.mem_append.mp hp).elim (fun h => List.mem_append_left _ h) fun h => List.mem_append_right _ (List.mem_cons_of_mem _ h)
    · intro q hq
      have := old q hq
      dsimp only
      omega
    · refine List.forall_mem_cons.mpr ⟨⟨neN (by dsimp only; omega), neN (by dsimp only; omega), neN (by dsimp only; omega), neN (by dsimp only; omega), neN (by dsimp only; omega), neN (by dsimp only; omega), .inl fun q hq => Nat.lt_trans (old q hq) l2⟩, ?_⟩
      refine List.forall_mem_cons.mpr ⟨⟨neN (by dsimp only; omega), neN (by dsimp only; omega), neN (by dsimp only; omega), neN (by dsimp only; omega), neN (by dsimp only; omega), neN (by dsimp only; omega), .inl old⟩, ?_⟩
      intro p hp
      obtain ⟨a1, a2, a3, a4, a5, a6, a7⟩ := off p hp
      refine ⟨a1, a2, a3, a4, a5, a6, a7.imp (fun h q hq => ?_) id⟩
      have := old q hq
      omega
theorem spec_newB {imm : List (Addr × Obj)} {ps : Array Value} {pv dv : Bool} {uf sf : Value} {pos : List Value} {kw : List (Str × Value)}
    (hA : A.frames = some (env :: outer)) (hh : A.handled = none) (hd : A.depth ≤ 325) (hu : A.units ≤ 650) (hf : env.frame = some L) (hke : env.scope.kind = .function)
    (B : Below A₀ base outer h₀) (F : Fr h₀ L s.heap m) (X : (Mine.hd.heap_39 w.params).In h₀) (T : Top p loose mean mg mb h₀)
    (hb : ∀ x s', (Mine.hd.heap_39 w.params).In s'.heap → BindsF w.params s' 231 ⟨.ref x :: pos, kw⟩ [("self", .ref x), ("prefer_attrib_converters", .bool pv), ("detailed_validation", .bool dv), ("unstructure_fallback_factory", uf), ("structure_fallback_factory", sf)])
    (N : News h₀ L s.heap ((226, tabObj ps) :: news)) (tq : TabQ (qLam "BaseConverter.__init__") ps imm) (sub : ∀ p ∈ imm, p ∈ news) (ne2 : ∀ p ∈ news, p.1 ≠ 226)
    (hQ : ∀ (C : Conv) t5 t6 t7 t8 odO odI ps' own h' tk, C.k = false → C.uf = uf → C.sf = sf → Fr h₀ L h' m →
      News h₀ L h' ((226, tabObj ps') :: (C.O.hp, W.listOf [.ref C.tO].toArray 1) :: (C.O.dd, odO) :: (C.O.dfd, fdDict w t5 t6 (.ref C.x) C.O.hp) :: (C.I.hp, W.listOf [.ref C.tC, .ref C.tB].toArray 2) :: (C.I.dd, odI) :: (C.I.dfd, fdDict w t7 t8 (.ref C.x) C.I.hp) :: (own ++ news)) →
      BaseAt w own C → TabQ (qLam "BaseConverter.__init__") ps' (own ++ imm) → odO.IsDictOf (strKind PROG w) [] → odI.IsDictOf (strKind PROG w) [] → Fresh6 ((226, tabObj ps) :: news) own imm C →
      Q (.ref C.x) { s with heap := h', toks := tk }) :
    wpAny (model PROG w) A (call (.ref 321) pos kw) Q E s := by
  refine wp_le 325 650 hA hh hd hu ?_
  k_dflt (refine' call_cls ?k1 ?k2 ?k3 ?k4 ?k5 ?k6 ?_)
  (case k1 => k_asm); (case k2 => k_asm); (case k3 => k_asm); (case k4 => k_is); (case k5 => k_is); (case k6 => k_is)
  intro x dx h' F' N' l1 l2
  replace l2 := ltN l2
  have n0 : @LT.lt Nat _ 226 dx := l1 _ List.mem_cons_self
  have N2 : News h₀ L h' ((x, ⟨.ref 321, some dx, .plain, #[]⟩) :: (226, tabObj ps) :: (dx, W.dictOf [] 0) :: news) := nSub N' (by walk_at "MY:sub")
  refine spec_initB_321 (s := { s with heap := h' }) (imm := imm) (x := x) (dx := dx) (pv := .bool pv) (dv := .bool dv) (uf := uf) (sf := sf) (by rfl) (by rfl) (Nat.le_of_ble_eq_true (by rfl)) (Nat.le_of_ble_eq_true (by rfl)) hf hke (by k_asm) (by k_asm) (by k_asm) (by k_asm) (hb x _ (X.keeps F'.keep)) N2 tq ?sub ?m1 ?ne1 ?ne2 ?ne3 ?hQ
  case sub => exact fun p hp => List.mem_cons_of_mem _ (sub p hp)
  case m1 => exact List.mem_cons_self
  case ne1 => exact List.forall_mem_cons.mpr ⟨neN (by dsimp only; omega), fun p hp => Nat.ne_of_lt (Nat.lt_trans (l1 p (List.mem_cons_of_mem _ hp)) l2)⟩
  case ne2 => exact List.forall_mem_cons.mpr ⟨neN (by dsimp only; omega), ne2⟩
  case ne3 => omega
  case hQ =>
    intro O I tO tB tC i1 i2 t5 t6 t7 t8 odO odI ps' own h2 tk F2 N3 dO dI fi tq' ho hi lt off o1 o2 o3 o4 o5 o6 q1 q2
    refine ⟨rfl, ?_⟩
    have lx : @LT.lt Nat _ x O.dms := lt _ List.mem_cons_self
    have old : ∀ q ∈ (226, tabObj ps) :: news, @LT.lt Nat _ q.1 dx := l1
    have m0 : ∀ p ∈ own, p ∈ (x, (⟨.ref 321, some dx, .plain, #[none, some (.bool pv), some (.int 2 i2), none, some (.ref I.ms), none, some (.int 1 i1), none, some (.ref O.ms), some (.bool dv)]⟩ : Obj)) :: (dx, W.dictOf [] 0) :: own := fun p hp => List.mem_cons_of_mem _ (List.mem_cons_of_mem _ hp)
    refine hQ ⟨false, x, O, I, tO, tB, tC, uf, sf⟩ t5 t6 t7 t8 odO odI ps' ((x, _) :: (dx, W.dictOf [] 0) :: own) h2 tk rfl rfl rfl F2 ?_ ⟨.b dx pv dv i1 i2 rfl List.mem_cons_self (List.mem_cons_of_mem _ List.mem_cons_self), dO.mono m0, dI.mono m0, fi.mono m0⟩ (tq'.mono fun p hp => (List.mem_cons_of_mem _ (List.mem_cons_of_mem _ hp))) ho hi ⟨?_, o2, o3, o4, o5, o6, q1, q2, ?_⟩
    · refine nSub N3 ?_
      (iterate 8 (refine List.forall_mem_cons.mpr ⟨by k_mem, ?_⟩))
      refine List.forall_mem_cons.mpr ⟨?_, ?_⟩
      · (iterate 8 (refine List.mem_cons_of_mem _ ?_)); exact List.mem_append_right _ List.mem_cons_self
      · intro p hp
        (iterate 8 (refine List.mem_cons_of_mem _ ?_))
        exact (List.mem_append.mp hp).elim (fun h => List.mem_append_left _ h) fun h => List.mem_append_right _ (List.mem_cons_of_mem _ h)
    · intro q hq
      have := old q hq
      dsimp only
      omega
    · refine List.forall_mem_cons.mpr ⟨⟨neN (by dsimp only; omega), neN (by dsimp only; omega), neN (by dsimp only; omega), neN (by dsimp only; omega), neN (by dsimp only; omega), neN (by dsimp only; omega), .inl fun q hq => Nat.lt_trans (old q hq) l2⟩, ?_⟩
      refine List.forall_mem_cons.mpr ⟨⟨neN (by dsimp only; omega), neN (by dsimp only; omega), neN (by dsimp only; omega), neN (by dsimp only; omega), neN (by dsimp only; omega), neN (by dsimp only; omega), .inl old⟩, ?_⟩
      intro p hp
      obtain ⟨a1, a2, a3, a4, a5, a6, a7⟩ := off p hp
      refine ⟨a1, a2, a3, a4, a5, a6, a7.imp (fun h q hq => ?_) id⟩
      have := old q hq
      omega
end
end
example {M : Model} {A : Around} {E Q : Value → Shared → Prop} {s : Shared} (h : wpAny M A (pure .none) Q E s) : wpAny M A (pure .none) Q E s := by
  w_top off
  first
    | (walk1; fail)
    | exact h
section
local macro_rules | `(tactic| walk_at "MY:mem") => `(tactic| first | exact List.mem_cons_self | (refine' List.mem_cons_of_mem _ ?_; walk_at "MY:mem") | assumption | ktr_member)
theorem pick_upto_neg (xs : List Value) (k : Nat) (hk : 0 < k) : slicePick xs.toArray none (some (-(k : Int))) none = (xs.take (xs.length - k)).toArray := by
  have e : sliceBounds none (some (-(k : Int))) none xs.toArray.size = (((0 : Nat) : Int), ((xs.toArray.size - k : Nat) : Int), 1) := by
    simp only [sliceBounds, Option.getD_none, show (1 : Int) > 0 by decide, if_true, if_pos (show (-(k : Int)) < 0 by omega)]
    congr 1
    congr 1
    omega
  rw [kmk_pick_nat _ e]
  simp
theorem add_listsK {prog : Program} {w : World} {A : Around} {E : Value → Shared → Prop} {s : Shared} {h₀ : Heap} {L : Addr} {m : Str → Option Value} {news : List (Addr × Obj)} {l b : Addr} {vs ws : List Value} {Q : Value → Shared → Prop} (F : Fr h₀ L s.heap m) (N : News h₀ L s.heap news) (hl : s.heap.IsList l vs.toArray) (hb : s.heap.IsList b ws.toArray)
    (hsz : vs.length + ws.length ≤ sizeLine) (h : ∀ D h', Fr h₀ L h' m → News h₀ L h' ((D, W.listOf (vs ++ ws).toArray 0) :: news) → (∀ p ∈ news, p.1 < D) → Q (.ref D) { s with heap := h' }) :
    wpAny (model prog w) A (binaryOp .Add (.ref l) (.ref b)) Q E s :=
  add_lists F N hl hb (fun h' F' N' => h _ h' F' N' fun p hp => Heap.lt_size (N p hp).1) hsz
section
variable {w : World} {A₀ A : Around} {base h₀ : Heap} {env : Env} {outer : List Env} {L : Addr} {m mg mb : Str → Option Value} {p : Program} {loose : List Str} {mean : ExcName → Option Value} {s : Shared} {Q E : Value → Shared → Prop} {news l : List (Addr × Obj)}
theorem spec_copyTo {fd dfd hp fd' dfd' hp' : Addr} {cv cv' : Value} {t1 t2 t5 t6 tk : Tok} {xs ys : List Value} {n n' k : Nat}
    (hA : A.frames = some (env :: outer)) (hh : A.handled = none) (hd : A.depth ≤ 345) (hu : A.units ≤ 850) (hf : env.frame = some L) (hke : env.scope.kind = .function)
    (B : Below A₀ base outer h₀) (F : Fr h₀ L s.heap m) (X : (Mine.hd.heap_39 w.params).In h₀) (T : Top p loose mean mg mb h₀)
    (N : News h₀ L s.heap ((dfd', fdDict w t5 t6 cv' hp') :: news)) (ne1 : ∀ p ∈ news, p.1 ≠ dfd')
    (m1 : (fd, fdObj dfd) ∈ news) (m2 : (dfd, fdDict w t1 t2 cv hp) ∈ news) (m3 : (hp, W.listOf xs.toArray n) ∈ news)
    (m4 : (fd', fdObj dfd') ∈ news) (m5 : (hp', W.listOf ys.toArray n') ∈ news) (hk : 0 < k) (hk2 : k ≤ xs.length) (hl : xs.length ≤ 100) (hl' : ys.length ≤ 100)
    (hQ : ∀ hp'' n'' h' tk', Fr h₀ L h' m → News h₀ L h' ((hp'', W.listOf (xs.take (xs.length - k) ++ ys).toArray n'') :: (dfd', fdDict w t5 t6 cv' hp'') :: news) → @LT.lt Nat _ dfd' hp'' → (∀ q ∈ news, @LT.lt Nat _ q.1 hp'') → Q .none { s with heap := h', toks := tk' }) :
    wpAny (model PROG w) A (call (.ref 67) [.ref fd, .ref fd'] [("skip", .int k tk)]) Q E s := by
  refine wp_le 345 850 hA hh hd hu ?_
  walk_at "MY:enter"
  (focus ((iterate 16 walk1)))
  k_dflt (refine' kmk_slice (its := xs.toArray) ?F ?N ?l ?p ?q ?_ ?s ?t ?z)
  (case F => k_asm); (case N => k_asm); (case l => exact News.isList (by k_asm) (by k_mem)); (case p => kmk_part); (case q => kmk_part); (case s => with_unfolding_all rfl); (case t => kmk_pure)
  (case z => exact Nat.le_trans hl (by decide))
  intro D h2 F2 N2 lD
  rw [pick_upto_neg xs k hk] at N2
  (try dsimp only)
  (focus ((iterate 3 walk1)))
  refine add_listsK (vs := xs.take (xs.length - k)) (ws := ys) (by k_asm) (by k_asm) (News.isList (by k_asm) (by k_mem)) (News.isList (by k_asm) (by k_mem)) ?z ?_
  case z => exact Nat.le_trans (Nat.add_le_add (Nat.le_trans (List.length_take_le' ..) hl) hl') (by decide)
  intro hp'' h3 F3 N3 l3
  have n1 : @Ne Addr D dfd' := Nat.ne_of_gt (lD (dfd', _) List.mem_cons_self)
  have n2 : @LT.lt Nat _ dfd' hp'' := l3 (dfd', _) (by k_mem)
  have n3 : @Ne Addr hp'' dfd' := Nat.ne_of_gt n2
  (try dsimp only)
  (focus ((iterate 5 walk1)))
  rename News h₀ L _ _ => NN
  refine hQ hp'' 0 _ _ (by k_asm) (nSub NN ?_) n2 fun q hq => l3 q (List.mem_cons_of_mem _ (List.mem_cons_of_mem _ hq))
  refine List.forall_mem_cons.mpr ⟨by k_mem, List.forall_mem_cons.mpr ⟨by k_mem, ?_⟩⟩
  exact fun p hp => List.mem_cons_of_mem _ (List.mem_cons_of_mem _ (List.mem_cons_of_mem _ hp))
end
end
example {M : Model} {A : Around} {E Q : Value → Shared → Prop} {s : Shared} (h : wpAny M A (pure .none) Q E s) : wpAny M A (pure .none) Q E s := by
  w_top off
  first
    | (walk1; fail)
    | exact h
section
local macro_rules | `(tactic| walk_at "MY:mem") => `(tactic| first | exact List.mem_cons_self | (refine' List.mem_cons_of_mem _ ?_; walk_at "MY:mem") | assumption | ktr_member)
section
variable {w : World} {A₀ A : Around} {base h₀ : Heap} {env : Env} {outer : List Env} {L : Addr} {m mg mb : Str → Option Value} {p : Program} {loose : List Str} {mean : ExcName → Option Value} {s : Shared} {Q E : Value → Shared → Prop} {news l : List (Addr × Obj)}
theorem spec_msCopyToK {ms dms dd fd dfd hp bm ms' dms' dd' fd' dfd' hp' bm' : Addr} {od : Obj} {ff ff' cv cv' : Value} {t1 t2 t3 t4 t5 t6 u1 u2 u3 u4 u5 u6 tk : Tok} {xs ys : List Value} {n n' k : Nat}
    (hA : A.frames = some (env :: outer)) (hh : A.handled = none) (hd : A.depth ≤ 340) (hu : A.units ≤ 800) (hf : env.frame = some L) (hke : env.scope.kind = .function)
    (B : Below A₀ base outer h₀) (F : Fr h₀ L s.heap m) (X : (Mine.hd.heap_39 w.params).In h₀) (T : Top p loose mean mg mb h₀)
    (N : News h₀ L s.heap ((dfd', fdDict w u5 u6 cv' hp') :: (dd', od) :: news)) (hod : od.IsDictOf (strKind PROG w) []) (ne1 : ∀ p ∈ news, p.1 ≠ dfd') (ne2 : ∀ p ∈ news, p.1 ≠ dd') (ne3 : @Ne Addr dfd' dd')
    (m1 : (ms, msObj dms) ∈ news) (m2 : (dms, msDict w t1 t2 t3 t4 ff dd fd bm) ∈ news) (m3 : (fd, fdObj dfd) ∈ news) (m4 : (dfd, fdDict w t5 t6 cv hp) ∈ news) (m5 : (hp, W.listOf xs.toArray n) ∈ news)
    (m1' : (ms', msObj dms') ∈ news) (m2' : (dms', msDict w u1 u2 u3 u4 ff' dd' fd' bm') ∈ news) (m3' : (fd', fdObj dfd') ∈ news) (m5' : (hp', W.listOf ys.toArray n') ∈ news)
    (hk : 0 < k) (hk2 : k ≤ xs.length) (hl : xs.length ≤ 100) (hl' : ys.length ≤ 100)
    (hQ : ∀ hp'' n'' od' h' tk', Fr h₀ L h' m → News h₀ L h' ((hp'', W.listOf (xs.take (xs.length - k) ++ ys).toArray n'') :: (dfd', fdDict w u5 u6 cv' hp'') :: (dd', od') :: news) → od'.IsDictOf (strKind PROG w) [] →
      @LT.lt Nat _ dfd' hp'' → @LT.lt Nat _ dd' hp'' → (∀ q ∈ news, @LT.lt Nat _ q.1 hp'') → Q .none { s with heap := h', toks := tk' }) :
    wpAny (model PROG w) A (call (.ref 139) [.ref ms, .ref ms'] [("skip", .int k tk)]) Q E s := by
  refine wp_le 340 800 hA hh hd hu ?_
  walk_at "MY:enter"
  have e1 : @Ne Addr dd' dfd' := Ne.symm ne3
  have neA : ∀ p ∈ (dd', od) :: news, p.1 ≠ dfd' := List.forall_mem_cons.mpr ⟨e1, ne1⟩
  (try dsimp only)
  (focus ((iterate 17 walk1)))
  refine spec_copyTo (fd := fd) (dfd := dfd) (hp := hp) (fd' := fd') (dfd' := dfd') (hp' := hp') (xs := xs) (ys := ys) (k := k) (by rfl) (by rfl) (Nat.le_of_ble_eq_true (by rfl)) (Nat.le_of_ble_eq_true (by rfl)) (by rfl) (by rfl) (by k_asm) (by k_asm) (by k_asm) (by k_asm) (by k_asm) neA (by k_mem) (by k_mem) (by k_mem) (by k_mem) (by k_mem) hk hk2 hl hl' ?_
  intro hp'' n'' h2 tk2 F2 N2 l1 l2
  have l3 : @LT.lt Nat _ dd' hp'' := l2 (dd', _) List.mem_cons_self
  have e2 : @Ne Addr hp'' dd' := Nat.ne_of_gt l3
  (try dsimp only)
  (focus ((iterate 6 walk1)))
  refine spec_cache (ms := ms') (dms := dms') (dd := dd') (fd := fd') (bm := bm') (by rfl) (by rfl) (Nat.le_of_ble_eq_true (by rfl)) (Nat.le_of_ble_eq_true (by rfl)) (by rfl) (by rfl) (by k_asm) (by k_asm) (by k_asm) (by k_asm) (by k_asm) hod (Upd1.tail e2 (Upd1.tail ne3 (Upd1.head ne2))) (by k_mem) (by k_mem) (ne2 _ m1') (ne2 _ m2') ?_
  intro od' h3 tk3 F3 N3 hod'
  (focus ((iterate 2 walk1)))
  exact hQ hp'' n'' od' _ _ (by k_asm) (by k_asm) hod' l1 l3 fun q hq => l2 q (List.mem_cons_of_mem _ hq)
theorem spec_msCopyToP {ms dms dd fd dfd hp bm ms' dms' dd' fd' dfd' hp' bm' : Addr} {od : Obj} {ff ff' cv cv' : Value} {t1 t2 t3 t4 t5 t6 u1 u2 u3 u4 u5 u6 tk : Tok} {xs ys : List Value} {n n' k : Nat}
    (hA : A.frames = some (env :: outer)) (hh : A.handled = none) (hd : A.depth ≤ 340) (hu : A.units ≤ 800) (hf : env.frame = some L) (hke : env.scope.kind = .function)
    (B : Below A₀ base outer h₀) (F : Fr h₀ L s.heap m) (X : (Mine.hd.heap_39 w.params).In h₀) (T : Top p loose mean mg mb h₀)
    (N : News h₀ L s.heap ((dfd', fdDict w u5 u6 cv' hp') :: (dd', od) :: news)) (hod : od.IsDictOf (strKind PROG w) []) (ne1 : ∀ p ∈ news, p.1 ≠ dfd') (ne2 : ∀ p ∈ news, p.1 ≠ dd') (ne3 : @Ne Addr dfd' dd')
    (m1 : (ms, msObj dms) ∈ news) (m2 : (dms, msDict w t1 t2 t3 t4 ff dd fd bm) ∈ news) (m3 : (fd, fdObj dfd) ∈ news) (m4 : (dfd, fdDict w t5 t6 cv hp) ∈ news) (m5 : (hp, W.listOf xs.toArray n) ∈ news)
    (m1' : (ms', msObj dms') ∈ news) (m2' : (dms', msDict w u1 u2 u3 u4 ff' dd' fd' bm') ∈ news) (m3' : (fd', fdObj dfd') ∈ news) (m5' : (hp', W.listOf ys.toArray n') ∈ news)
    (hk : 0 < k) (hk2 : k ≤ xs.length) (hl : xs.length ≤ 100) (hl' : ys.length ≤ 100)
    (hQ : ∀ hp'' n'' od' h' tk', Fr h₀ L h' m → News h₀ L h' ((hp'', W.listOf (xs.take (xs.length - k) ++ ys).toArray n'') :: (dfd', fdDict w u5 u6 cv' hp'') :: (dd', od') :: news) → od'.IsDictOf (strKind PROG w) [] →
      @LT.lt Nat _ dfd' hp'' → @LT.lt Nat _ dd' hp'' → (∀ q ∈ news, @LT.lt Nat _ q.1 hp'') → Q .none { s with heap := h', toks := tk' }) :
    wpAny (model PROG w) A (call (.ref 139) [.ref ms, .ref ms', .int k tk] []) Q E s := by
  refine wp_le 340 800 hA hh hd hu ?_
  walk_at "MY:enter"
  have e1 : @Ne Addr dd' dfd' := Ne.symm ne3
  have neA : ∀ p ∈ (dd', od) :: news, p.1 ≠ dfd' := List.forall_mem_cons.mpr ⟨e1, ne1⟩
  (try dsimp only)
  (focus ((iterate 17 walk1)))
  refine spec_copyTo (fd := fd) (dfd := dfd) (hp := hp) (fd' := fd') (dfd' := dfd') (hp' := hp') (xs := xs) (ys := ys) (k := k) (by rfl) (by rfl) (Nat.le_of_ble_eq_true (by rfl)) (Nat.le_of_ble_eq_true (by rfl)) (by rfl) (by rfl) (by k_asm) (by k_asm) (by k_asm) (by k_asm) (by k_asm) neA (by k_mem) (by k_mem) (by k_mem) (by k_mem) (by k_mem) hk hk2 hl hl' ?_
  intro hp'' n'' h2 tk2 F2 N2 l1 l2
  have l3 : @LT.lt Nat _ dd' hp'' := l2 (dd', _) List.mem_cons_self
  have e2 : @Ne Addr hp'' dd' := Nat.ne_of_gt l3
  (try dsimp only)
  (focus ((iterate 6 walk1)))
  refine spec_cache (ms := ms') (dms := dms') (dd := dd') (fd := fd') (bm := bm') (by rfl) (by rfl) (Nat.le_of_ble_eq_true (by rfl)) (Nat.le_of_ble_eq_true (by rfl)) (by rfl) (by rfl) (by k_asm) (by k_asm) (by k_asm) (by k_asm) (by k_asm) hod (Upd1.tail e2 (Upd1.tail ne3 (Upd1.head ne2))) (by k_mem) (by k_mem) (ne2 _ m1') (ne2 _ m2') ?_
  intro od' h3 tk3 F3 N3 hod'
  (focus ((iterate 2 walk1)))
  exact hQ hp'' n'' od' _ _ (by k_asm) (by k_asm) hod' l1 l3 fun q hq => l2 q (List.mem_cons_of_mem _ hq)
end
end
example {M : Model} {A : Around} {E Q : Value → Shared → Prop} {s : Shared} (h : wpAny M A (pure .none) Q E s) : wpAny M A (pure .none) Q E s := by
  w_top off
  first
    | (walk1; fail)
    | exact h
section
local macro_rules | `(tactic| walk_at "MY:mem") => `(tactic| first | exact List.mem_cons_self | (refine' List.mem_cons_of_mem _ ?_; walk_at "MY:mem") | assumption | ktr_member)
structure ConvAt (w : World) (l : List (Addr × Obj)) (C : Conv) : Prop extends BaseAt w l C where
  dfO : ∃ t1 t2, (C.O.dfd, fdDict w t1 t2 (.ref C.x) C.O.hp) ∈ l
  dfI : ∃ t1 t2, (C.I.dfd, fdDict w t1 t2 (.ref C.x) C.I.hp) ∈ l
theorem ConvAt.mono {w : World} {l l' : List (Addr × Obj)} {C : Conv} (h : ConvAt w l C) (k : ∀ p ∈ l, p ∈ l') : ConvAt w l' C :=
  ⟨h.toBaseAt.mono k, let ⟨a, b, c⟩ := h.dfO; ⟨a, b, k _ c⟩, let ⟨a, b, c⟩ := h.dfI; ⟨a, b, k _ c⟩⟩
/-- the four places of a converter that may change -/
structure Fresh4 (old own imm : List (Addr × Obj)) (C : Conv) : Prop where
  lo1 : ∀ q ∈ old, @LT.lt Nat _ q.1 C.O.hp
  lo2 : ∀ q ∈ old, @LT.lt Nat _ q.1 C.O.dd
  lo3 : ∀ q ∈ old, @LT.lt Nat _ q.1 C.I.hp
  lo4 : ∀ q ∈ old, @LT.lt Nat _ q.1 C.I.dd
  n1 : @Ne Nat C.O.hp C.O.dd
  n2 : @Ne Nat C.O.hp C.I.hp
  n3 : @Ne Nat C.O.hp C.I.dd
  n4 : @Ne Nat C.O.dd C.I.hp
  n5 : @Ne Nat C.O.dd C.I.dd
  n6 : @Ne Nat C.I.hp C.I.dd
  s1 : (C.O.dd == sysModules) = false
  s2 : (C.I.dd == sysModules) = false
  own : ∀ p ∈ own, p.1 ≠ C.O.hp ∧ p.1 ≠ C.O.dd ∧ p.1 ≠ C.I.hp ∧ p.1 ≠ C.I.dd ∧ ((∀ q ∈ old, @LT.lt Nat _ q.1 p.1) ∨ p ∈ imm)
/-- the two dispatchers' lists told anew -/
def Conv.setHp (C : Conv) (a b : Addr) : Conv := { C with O := { C.O with hp := a }, I := { C.I with hp := b } }
section
variable {w : World} {A₀ A : Around} {base h₀ : Heap} {env : Env} {outer : List Env} {L : Addr} {m mg mb : Str → Option Value} {p : Program} {loose : List Str} {mean : ExcName → Option Value} {s : Shared} {Q E : Value → Shared → Prop} {news l : List (Addr × Obj)}
theorem spec_copyC {C : Conv} {imm : List (Addr × Obj)} {ps : Array Value} {pa da : Value} {xsO xsI : List Value} {nO nI : Nat} {pos : List Value} {kw : List (Str × Value)}
    (hA : A.frames = some (env :: outer)) (hh : A.handled = none) (hd : A.depth ≤ 315) (hu : A.units ≤ 550) (hf : env.frame = some L) (hke : env.scope.kind = .function)
    (B : Below A₀ base outer h₀) (F : Fr h₀ L s.heap m) (X : (Mine.hd.heap_39 w.params).In h₀) (T : Top p loose mean mg mb h₀)
    (hb : BindsF w.params s 406 ⟨pos, kw⟩ [("self", .ref C.x), ("omit_if_default", .none), ("forbid_extra_keys", .none), ("type_overrides", .none), ("prefer_attrib_converters", pa), ("detailed_validation", da), ("use_alias", .none)]) (hpa : (pa = .none ∧ da = .none) ∨ ∃ b c, pa = .bool b ∧ da = .bool c)
    (N : News h₀ L s.heap ((226, tabObj ps) :: news)) (tq : TabQ (qLam "BaseConverter.__init__") ps imm) (sub : ∀ p ∈ imm, p ∈ news) (ne2 : ∀ p ∈ news, p.1 ≠ 226)
    (hC : ConvAt w news C) (hk : C.k = true) (m1 : (C.O.hp, W.listOf xsO.toArray nO) ∈ news) (m2 : (C.I.hp, W.listOf xsI.toArray nI) ∈ news) (hO : 1 ≤ xsO.length) (hI : 2 ≤ xsI.length) (hO2 : xsO.length ≤ 100) (hI2 : xsI.length ≤ 100)
    (hQ : ∀ (C' : Conv) odO odI nO' nI' ps' own h' tk, C'.k = true → C'.uf = .ref 350 → C'.sf = .ref 357 → Fr h₀ L h' m →
      News h₀ L h' ((226, tabObj ps') :: (C'.O.hp, W.listOf (xsO.take (xsO.length - 1) ++ [Value.ref C'.tO]).toArray nO') :: (C'.O.dd, odO) :: (C'.I.hp, W.listOf (xsI.take (xsI.length - 2) ++ [Value.ref C'.tC, Value.ref C'.tB]).toArray nI') :: (C'.I.dd, odI) :: (own ++ news)) →
      ConvAt w own C' → TabQ (qLam "BaseConverter.__init__") ps' (own ++ imm) → odO.IsDictOf (strKind PROG w) [] → odI.IsDictOf (strKind PROG w) [] → Fresh4 ((226, tabObj ps) :: news) own imm C' →
      Q (.ref C'.x) { s with heap := h', toks := tk }) :
    wpAny (model PROG w) A (call (.ref 406) pos kw) Q E s := by
  refine wp_le 315 550 hA hh hd hu ?_
  obtain ⟨⟨hobj, hdO, hdI, hfi⟩, ⟨v1, v2, hdfO⟩, ⟨v3, v4, hdfI⟩⟩ := hC
  obtain ⟨a1, a2, a3, a4, hdmsO⟩ := hdO.dms
  obtain ⟨a5, a6, a7, a8, hdmsI⟩ := hdI.dms
  rcases hobj with ⟨dx, fb, om, ov, ua, pv, dv, i1, i2, hk', ho, hd0, hov⟩ | ⟨_, _, _, _, _, hk', _, _⟩
  rotate_left
  · rw [hk] at hk'; cases hk'
  refine wpAny_call ?_
  k_dflt (refine' code_def ?k1 ?k2 ?k3 ?k4 ?k5 ?kA ?kF ?kK ?k6 ?k7 ?k8 ?k9 ?kB ?_ ?c2 ?c3 ?c4 ?c5)
  (case kA => exact rfl); (case kF => first | exact rfl | assumption); (case kK => first | exact rfl | assumption); (case k1 => k_asm); (case k2 => k_asm); (case k3 => k_asm); (case k4 => k_asm); (case k5 => k_asm)
  (case k6 => k_is); (case k7 => k_is); (case k8 => k_room)
  (case k9 => exact hb.to (by k_is))
  (case c5 => decide); (case kB => exact locs rfl); (case c2 => exact rfl); (case c3 => exact rfl); (case c4 => exact rfl)
  intro g' L' h' FG' F' N' B' X' T'
  (try dsimp only)
  rcases hpa with ⟨rfl, rfl⟩ | ⟨pb, db, rfl, rfl⟩
  focus (
    (try dsimp only)
    (focus ((iterate 75 walk1)))
    have N4 := (by with_reducible assumption : News g' L' _ ((226, tabObj ps) :: news))
    first | (refine spec_newC (imm := imm) (ov := ov) (om := om) (fb := fb) (pv := pb) (dv := db) (uf := .ref 350) (sf := .ref 357) (ua := ua) (by rfl) (by rfl) (Nat.le_of_ble_eq_true (by rfl)) (Nat.le_of_ble_eq_true (by rfl)) (by rfl) (by rfl) (by k_asm) (by k_asm) (by k_asm) (by k_asm) ?hb N4 tq sub hov ne2 ?hQ) | (refine spec_newC (imm := imm) (ov := ov) (om := om) (fb := fb) (pv := pv) (dv := dv) (uf := .ref 350) (sf := .ref 357) (ua := ua) (by rfl) (by rfl) (Nat.le_of_ble_eq_true (by rfl)) (Nat.le_of_ble_eq_true (by rfl)) (by rfl) (by rfl) (by k_asm) (by k_asm) (by k_asm) (by k_asm) ?hb N4 tq sub hov ne2 ?hQ)
    case hb => exact fun x s' X => ⟨_, _, by k_is, rfl, binds_K X rfl (by k_is) rfl rfl rfl⟩
    case hQ =>
      intro C' u5 u6 u7 u8 odO odI ps' own h5 tk5 k1 k2 k3 F5 N5 hC' tq' ho5 hi5 fr
      obtain ⟨hobj', hdO', hdI', hfi'⟩ := hC'
      rcases hobj' with ⟨dx', fb', om', ov', ua', pv', dv', j1, j2, hk2, ho', hd0', hov'⟩ | ⟨_, _, _, _, _, hk2, _, _⟩
      rotate_left
      · rw [k1] at hk2; cases hk2
      obtain ⟨b1, b2, b3, b4, hdmsO'⟩ := hdO'.dms
      obtain ⟨b5, b6, b7, b8, hdmsI'⟩ := hdI'.dms
      have kO : ∀ p ∈ own, p ∈ own ++ news := fun p hp => List.mem_append_left _ hp
      have kN : ∀ p ∈ news, p ∈ own ++ news := fun p hp => List.mem_append_right _ hp
      have xo := kN _ ho
      have xd := kN _ hd0
      have x1 := kN _ hdO.ms
      have x2 := kN _ hdmsO
      have x3 := kN _ hdO.fd
      have x4 := kN _ hdfO
      have x5 := kN _ m1
      have y1 := kN _ hdI.ms
      have y2 := kN _ hdmsI
      have y3 := kN _ hdI.fd
      have y4 := kN _ hdfI
      have y5 := kN _ m2
      have xo' := kO _ ho'
      have xd' := kO _ hd0'
      have x1' := kO _ hdO'.ms
      have x2' := kO _ hdmsO'
      have x3' := kO _ hdO'.fd
      have y1' := kO _ hdI'.ms
      have y2' := kO _ hdmsI'
      have y3' := kO _ hdI'.fd
      obtain ⟨lo, c1, c2, c3, c4, c5, s1, s2, off⟩ := fr
      have l226 : @LT.lt Nat _ 226 C'.O.dd := lo _ List.mem_cons_self
      have lN : ∀ q ∈ news, @LT.lt Nat _ q.1 C'.O.dd := fun q hq => lo q (List.mem_cons_of_mem _ hq)
      have tO1 : ∀ p ∈ own ++ news, p.1 ≠ C'.O.dfd := fun p hp => (List.mem_append.mp hp).elim (fun h => (off p h).2.2.1) fun h => neN (by have := lN p h; omega)
      have tO2 : ∀ p ∈ own ++ news, p.1 ≠ C'.O.dd := fun p hp => (List.mem_append.mp hp).elim (fun h => (off p h).2.1) fun h => neN (by have := lN p h; omega)
      have tI1 : ∀ p ∈ own ++ news, p.1 ≠ C'.I.dfd := fun p hp => (List.mem_append.mp hp).elim (fun h => (off p h).2.2.2.2.2.1) fun h => neN (by have := lN p h; omega)
      have tI2 : ∀ p ∈ own ++ news, p.1 ≠ C'.I.dd := fun p hp => (List.mem_append.mp hp).elim (fun h => (off p h).2.2.2.2.1) fun h => neN (by have := lN p h; omega)
      generalize htl : own ++ news = tl at N5 kO kN xo xd x1 x2 x3 x4 x5 y1 y2 y3 y4 y5 xo' xd' x1' x2' x3' y1' y2' y3' tO1 tO2 tI1 tI2
      have N6 : News g' L' h5 ((C'.O.dfd, fdDict w u5 u6 (.ref C'.x) C'.O.hp) :: (C'.O.dd, odO) :: (226, tabObj ps') :: (C'.O.hp, W.listOf [.ref C'.tO].toArray 1) :: (C'.I.hp, W.listOf [.ref C'.tC, .ref C'.tB].toArray 2) :: (C'.I.dd, odI) :: (C'.I.dfd, fdDict w u7 u8 (.ref C'.x) C'.I.hp) :: tl) := nSub N5 (by walk_at "MY:sub")
      clear N5
      have zO1 : ∀ p ∈ (226, tabObj ps') :: (C'.O.hp, W.listOf [.ref C'.tO].toArray 1) :: (C'.I.hp, W.listOf [.ref C'.tC, .ref C'.tB].toArray 2) :: (C'.I.dd, odI) :: (C'.I.dfd, fdDict w u7 u8 (.ref C'.x) C'.I.hp) :: tl, p.1 ≠ C'.O.dfd := by
        (iterate 5 (refine List.forall_mem_cons.mpr ⟨neN (by dsimp only; omega), ?_⟩)); exact tO1
      have zO2 : ∀ p ∈ (226, tabObj ps') :: (C'.O.hp, W.listOf [.ref C'.tO].toArray 1) :: (C'.I.hp, W.listOf [.ref C'.tC, .ref C'.tB].toArray 2) :: (C'.I.dd, odI) :: (C'.I.dfd, fdDict w u7 u8 (.ref C'.x) C'.I.hp) :: tl, p.1 ≠ C'.O.dd := by
        (iterate 5 (refine List.forall_mem_cons.mpr ⟨neN (by dsimp only; omega), ?_⟩)); exact tO2
      have n5 : @Ne Addr C'.O.dfd C'.O.dd := neN (by omega)
      (try dsimp only)
      (focus ((iterate 21 walk1)))
      refine spec_msCopyToK (ms := C.O.ms) (dms := C.O.dms) (dd := C.O.dd) (fd := C.O.fd) (dfd := C.O.dfd) (hp := C.O.hp) (bm := C.O.bm) (ms' := C'.O.ms) (dms' := C'.O.dms) (dd' := C'.O.dd) (fd' := C'.O.fd) (dfd' := C'.O.dfd) (hp' := C'.O.hp) (bm' := C'.O.bm) (xs := xsO) (ys := [.ref C'.tO]) (k := 1) (by rfl) (by rfl) (Nat.le_of_ble_eq_true (by rfl)) (Nat.le_of_ble_eq_true (by rfl)) (by rfl) (by rfl) (by k_asm) (by k_asm) (by k_asm) (by k_asm) (by k_asm) ho5 zO1 zO2 n5 (by k_mem) (by k_mem) (by k_mem) (by k_mem) (by k_mem) (by k_mem) (by k_mem) (by k_mem) (by k_mem) (by decide) hO hO2 (Nat.le_of_ble_eq_true (by rfl)) ?_
      intro hp1 nn1 od1 h6 tk6 F6 N7 hod1 q1 q2 q3
      have q4 : @LT.lt Nat _ C'.I.dfd hp1 := q3 (C'.I.dfd, _) (by k_mem)
      have q5 : @LT.lt Nat _ C'.I.hp hp1 := q3 (C'.I.hp, _) (by k_mem)
      have q6 : ∀ q ∈ tl, @LT.lt Nat _ q.1 hp1 := fun q hq => q3 q (by walk_at "MY:tail")
      clear q3
      have N8 : News g' L' h6 ((C'.I.dfd, fdDict w u7 u8 (.ref C'.x) C'.I.hp) :: (C'.I.dd, odI) :: (hp1, W.listOf (xsO.take (xsO.length - 1) ++ [Value.ref C'.tO]).toArray nn1) :: (C'.O.dfd, fdDict w u5 u6 (.ref C'.x) hp1) :: (C'.O.dd, od1) :: (226, tabObj ps') :: (C'.I.hp, W.listOf [.ref C'.tC, .ref C'.tB].toArray 2) :: tl) := nSub N7 (by walk_at "MY:sub")
      clear N7
      have zI1 : ∀ p ∈ (hp1, W.listOf (xsO.take (xsO.length - 1) ++ [Value.ref C'.tO]).toArray nn1) :: (C'.O.dfd, fdDict w u5 u6 (.ref C'.x) hp1) :: (C'.O.dd, od1) :: (226, tabObj ps') :: (C'.I.hp, W.listOf [.ref C'.tC, .ref C'.tB].toArray 2) :: tl, p.1 ≠ C'.I.dfd := by
        (iterate 5 (refine List.forall_mem_cons.mpr ⟨neN (by dsimp only; omega), ?_⟩)); exact tI1
      have zI2 : ∀ p ∈ (hp1, W.listOf (xsO.take (xsO.length - 1) ++ [Value.ref C'.tO]).toArray nn1) :: (C'.O.dfd, fdDict w u5 u6 (.ref C'.x) hp1) :: (C'.O.dd, od1) :: (226, tabObj ps') :: (C'.I.hp, W.listOf [.ref C'.tC, .ref C'.tB].toArray 2) :: tl, p.1 ≠ C'.I.dd := by
        (iterate 5 (refine List.forall_mem_cons.mpr ⟨neN (by dsimp only; omega), ?_⟩)); exact tI2
      have n6 : @Ne Addr C'.I.dfd C'.I.dd := neN (by omega)
      (try dsimp only)
      (focus ((iterate 19 walk1)))
      refine spec_msCopyToK (ms := C.I.ms) (dms := C.I.dms) (dd := C.I.dd) (fd := C.I.fd) (dfd := C.I.dfd) (hp := C.I.hp) (bm := C.I.bm) (ms' := C'.I.ms) (dms' := C'.I.dms) (dd' := C'.I.dd) (fd' := C'.I.fd) (dfd' := C'.I.dfd) (hp' := C'.I.hp) (bm' := C'.I.bm) (xs := xsI) (ys := [.ref C'.tC, .ref C'.tB]) (k := 2) (by rfl) (by rfl) (Nat.le_of_ble_eq_true (by rfl)) (Nat.le_of_ble_eq_true (by rfl)) (by rfl) (by rfl) (by k_asm) (by k_asm) (by k_asm) (by k_asm) (by k_asm) hi5 zI1 zI2 n6 (by k_mem) (by k_mem) (by k_mem) (by k_mem) (by k_mem) (by k_mem) (by k_mem) (by k_mem) (by k_mem) (by decide) hI hI2 (Nat.le_of_ble_eq_true (by rfl)) ?_
      intro hp2 nn2 od2 h7 tk7 F7 N9 hod2 r1 r2 r3
      have r4 : @LT.lt Nat _ hp1 hp2 := r3 (hp1, _) List.mem_cons_self
      clear r3
      (focus ((iterate 4 walk1)))
      rename News h₀ L _ _ => NN
      subst htl
      have km : ∀ p ∈ own, p ∈ (C'.O.dfd, fdDict w u5 u6 (.ref C'.x) hp1) :: (C'.I.dfd, fdDict w u7 u8 (.ref C'.x) hp2) :: own := fun p hp => List.mem_cons_of_mem _ (List.mem_cons_of_mem _ hp)
      refine hQ (C'.setHp hp1 hp2) od1 od2 nn1 nn2 ps' ((C'.O.dfd, fdDict w u5 u6 (.ref C'.x) hp1) :: (C'.I.dfd, fdDict w u7 u8 (.ref C'.x) hp2) :: own) _ _ k1 k2 k3 (by k_asm) ?_ ⟨⟨?_, ⟨km _ hdO'.ms, ⟨_, _, _, _, km _ hdmsO'⟩, km _ hdO'.fd, km _ hdO'.bm⟩, ⟨km _ hdI'.ms, ⟨_, _, _, _, km _ hdmsI'⟩, km _ hdI'.fd, km _ hdI'.bm⟩, hfi'.mono km⟩, ⟨u5, u6, List.mem_cons_self⟩, ⟨u7, u8, List.mem_cons_of_mem _ List.mem_cons_self⟩⟩ (tq'.mono fun p hp => List.mem_cons_of_mem _ (List.mem_cons_of_mem _ hp)) hod1 hod2 ⟨?_, ?_, ?_, ?_, ?_, ?_, ?_, ?_, ?_, ?_, s1, s2, ?_⟩
      · refine nSub NN ?_
        (iterate 5 (refine List.forall_mem_cons.mpr ⟨by k_mem, ?_⟩))
        refine List.forall_mem_cons.mpr ⟨by k_mem, List.forall_mem_cons.mpr ⟨by k_mem, ?_⟩⟩
        intro p hp
        walk_at "MY:tail"
      · exact .c dx' fb' om' ov' ua' pv' dv' j1 j2 k1 (km _ ho') (km _ hd0') (hov'.mono km)
      · intro q hq; have := lo q hq; show @LT.lt Nat _ _ hp1; omega
      · exact lo
      · intro q hq; have := lo q hq; show @LT.lt Nat _ _ hp2; omega
      · intro q hq; have := lo q hq; show @LT.lt Nat _ _ C'.I.dd; omega
      · show @Ne Nat hp1 C'.O.dd; omega
      · show @Ne Nat hp1 hp2; omega
      · show @Ne Nat hp1 C'.I.dd; omega
      · show @Ne Nat C'.O.dd hp2; omega
      · show @Ne Nat C'.O.dd C'.I.dd; omega
      · show @Ne Nat hp2 C'.I.dd; omega
      · refine List.forall_mem_cons.mpr ⟨⟨?_, ?_, ?_, ?_, .inl fun q hq => ?_⟩, List.forall_mem_cons.mpr ⟨⟨?_, ?_, ?_, ?_, .inl fun q hq => ?_⟩, fun p hp => ?_⟩⟩
        · exact neN (by show @Ne Nat C'.O.dfd hp1; omega)
        · exact neN (by show @Ne Nat C'.O.dfd C'.O.dd; omega)
        · exact neN (by show @Ne Nat C'.O.dfd hp2; omega)
        · exact neN (by show @Ne Nat C'.O.dfd C'.I.dd; omega)
        · have := lo q hq; show @LT.lt Nat _ _ C'.O.dfd; omega
        · exact neN (by show @Ne Nat C'.I.dfd hp1; omega)
        · exact neN (by show @Ne Nat C'.I.dfd C'.O.dd; omega)
        · exact neN (by show @Ne Nat C'.I.dfd hp2; omega)
        · exact neN (by show @Ne Nat C'.I.dfd C'.I.dd; omega)
        · have := lo q hq; show @LT.lt Nat _ _ C'.I.dfd; omega
        · obtain ⟨o1, o2, o3, o4, o5, o6, o7⟩ := off p hp
          have l6 := q6 p (kO p hp)
          exact ⟨neN (by show @Ne Nat p.1 hp1; omega), o2, neN (by show @Ne Nat p.1 hp2; omega), o5, o7⟩)
  focus (
    (try dsimp only)
    (focus ((iterate 71 walk1)))
    have N4 := (by with_reducible assumption : News g' L' _ ((226, tabObj ps) :: news))
    first | (refine spec_newC (imm := imm) (ov := ov) (om := om) (fb := fb) (pv := pb) (dv := db) (uf := .ref 350) (sf := .ref 357) (ua := ua) (by rfl) (by rfl) (Nat.le_of_ble_eq_true (by rfl)) (Nat.le_of_ble_eq_true (by rfl)) (by rfl) (by rfl) (by k_asm) (by k_asm) (by k_asm) (by k_asm) ?hb N4 tq sub hov ne2 ?hQ) | (refine spec_newC (imm := imm) (ov := ov) (om := om) (fb := fb) (pv := pv) (dv := dv) (uf := .ref 350) (sf := .ref 357) (ua := ua) (by rfl) (by rfl) (Nat.le_of_ble_eq_true (by rfl)) (Nat.le_of_ble_eq_true (by rfl)) (by rfl) (by rfl) (by k_asm) (by k_asm) (by k_asm) (by k_asm) ?hb N4 tq sub hov ne2 ?hQ)
    case hb => exact fun x s' X => ⟨_, _, by k_is, rfl, binds_K X rfl (by k_is) rfl rfl rfl⟩
    case hQ =>
      intro C' u5 u6 u7 u8 odO odI ps' own h5 tk5 k1 k2 k3 F5 N5 hC' tq' ho5 hi5 fr
      obtain ⟨hobj', hdO', hdI', hfi'⟩ := hC'
      rcases hobj' with ⟨dx', fb', om', ov', ua', pv', dv', j1, j2, hk2, ho', hd0', hov'⟩ | ⟨_, _, _, _, _, hk2, _, _⟩
      rotate_left
      · rw [k1] at hk2; cases hk2
      obtain ⟨b1, b2, b3, b4, hdmsO'⟩ := hdO'.dms
      obtain ⟨b5, b6, b7, b8, hdmsI'⟩ := hdI'.dms
      have kO : ∀ p ∈ own, p ∈ own ++ news := fun p hp => List.mem_append_left _ hp
      have kN : ∀ p ∈ news, p ∈ own ++ news := fun p hp => List.mem_append_right _ hp
      have xo := kN _ ho
      have xd := kN _ hd0
      have x1 := kN _ hdO.ms
      have x2 := kN _ hdmsO
      have x3 := kN _ hdO.fd
      have x4 := kN _ hdfO
      have x5 := kN _ m1
      have y1 := kN _ hdI.ms
      have y2 := kN _ hdmsI
      have y3 := kN _ hdI.fd
      have y4 := kN _ hdfI
      have y5 := kN _ m2
      have xo' := kO _ ho'
      have xd' := kO _ hd0'
      have x1' := kO _ hdO'.ms
      have x2' := kO _ hdmsO'
      have x3' := kO _ hdO'.fd
      have y1' := kO _ hdI'.ms
      have y2' := kO _ hdmsI'
      have y3' := kO _ hdI'.fd
      obtain ⟨lo, c1, c2, c3, c4, c5, s1, s2, off⟩ := fr
      have l226 : @LT.lt Nat _ 226 C'.O.dd := lo _ List.mem_cons_self
      have lN : ∀ q ∈ news, @LT.lt Nat _ q.1 C'.O.dd := fun q hq => lo q (List.mem_cons_of_mem _ hq)
      have tO1 : ∀ p ∈ own ++ news, p.1 ≠ C'.O.dfd := fun p hp => (List.mem_append.mp hp).elim (fun h => (off p h).2.2.1) fun h => neN (by have := lN p h; omega)
      have tO2 : ∀ p ∈ own ++ news, p.1 ≠ C'.O.dd := fun p hp => (List.mem_append.mp hp).elim (fun h => (off p h).2.1) fun h => neN (by have := lN p h; omega)
      have tI1 : ∀ p ∈ own ++ news, p.1 ≠ C'.I.dfd := fun p hp => (List.mem_append.mp hp).elim (fun h => (off p h).2.2.2.2.2.1) fun h => neN (by have := lN p h; omega)
      have tI2 : ∀ p ∈ own ++ news, p.1 ≠ C'.I.dd := fun p hp => (List.mem_append.mp hp).elim (fun h => (off p h).2.2.2.2.1) fun h => neN (by have := lN p h; omega)
      generalize htl : own ++ news = tl at N5 kO kN xo xd x1 x2 x3 x4 x5 y1 y2 y3 y4 y5 xo' xd' x1' x2' x3' y1' y2' y3' tO1 tO2 tI1 tI2
      have N6 : News g' L' h5 ((C'.O.dfd, fdDict w u5 u6 (.ref C'.x) C'.O.hp) :: (C'.O.dd, odO) :: (226, tabObj ps') :: (C'.O.hp, W.listOf [.ref C'.tO].toArray 1) :: (C'.I.hp, W.listOf [.ref C'.tC, .ref C'.tB].toArray 2) :: (C'.I.dd, odI) :: (C'.I.dfd, fdDict w u7 u8 (.ref C'.x) C'.I.hp) :: tl) := nSub N5 (by walk_at "MY:sub")
      clear N5
      have zO1 : ∀ p ∈ (226, tabObj ps') :: (C'.O.hp, W.listOf [.ref C'.tO].toArray 1) :: (C'.I.hp, W.listOf [.ref C'.tC, .ref C'.tB].toArray 2) :: (C'.I.dd, odI) :: (C'.I.dfd, fdDict w u7 u8 (.ref C'.x) C'.I.hp) :: tl, p.1 ≠ C'.O.dfd := by
        (iterate 5 (refine List.forall_mem_cons.mpr ⟨neN (by dsimp only; omega), ?_⟩)); exact tO1
      have zO2 : ∀ p ∈ (226, tabObj ps') :: (C'.O.hp, W.listOf [.ref C'.tO].toArray 1) :: (C'.I.hp, W.listOf [.ref C'.tC, .ref C'.tB].toArray 2) :: (C'.I.dd, odI) :: (C'.I.dfd, fdDict w u7 u8 (.ref C'.x) C'.I.hp) :: tl, p.1 ≠ C'.O.dd := by
        (iterate 5 (refine List.forall_mem_cons.mpr ⟨neN (by dsimp only; omega), ?_⟩)); exact tO2
      have n5 : @Ne Addr C'.O.dfd C'.O.dd := neN (by omega)
      (try dsimp only)
      (focus ((iterate 21 walk1)))
      refine spec_msCopyToK (ms := C.O.ms) (dms := C.O.dms) (dd := C.O.dd) (fd := C.O.fd) (dfd := C.O.dfd) (hp := C.O.hp) (bm := C.O.bm) (ms' := C'.O.ms) (dms' := C'.O.dms) (dd' := C'.O.dd) (fd' := C'.O.fd) (dfd' := C'.O.dfd) (hp' := C'.O.hp) (bm' := C'.O.bm) (xs := xsO) (ys := [.ref C'.tO]) (k := 1) (by rfl) (by rfl) (Nat.le_of_ble_eq_true (by rfl)) (Nat.le_of_ble_eq_true (by rfl)) (by rfl) (by rfl) (by k_asm) (by k_asm) (by k_asm) (by k_asm) (by k_asm) ho5 zO1 zO2 n5 (by k_mem) (by k_mem) (by k_mem) (by k_mem) (by k_mem) (by k_mem) (by k_mem) (by k_mem) (by k_mem) (by decide) hO hO2 (Nat.le_of_ble_eq_true (by rfl)) ?_
      intro hp1 nn1 od1 h6 tk6 F6 N7 hod1 q1 q2 q3
      have q4 : @LT.lt Nat _ C'.I.dfd hp1 := q3 (C'.I.dfd, _) (by k_mem)
      have q5 : @LT.lt Nat _ C'.I.hp hp1 := q3 (C'.I.hp, _) (by k_mem)
      have q6 : ∀ q ∈ tl, @LT.lt Nat _ q.1 hp1 := fun q hq => q3 q (by walk_at "MY:tail")
      clear q3
      have N8 : News g' L' h6 ((C'.I.dfd, fdDict w u7 u8 (.ref C'.x) C'.I.hp) :: (C'.I.dd, odI) :: (hp1, W.listOf (xsO.take (xsO.length - 1) ++ [Value.ref C'.tO]).toArray nn1) :: (C'.O.dfd, fdDict w u5 u6 (.ref C'.x) hp1) :: (C'.O.dd, od1) :: (226, tabObj ps') :: (C'.I.hp, W.listOf [.ref C'.tC, .ref C'.tB].toArray 2) :: tl) := nSub N7 (by walk_at "MY:sub")
      clear N7
      have zI1 : ∀ p ∈ (hp1, W.listOf (xsO.take (xsO.length - 1) ++ [Value.ref C'.tO]).toArray nn1) :: (C'.O.dfd, fdDict w u5 u6 (.ref C'.x) hp1) :: (C'.O.dd, od1) :: (226, tabObj ps') :: (C'.I.hp, W.listOf [.ref C'.tC, .ref C'.tB].toArray 2) :: tl, p.1 ≠ C'.I.dfd := by
        (iterate 5 (refine List.forall_mem_cons.mpr ⟨neN (by dsimp only; omega), ?_⟩)); exact tI1
      have zI2 : ∀ p ∈ (hp1, W.listOf (xsO.take (xsO.length - 1) ++ [Value.ref C'.tO]).toArray nn1) :: (C'.O.dfd, fdDict w u5 u6 (.ref C'.x) hp1) :: (C'.O.dd, od1) :: (226, tabObj ps') :: (C'.I.hp, W.listOf [.ref C'.tC, .ref C'.tB].toArray 2) :: tl, p.1 ≠ C'.I.dd := by
        (iterate 5 (refine List.forall_mem_cons.mpr ⟨neN (by dsimp only; omega), ?_⟩)); exact tI2
      have n6 : @Ne Addr C'.I.dfd C'.I.dd := neN (by omega)
      (try dsimp only)
      (focus ((iterate 19 walk1)))
      refine spec_msCopyToK (ms := C.I.ms) (dms := C.I.dms) (dd := C.I.dd) (fd := C.I.fd) (dfd := C.I.dfd) (hp := C.I.hp) (bm := C.I.bm) (ms' := C'.I.ms) (dms' := C'.I.dms) (dd' := C'.I.dd) (fd' := C'.I.fd) (dfd' := C'.I.dfd) (hp' := C'.I.hp) (bm' := C'.I.bm) (xs := xsI) (ys := [.ref C'.tC, .ref C'.tB]) (k := 2) (by rfl) (by rfl) (Nat.le_of_ble_eq_true (by rfl)) (Nat.le_of_ble_eq_true (by rfl)) (by rfl) (by rfl) (by k_asm) (by k_asm) (by k_asm) (by k_asm) (by k_asm) hi5 zI1 zI2 n6 (by k_mem) (by k_mem) (by k_mem) (by k_mem) (by k_mem) (by k_mem) (by k_mem) (by k_mem) (by k_mem) (by decide) hI hI2 (Nat.le_of_ble_eq_true (by rfl)) ?_
      intro hp2 nn2 od2 h7 tk7 F7 N9 hod2 r1 r2 r3
      have r4 : @LT.lt Nat _ hp1 hp2 := r3 (hp1, _) List.mem_cons_self
      clear r3
      (focus ((iterate 4 walk1)))
      rename News h₀ L _ _ => NN
      subst htl
      have km : ∀ p ∈ own, p ∈ (C'.O.dfd, fdDict w u5 u6 (.ref C'.x) hp1) :: (C'.I.dfd, fdDict w u7 u8 (.ref C'.x) hp2) :: own := fun p hp => List.mem_cons_of_mem _ (List.mem_cons_of_mem _ hp)
      refine hQ (C'.setHp hp1 hp2) od1 od2 nn1 nn2 ps' ((C'.O.dfd, fdDict w u5 u6 (.ref C'.x) hp1) :: (C'.I.dfd, fdDict w u7 u8 (.ref C'.x) hp2) :: own) _ _ k1 k2 k3 (by k_asm) ?_ ⟨⟨?_, ⟨km _ hdO'.ms, ⟨_, _, _, _, km _ hdmsO'⟩, km _ hdO'.fd, km _ hdO'.bm⟩, ⟨km _ hdI'.ms, ⟨_, _, _, _, km _ hdmsI'⟩, km _ hdI'.fd, km _ hdI'.bm⟩, hfi'.mono km⟩, ⟨u5, u6, List.mem_cons_self⟩, ⟨u7, u8, List.mem_cons_of_mem _ List.mem_cons_self⟩⟩ (tq'.mono fun p hp => List.mem_cons_of_mem _ (List.mem_cons_of_mem _ hp)) hod1 hod2 ⟨?_, ?_, ?_, ?_, ?_, ?_, ?_, ?_, ?_, ?_, s1, s2, ?_⟩
      · refine nSub NN ?_
        (iterate 5 (refine List.forall_mem_cons.mpr ⟨by k_mem, ?_⟩))
        refine List.forall_mem_cons.mpr ⟨by k_mem, List.forall_mem_cons.mpr ⟨by k_mem, ?_⟩⟩
        intro p hp
        walk_at "MY:tail"
      · exact .c dx' fb' om' ov' ua' pv' dv' j1 j2 k1 (km _ ho') (km _ hd0') (hov'.mono km)
      · intro q hq; have := lo q hq; show @LT.lt Nat _ _ hp1; omega
      · exact lo
      · intro q hq; have := lo q hq; show @LT.lt Nat _ _ hp2; omega
      · intro q hq; have := lo q hq; show @LT.lt Nat _ _ C'.I.dd; omega
      · show @Ne Nat hp1 C'.O.dd; omega
      · show @Ne Nat hp1 hp2; omega
      · show @Ne Nat hp1 C'.I.dd; omega
      · show @Ne Nat C'.O.dd hp2; omega
      · show @Ne Nat C'.O.dd C'.I.dd; omega
      · show @Ne Nat hp2 C'.I.dd; omega
      · refine List.forall_mem_cons.mpr ⟨⟨?_, ?_, ?_, ?_, .inl fun q hq => ?_⟩, List.forall_mem_cons.mpr ⟨⟨?_, ?_, ?_, ?_, .inl fun q hq => ?_⟩, fun p hp => ?_⟩⟩
        · exact neN (by show @Ne Nat C'.O.dfd hp1; omega)
        · exact neN (by show @Ne Nat C'.O.dfd C'.O.dd; omega)
        · exact neN (by show @Ne Nat C'.O.dfd hp2; omega)
        · exact neN (by show @Ne Nat C'.O.dfd C'.I.dd; omega)
        · have := lo q hq; show @LT.lt Nat _ _ C'.O.dfd; omega
        · exact neN (by show @Ne Nat C'.I.dfd hp1; omega)
        · exact neN (by show @Ne Nat C'.I.dfd C'.O.dd; omega)
        · exact neN (by show @Ne Nat C'.I.dfd hp2; omega)
        · exact neN (by show @Ne Nat C'.I.dfd C'.I.dd; omega)
        · have := lo q hq; show @LT.lt Nat _ _ C'.I.dfd; omega
        · obtain ⟨o1, o2, o3, o4, o5, o6, o7⟩ := off p hp
          have l6 := q6 p (kO p hp)
          exact ⟨neN (by show @Ne Nat p.1 hp1; omega), o2, neN (by show @Ne Nat p.1 hp2; omega), o5, o7⟩)
end
end
example {M : Model} {A : Around} {E Q : Value → Shared → Prop} {s : Shared} (h : wpAny M A (pure .none) Q E s) : wpAny M A (pure .none) Q E s := by
  w_top off
  first
    | (walk1; fail)
    | exact h
section
local macro_rules | `(tactic| walk_at "MY:mem") => `(tactic| first | exact List.mem_cons_self | (refine' List.mem_cons_of_mem _ ?_; walk_at "MY:mem") | assumption | ktr_member)
section
variable {w : World} {A₀ A : Around} {base h₀ : Heap} {env : Env} {outer : List Env} {L : Addr} {m mg mb : Str → Option Value} {p : Program} {loose : List Str} {mean : ExcName → Option Value} {s : Shared} {Q E : Value → Shared → Prop} {news l : List (Addr × Obj)}
theorem spec_copyB {C : Conv} {imm : List (Addr × Obj)} {ps : Array Value} {pa da : Value} {xsO xsI : List Value} {nO nI : Nat} {pos : List Value} {kw : List (Str × Value)}
    (hA : A.frames = some (env :: outer)) (hh : A.handled = none) (hd : A.depth ≤ 315) (hu : A.units ≤ 550) (hf : env.frame = some L) (hke : env.scope.kind = .function)
    (B : Below A₀ base outer h₀) (F : Fr h₀ L s.heap m) (X : (Mine.hd.heap_39 w.params).In h₀) (T : Top p loose mean mg mb h₀)
    (hb : BindsF w.params s 317 ⟨pos, kw⟩ [("self", .ref C.x), ("prefer_attrib_converters", pa), ("detailed_validation", da)]) (hpa : (pa = .none ∧ da = .none) ∨ ∃ b c, pa = .bool b ∧ da = .bool c)
    (N : News h₀ L s.heap ((226, tabObj ps) :: news)) (tq : TabQ (qLam "BaseConverter.__init__") ps imm) (sub : ∀ p ∈ imm, p ∈ news) (ne2 : ∀ p ∈ news, p.1 ≠ 226)
    (hC : ConvAt w news C) (hk : C.k = false) (m1 : (C.O.hp, W.listOf xsO.toArray nO) ∈ news) (m2 : (C.I.hp, W.listOf xsI.toArray nI) ∈ news) (hO : 1 ≤ xsO.length) (hI : 2 ≤ xsI.length) (hO2 : xsO.length ≤ 100) (hI2 : xsI.length ≤ 100)
    (hQ : ∀ (C' : Conv) odO odI nO' nI' ps' own h' tk, C'.k = false → C'.uf = .ref 216 → C'.sf = .ref 223 → Fr h₀ L h' m →
      News h₀ L h' ((226, tabObj ps') :: (C'.O.hp, W.listOf (xsO.take (xsO.length - 1) ++ [Value.ref C'.tO]).toArray nO') :: (C'.O.dd, odO) :: (C'.I.hp, W.listOf (xsI.take (xsI.length - 2) ++ [Value.ref C'.tC, Value.ref C'.tB]).toArray nI') :: (C'.I.dd, odI) :: (own ++ news)) →
      ConvAt w own C' → TabQ (qLam "BaseConverter.__init__") ps' (own ++ imm) → odO.IsDictOf (strKind PROG w) [] → odI.IsDictOf (strKind PROG w) [] → Fresh4 ((226, tabObj ps) :: news) own imm C' →
      Q (.ref C'.x) { s with heap := h', toks := tk }) :
    wpAny (model PROG w) A (call (.ref 317) pos kw) Q E s := by
  refine wp_le 315 550 hA hh hd hu ?_
  obtain ⟨⟨hobj, hdO, hdI, hfi⟩, ⟨v1, v2, hdfO⟩, ⟨v3, v4, hdfI⟩⟩ := hC
  obtain ⟨a1, a2, a3, a4, hdmsO⟩ := hdO.dms
  obtain ⟨a5, a6, a7, a8, hdmsI⟩ := hdI.dms
  rcases hobj with ⟨_, _, _, _, _, _, _, _, _, hk', _, _, _⟩ | ⟨dx, pv, dv, i1, i2, hk', ho, hd0⟩
  · rw [hk] at hk'; cases hk'
  refine wpAny_call ?_
  k_dflt (refine' code_def ?k1 ?k2 ?k3 ?k4 ?k5 ?kA ?kF ?kK ?k6 ?k7 ?k8 ?k9 ?kB ?_ ?c2 ?c3 ?c4 ?c5)
  (case kA => exact rfl); (case kF => first | exact rfl | assumption); (case kK => first | exact rfl | assumption); (case k1 => k_asm); (case k2 => k_asm); (case k3 => k_asm); (case k4 => k_asm); (case k5 => k_asm)
  (case k6 => k_is); (case k7 => k_is); (case k8 => k_room)
  (case k9 => exact hb.to (by k_is))
  (case c5 => decide); (case kB => exact locs rfl); (case c2 => exact rfl); (case c3 => exact rfl); (case c4 => exact rfl)
  intro g' L' h' FG' F' N' B' X' T'
  (try dsimp only)
  rcases hpa with ⟨rfl, rfl⟩ | ⟨pb, db, rfl, rfl⟩
  focus (
    (try dsimp only)
    (focus ((iterate 30 walk1)))
    have N4 := (by with_reducible assumption : News g' L' _ ((226, tabObj ps) :: news))
    first | (refine spec_newB (imm := imm) (pv := pb) (dv := db) (uf := .ref 216) (sf := .ref 223) (by rfl) (by rfl) (Nat.le_of_ble_eq_true (by rfl)) (Nat.le_of_ble_eq_true (by rfl)) (by rfl) (by rfl) (by k_asm) (by k_asm) (by k_asm) (by k_asm) ?hb N4 tq sub ne2 ?hQ) | (refine spec_newB (imm := imm) (pv := pv) (dv := dv) (uf := .ref 216) (sf := .ref 223) (by rfl) (by rfl) (Nat.le_of_ble_eq_true (by rfl)) (Nat.le_of_ble_eq_true (by rfl)) (by rfl) (by rfl) (by k_asm) (by k_asm) (by k_asm) (by k_asm) ?hb N4 tq sub ne2 ?hQ)
    case hb => exact fun x s' X => ⟨_, _, by k_is, rfl, binds_K X rfl (by k_is) rfl rfl rfl⟩
    case hQ =>
      intro C' u5 u6 u7 u8 odO odI ps' own h5 tk5 k1 k2 k3 F5 N5 hC' tq' ho5 hi5 fr
      obtain ⟨hobj', hdO', hdI', hfi'⟩ := hC'
      rcases hobj' with ⟨_, _, _, _, _, _, _, _, _, hk2, _, _, _⟩ | ⟨dx', pv', dv', j1, j2, hk2, ho', hd0'⟩
      · rw [k1] at hk2; cases hk2
      obtain ⟨b1, b2, b3, b4, hdmsO'⟩ := hdO'.dms
      obtain ⟨b5, b6, b7, b8, hdmsI'⟩ := hdI'.dms
      have kO : ∀ p ∈ own, p ∈ own ++ news := fun p hp => List.mem_append_left _ hp
      have kN : ∀ p ∈ news, p ∈ own ++ news := fun p hp => List.mem_append_right _ hp
      have xo := kN _ ho
      have xd := kN _ hd0
      have x1 := kN _ hdO.ms
      have x2 := kN _ hdmsO
      have x3 := kN _ hdO.fd
      have x4 := kN _ hdfO
      have x5 := kN _ m1
      have y1 := kN _ hdI.ms
      have y2 := kN _ hdmsI
      have y3 := kN _ hdI.fd
      have y4 := kN _ hdfI
      have y5 := kN _ m2
      have xo' := kO _ ho'
      have xd' := kO _ hd0'
      have x1' := kO _ hdO'.ms
      have x2' := kO _ hdmsO'
      have x3' := kO _ hdO'.fd
      have y1' := kO _ hdI'.ms
      have y2' := kO _ hdmsI'
      have y3' := kO _ hdI'.fd
      obtain ⟨lo, c1, c2, c3, c4, c5, s1, s2, off⟩ := fr
      have l226 : @LT.lt Nat _ 226 C'.O.dd := lo _ List.mem_cons_self
      have lN : ∀ q ∈ news, @LT.lt Nat _ q.1 C'.O.dd := fun q hq => lo q (List.mem_cons_of_mem _ hq)
      have tO1 : ∀ p ∈ own ++ news, p.1 ≠ C'.O.dfd := fun p hp => (List.mem_append.mp hp).elim (fun h => (off p h).2.2.1) fun h => neN (by have := lN p h; omega)
      have tO2 : ∀ p ∈ own ++ news, p.1 ≠ C'.O.dd := fun p hp => (List.mem_append.mp hp).elim (fun h => (off p h).2.1) fun h => neN (by have := lN p h; omega)
      have tI1 : ∀ p ∈ own ++ news, p.1 ≠ C'.I.dfd := fun p hp => (List.mem_append.mp hp).elim (fun h => (off p h).2.2.2.2.2.1) fun h => neN (by have := lN p h; omega)
      have tI2 : ∀ p ∈ own ++ news, p.1 ≠ C'.I.dd := fun p hp => (List.mem_append.mp hp).elim (fun h => (off p h).2.2.2.2.1) fun h => neN (by have := lN p h; omega)
      generalize htl : own ++ news = tl at N5 kO kN xo xd x1 x2 x3 x4 x5 y1 y2 y3 y4 y5 xo' xd' x1' x2' x3' y1' y2' y3' tO1 tO2 tI1 tI2
      have N6 : News g' L' h5 ((C'.O.dfd, fdDict w u5 u6 (.ref C'.x) C'.O.hp) :: (C'.O.dd, odO) :: (226, tabObj ps') :: (C'.O.hp, W.listOf [.ref C'.tO].toArray 1) :: (C'.I.hp, W.listOf [.ref C'.tC, .ref C'.tB].toArray 2) :: (C'.I.dd, odI) :: (C'.I.dfd, fdDict w u7 u8 (.ref C'.x) C'.I.hp) :: tl) := nSub N5 (by walk_at "MY:sub")
      clear N5
      have zO1 : ∀ p ∈ (226, tabObj ps') :: (C'.O.hp, W.listOf [.ref C'.tO].toArray 1) :: (C'.I.hp, W.listOf [.ref C'.tC, .ref C'.tB].toArray 2) :: (C'.I.dd, odI) :: (C'.I.dfd, fdDict w u7 u8 (.ref C'.x) C'.I.hp) :: tl, p.1 ≠ C'.O.dfd := by
        (iterate 5 (refine List.forall_mem_cons.mpr ⟨neN (by dsimp only; omega), ?_⟩)); exact tO1
      have zO2 : ∀ p ∈ (226, tabObj ps') :: (C'.O.hp, W.listOf [.ref C'.tO].toArray 1) :: (C'.I.hp, W.listOf [.ref C'.tC, .ref C'.tB].toArray 2) :: (C'.I.dd, odI) :: (C'.I.dfd, fdDict w u7 u8 (.ref C'.x) C'.I.hp) :: tl, p.1 ≠ C'.O.dd := by
        (iterate 5 (refine List.forall_mem_cons.mpr ⟨neN (by dsimp only; omega), ?_⟩)); exact tO2
      have n5 : @Ne Addr C'.O.dfd C'.O.dd := neN (by omega)
      (try dsimp only)
      (focus ((iterate 20 walk1)))
      refine spec_msCopyToP (ms := C.O.ms) (dms := C.O.dms) (dd := C.O.dd) (fd := C.O.fd) (dfd := C.O.dfd) (hp := C.O.hp) (bm := C.O.bm) (ms' := C'.O.ms) (dms' := C'.O.dms) (dd' := C'.O.dd) (fd' := C'.O.fd) (dfd' := C'.O.dfd) (hp' := C'.O.hp) (bm' := C'.O.bm) (xs := xsO) (ys := [.ref C'.tO]) (k := 1) (by rfl) (by rfl) (Nat.le_of_ble_eq_true (by rfl)) (Nat.le_of_ble_eq_true (by rfl)) (by rfl) (by rfl) (by k_asm) (by k_asm) (by k_asm) (by k_asm) (by k_asm) ho5 zO1 zO2 n5 (by k_mem) (by k_mem) (by k_mem) (by k_mem) (by k_mem) (by k_mem) (by k_mem) (by k_mem) (by k_mem) (by decide) hO hO2 (Nat.le_of_ble_eq_true (by rfl)) ?_
      intro hp1 nn1 od1 h6 tk6 F6 N7 hod1 q1 q2 q3
      have q4 : @LT.lt Nat _ C'.I.dfd hp1 := q3 (C'.I.dfd, _) (by k_mem)
      have q5 : @LT.lt Nat _ C'.I.hp hp1 := q3 (C'.I.hp, _) (by k_mem)
      have q6 : ∀ q ∈ tl, @LT.lt Nat _ q.1 hp1 := fun q hq => q3 q (by walk_at "MY:tail")
      clear q3
      have N8 : News g' L' h6 ((C'.I.dfd, fdDict w u7 u8 (.ref C'.x) C'.I.hp) :: (C'.I.dd, odI) :: (hp1, W.listOf (xsO.take (xsO.length - 1) ++ [Value.ref C'.tO]).toArray nn1) :: (C'.O.dfd, fdDict w u5 u6 (.ref C'.x) hp1) :: (C'.O.dd, od1) :: (226, tabObj ps') :: (C'.I.hp, W.listOf [.ref C'.tC, .ref C'.tB].toArray 2) :: tl) := nSub N7 (by walk_at "MY:sub")
      clear N7
      have zI1 : ∀ p ∈ (hp1, W.listOf (xsO.take (xsO.length - 1) ++ [Value.ref C'.tO]).toArray nn1) :: (C'.O.dfd, fdDict w u5 u6 (.ref C'.x) hp1) :: (C'.O.dd, od1) :: (226, tabObj ps') :: (C'.I.hp, W.listOf [.ref C'.tC, .ref C'.tB].toArray 2) :: tl, p.1 ≠ C'.I.dfd := by
        (iterate 5 (refine List.forall_mem_cons.mpr ⟨neN (by dsimp only; omega), ?_⟩)); exact tI1
      have zI2 : ∀ p ∈ (hp1, W.listOf (xsO.take (xsO.length - 1) ++ [Value.ref C'.tO]).toArray nn1) :: (C'.O.dfd, fdDict w u5 u6 (.ref C'.x) hp1) :: (C'.O.dd, od1) :: (226, tabObj ps') :: (C'.I.hp, W.listOf [.ref C'.tC, .ref C'.tB].toArray 2) :: tl, p.1 ≠ C'.I.dd := by
        (iterate 5 (refine List.forall_mem_cons.mpr ⟨neN (by dsimp only; omega), ?_⟩)); exact tI2
      have n6 : @Ne Addr C'.I.dfd C'.I.dd := neN (by omega)
      (try dsimp only)
      (focus ((iterate 18 walk1)))
      refine spec_msCopyToP (ms := C.I.ms) (dms := C.I.dms) (dd := C.I.dd) (fd := C.I.fd) (dfd := C.I.dfd) (hp := C.I.hp) (bm := C.I.bm) (ms' := C'.I.ms) (dms' := C'.I.dms) (dd' := C'.I.dd) (fd' := C'.I.fd) (dfd' := C'.I.dfd) (hp' := C'.I.hp) (bm' := C'.I.bm) (xs := xsI) (ys := [.ref C'.tC, .ref C'.tB]) (k := 2) (by rfl) (by rfl) (Nat.le_of_ble_eq_true (by rfl)) (Nat.le_of_ble_eq_true (by rfl)) (by rfl) (by rfl) (by k_asm) (by k_asm) (by k_asm) (by k_asm) (by k_asm) hi5 zI1 zI2 n6 (by k_mem) (by k_mem) (by k_mem) (by k_mem) (by k_mem) (by k_mem) (by k_mem) (by k_mem) (by k_mem) (by decide) hI hI2 (Nat.le_of_ble_eq_true (by rfl)) ?_
      intro hp2 nn2 od2 h7 tk7 F7 N9 hod2 r1 r2 r3
      have r4 : @LT.lt Nat _ hp1 hp2 := r3 (hp1, _) List.mem_cons_self
      clear r3
      (focus ((iterate 4 walk1)))
      rename News h₀ L _ _ => NN
      subst htl
      have km : ∀ p ∈ own, p ∈ (C'.O.dfd, fdDict w u5 u6 (.ref C'.x) hp1) :: (C'.I.dfd, fdDict w u7 u8 (.ref C'.x) hp2) :: own := fun p hp => List.mem_cons_of_mem _ (List.mem_cons_of_mem _ hp)
      refine hQ (C'.setHp hp1 hp2) od1 od2 nn1 nn2 ps' ((C'.O.dfd, fdDict w u5 u6 (.ref C'.x) hp1) :: (C'.I.dfd, fdDict w u7 u8 (.ref C'.x) hp2) :: own) _ _ k1 k2 k3 (by k_asm) ?_ ⟨⟨?_, ⟨km _ hdO'.ms, ⟨_, _, _, _, km _ hdmsO'⟩, km _ hdO'.fd, km _ hdO'.bm⟩, ⟨km _ hdI'.ms, ⟨_, _, _, _, km _ hdmsI'⟩, km _ hdI'.fd, km _ hdI'.bm⟩, hfi'.mono km⟩, ⟨u5, u6, List.mem_cons_self⟩, ⟨u7, u8, List.mem_cons_of_mem _ List.mem_cons_self⟩⟩ (tq'.mono fun p hp => List.mem_cons_of_mem _ (List.mem_cons_of_mem _ hp)) hod1 hod2 ⟨?_, ?_, ?_, ?_, ?_, ?_, ?_, ?_, ?_, ?_, s1, s2, ?_⟩
      · refine nSub NN ?_
        (iterate 5 (refine List.forall_mem_cons.mpr ⟨by k_mem, ?_⟩))
        refine List.forall_mem_cons.mpr ⟨by k_mem, List.forall_mem_cons.mpr ⟨by k_mem, ?_⟩⟩
        intro p hp
        walk_at "MY:tail"
      · exact .b dx' pv' dv' j1 j2 k1 (km _ ho') (km _ hd0')
      · intro q hq; have := lo q hq; show @LT.lt Nat _ _ hp1; omega
      · exact lo
      · intro q hq; have := lo q hq; show @LT.lt Nat _ _ hp2; omega
      · intro q hq; have := lo q hq; show @LT.lt Nat _ _ C'.I.dd; omega
      · show @Ne Nat hp1 C'.O.dd; omega
      · show @Ne Nat hp1 hp2; omega
      · show @Ne Nat hp1 C'.I.dd; omega
      · show @Ne Nat C'.O.dd hp2; omega
      · show @Ne Nat C'.O.dd C'.I.dd; omega
      · show @Ne Nat hp2 C'.I.dd; omega
      · refine List.forall_mem_cons.mpr ⟨⟨?_, ?_, ?_, ?_, .inl fun q hq => ?_⟩, List.forall_mem_cons.mpr ⟨⟨?_, ?_, ?_, ?_, .inl fun q hq => ?_⟩, fun p hp => ?_⟩⟩
        · exact neN (by show @Ne Nat C'.O.dfd hp1; omega)
        · exact neN (by show @Ne Nat C'.O.dfd C'.O.dd; omega)
        · exact neN (by show @Ne Nat C'.O.dfd hp2; omega)
        · exact neN (by show @Ne Nat C'.O.dfd C'.I.dd; omega)
        · have := lo q hq; show @LT.lt Nat _ _ C'.O.dfd; omega
        · exact neN (by show @Ne Nat C'.I.dfd hp1; omega)
        · exact neN (by show @Ne Nat C'.I.dfd C'.O.dd; omega)
        · exact neN (by show @Ne Nat C'.I.dfd hp2; omega)
        · exact neN (by show @Ne Nat C'.I.dfd C'.I.dd; omega)
        · have := lo q hq; show @LT.lt Nat _ _ C'.I.dfd; omega
        · obtain ⟨o1, o2, o3, o4, o5, o6, o7⟩ := off p hp
          have l6 := q6 p (kO p hp)
          exact ⟨neN (by show @Ne Nat p.1 hp1; omega), o2, neN (by show @Ne Nat p.1 hp2; omega), o5, o7⟩)
  focus (
    (try dsimp only)
    (focus ((iterate 26 walk1)))
    have N4 := (by with_reducible assumption : News g' L' _ ((226, tabObj ps) :: news))
    first | (refine spec_newB (imm := imm) (pv := pb) (dv := db) (uf := .ref 216) (sf := .ref 223) (by rfl) (by rfl) (Nat.le_of_ble_eq_true (by rfl)) (Nat.le_of_ble_eq_true (by rfl)) (by rfl) (by rfl) (by k_asm) (by k_asm) (by k_asm) (by k_asm) ?hb N4 tq sub ne2 ?hQ) | (refine spec_newB (imm := imm) (pv := pv) (dv := dv) (uf := .ref 216) (sf := .ref 223) (by rfl) (by rfl) (Nat.le_of_ble_eq_true (by rfl)) (Nat.le_of_ble_eq_true (by rfl)) (by rfl) (by rfl) (by k_asm) (by k_asm) (by k_asm) (by k_asm) ?hb N4 tq sub ne2 ?hQ)
    case hb => exact fun x s' X => ⟨_, _, by k_is, rfl, binds_K X rfl (by k_is) rfl rfl rfl⟩
    case hQ =>
      intro C' u5 u6 u7 u8 odO odI ps' own h5 tk5 k1 k2 k3 F5 N5 hC' tq' ho5 hi5 fr
      obtain ⟨hobj', hdO', hdI', hfi'⟩ := hC'
      rcases hobj' with ⟨_, _, _, _, _, _, _, _, _, hk2, _, _, _⟩ | ⟨dx', pv', dv', j1, j2, hk2, ho', hd0'⟩
      · rw [k1] at hk2; cases hk2
      obtain ⟨b1, b2, b3, b4, hdmsO'⟩ := hdO'.dms
      obtain ⟨b5, b6, b7, b8, hdmsI'⟩ := hdI'.dms
      have kO : ∀ p ∈ own, p ∈ own ++ news := fun p hp => List.mem_append_left _ hp
      have kN : ∀ p ∈ news, p ∈ own ++ news := fun p hp => List.mem_append_right _ hp
      have xo := kN _ ho
      have xd := kN _ hd0
      have x1 := kN _ hdO.ms
      have x2 := kN _ hdmsO
      have x3 := kN _ hdO.fd
      have x4 := kN _ hdfO
      have x5 := kN _ m1
      have y1 := kN _ hdI.ms
      have y2 := kN _ hdmsI
      have y3 := kN _ hdI.fd
      have y4 := kN _ hdfI
      have y5 := kN _ m2
      have xo' := kO _ ho'
      have xd' := kO _ hd0'
      have x1' := kO _ hdO'.ms
      have x2' := kO _ hdmsO'
      have x3' := kO _ hdO'.fd
      have y1' := kO _ hdI'.ms
      have y2' := kO _ hdmsI'
      have y3' := kO _ hdI'.fd
      obtain ⟨lo, c1, c2, c3, c4, c5, s1, s2, off⟩ := fr
      have l226 : @LT.lt Nat _ 226 C'.O.dd := lo _ List.mem_cons_self
      have lN : ∀ q ∈ news, @LT.lt Nat _ q.1 C'.O.dd := fun q hq => lo q (List.mem_cons_of_mem _ hq)
      have tO1 : ∀ p ∈ own ++ news, p.1 ≠ C'.O.dfd := fun p hp => (List.mem_append.mp hp).elim (fun h => (off p h).2.2.1) fun h => neN (by have := lN p h; omega)
      have tO2 : ∀ p ∈ own ++ news, p.1 ≠ C'.O.dd := fun p hp => (List.mem_append.mp hp).elim (fun h => (off p h).2.1) fun h => neN (by have := lN p h; omega)
      have tI1 : ∀ p ∈ own ++ news, p.1 ≠ C'.I.dfd := fun p hp => (List.mem_append.mp hp).elim (fun h => (off p h).2.2.2.2.2.1) fun h => neN (by have := lN p h; omega)
      have tI2 : ∀ p ∈ own ++ news, p.1 ≠ C'.I.dd := fun p hp => (List.mem_append.mp hp).elim (fun h => (off p h).2.2.2.2.1) fun h => neN (by have := lN p h; omega)
      generalize htl : own ++ news = tl at N5 kO kN xo xd x1 x2 x3 x4 x5 y1 y2 y3 y4 y5 xo' xd' x1' x2' x3' y1' y2' y3' tO1 tO2 tI1 tI2
      have N6 : News g' L' h5 ((C'.O.dfd, fdDict w u5 u6 (.ref C'.x) C'.O.hp) :: (C'.O.dd, odO) :: (226, tabObj ps') :: (C'.O.hp, W.listOf [.ref C'.tO].toArray 1) :: (C'.I.hp, W.listOf [.ref C'.tC, .ref C'.tB].toArray 2) :: (C'.I.dd, odI) :: (C'.I.dfd, fdDict w u7 u8 (.ref C'.x) C'.I.hp) :: tl) := nSub N5 (by walk_at "MY:sub")
      clear N5
      have zO1 : ∀ p ∈ (226, tabObj ps') :: (C'.O.hp, W.listOf [.ref C'.tO].toArray 1) :: (C'.I.hp, W.listOf [.ref C'.tC, .ref C'.tB].toArray 2) :: (C'.I.dd, odI) :: (C'.I.dfd, fdDict w u7 u8 (.ref C'.x) C'.I.hp) :: tl, p.1 ≠ C'.O.dfd := by
        (iterate 5 (refine List.forall_mem_cons.mpr ⟨neN (by dsimp only; omega), ?_⟩)); exact tO1
      have zO2 : ∀ p ∈ (226, tabObj ps') :: (C'.O.hp, W.listOf [.ref C'.tO].toArray 1) :: (C'.I.hp, W.listOf [.ref C'.tC, .ref C'.tB].toArray 2) :: (C'.I.dd, odI) :: (C'.I.dfd, fdDict w u7 u8 (.ref C'.x) C'.I.hp) :: tl, p.1 ≠ C'.O.dd := by
        (iterate 5 (refine List.forall_mem_cons.mpr ⟨neN (by dsimp only; omega), ?_⟩)); exact tO2
      have n5 : @Ne Addr C'.O.dfd C'.O.dd := neN (by omega)
      (try dsimp only)
      (focus ((iterate 20 walk1)))
      refine spec_msCopyToP (ms := C.O.ms) (dms := C.O.dms) (dd := C.O.dd) (fd := C.O.fd) (dfd := C.O.dfd) (hp := C.O.hp) (bm := C.O.bm) (ms' := C'.O.ms) (dms' := C'.O.dms) (dd' := C'.O.dd) (fd' := C'.O.fd) (dfd' := C'.O.dfd) (hp' := C'.O.hp) (bm' := C'.O.bm) (xs := xsO) (ys := [.ref C'.tO]) (k := 1) (by rfl) (by rfl) (Nat.le_of_ble_eq_true (by rfl)) (Nat.le_of_ble_eq_true (by rfl)) (by rfl) (by rfl) (by k_asm) (by k_asm) (by k_asm) (by k_asm) (by k_asm) ho5 zO1 zO2 n5 (by k_mem) (by k_mem) (by k_mem) (by k_mem) (by k_mem) (by k_mem) (by k_mem) (by k_mem) (by k_mem) (by decide) hO hO2 (Nat.le_of_ble_eq_true (by rfl)) ?_
      intro hp1 nn1 od1 h6 tk6 F6 N7 hod1 q1 q2 q3
      have q4 : @LT.lt Nat _ C'.I.dfd hp1 := q3 (C'.I.dfd, _) (by k_mem)
      have q5 : @LT.lt Nat _ C'.I.hp hp1 := q3 (C'.I.hp, _) (by k_mem)
      have q6 : ∀ q ∈ tl, @LT.lt Nat _ q.1 hp1 := fun q hq => q3 q (by walk_at "MY:tail")
      clear q3
      have N8 : News g' L' h6 ((C'.I.dfd, fdDict w u7 u8 (.ref C'.x) C'.I.hp) :: (C'.I.dd, odI) :: (hp1, W.listOf (xsO.take (xsO.length - 1) ++ [Value.ref C'.tO]).toArray nn1) :: (C'.O.dfd, fdDict w u5 u6 (.ref C'.x) hp1) :: (C'.O.dd, od1) :: (226, tabObj ps') :: (C'.I.hp, W.listOf [.ref C'.tC, .ref C'.tB].toArray 2) :: tl) := nSub N7 (by walk_at "MY:sub")
      clear N7
      have zI1 : ∀ p ∈ (hp1, W.listOf (xsO.take (xsO.length - 1) ++ [Value.ref C'.tO]).toArray nn1) :: (C'.O.dfd, fdDict w u5 u6 (.ref C'.x) hp1) :: (C'.O.dd, od1) :: (226, tabObj ps') :: (C'.I.hp, W.listOf [.ref C'.tC, .ref C'.tB].toArray 2) :: tl, p.1 ≠ C'.I.dfd := by
        (iterate 5 (refine List.forall_mem_cons.mpr ⟨neN (by dsimp only; omega), ?_⟩)); exact tI1
      have zI2 : ∀ p ∈ (hp1, W.listOf (xsO.take (xsO.length - 1) ++ [Value.ref C'.tO]).toArray nn1) :: (C'.O.dfd, fdDict w u5 u6 (.ref C'.x) hp1) :: (C'.O.dd, od1) :: (226, tabObj ps') :: (C'.I.hp, W.listOf [.ref C'.tC, .ref C'.tB].toArray 2) :: tl, p.1 ≠ C'.I.dd := by
        (iterate 5 (refine List.forall_mem_cons.mpr ⟨neN (by dsimp only; omega), ?_⟩)); exact tI2
      have n6 : @Ne Addr C'.I.dfd C'.I.dd := neN (by omega)
      (try dsimp only)
      (focus ((iterate 18 walk1)))
      refine spec_msCopyToP (ms := C.I.ms) (dms := C.I.dms) (dd := C.I.dd) (fd := C.I.fd) (dfd := C.I.dfd) (hp := C.I.hp) (bm := C.I.bm) (ms' := C'.I.ms) (dms' := C'.I.dms) (dd' := C'.I.dd) (fd' := C'.I.fd) (dfd' := C'.I.dfd) (hp' := C'.I.hp) (bm' := C'.I.bm) (xs := xsI) (ys := [.ref C'.tC, .ref C'.tB]) (k := 2) (by rfl) (by rfl) (Nat.le_of_ble_eq_true (by rfl)) (Nat.le_of_ble_eq_true (by rfl)) (by rfl) (by rfl) (by k_asm) (by k_asm) (by k_asm) (by k_asm) (by k_asm) hi5 zI1 zI2 n6 (by k_mem) (by k_mem) (by k_mem) (by k_mem) (by k_mem) (by k_mem) (by k_mem) (by k_mem) (by k_mem) (by decide) hI hI2 (Nat.le_of_ble_eq_true (by rfl)) ?_
      intro hp2 nn2 od2 h7 tk7 F7 N9 hod2 r1 r2 r3
      have r4 : @LT.lt Nat _ hp1 hp2 := r3 (hp1, _) List.mem_cons_self
      clear r3
      (focus ((iterate 4 walk1)))
      rename News h₀ L _ _ => NN
      subst htl
      have km : ∀ p ∈ own, p ∈ (C'.O.dfd, fdDict w u5 u6 (.ref C'.x) hp1) :: (C'.I.dfd, fdDict w u7 u8 (.ref C'.x) hp2) :: own := fun p hp => List.mem_cons_of_mem _ (List.mem_cons_of_mem _ hp)
      refine hQ (C'.setHp hp1 hp2) od1 od2 nn1 nn2 ps' ((C'.O.dfd, fdDict w u5 u6 (.ref C'.x) hp1) :: (C'.I.dfd, fdDict w u7 u8 (.ref C'.x) hp2) :: own) _ _ k1 k2 k3 (by k_asm) ?_ ⟨⟨?_, ⟨km _ hdO'.ms, ⟨_, _, _, _, km _ hdmsO'⟩, km _ hdO'.fd, km _ hdO'.bm⟩, ⟨km _ hdI'.ms, ⟨_, _, _, _, km _ hdmsI'⟩, km _ hdI'.fd, km _ hdI'.bm⟩, hfi'.mono km⟩, ⟨u5, u6, List.mem_cons_self⟩, ⟨u7, u8, List.mem_cons_of_mem _ List.mem_cons_self⟩⟩ (tq'.mono fun p hp => List.mem_cons_of_mem _ (List.mem_cons_of_mem _ hp)) hod1 hod2 ⟨?_, ?_, ?_, ?_, ?_, ?_, ?_, ?_, ?_, ?_, s1, s2, ?_⟩
      · refine nSub NN ?_
        (iterate 5 (refine List.forall_mem_cons.mpr ⟨by k_mem, ?_⟩))
        refine List.forall_mem_cons.mpr ⟨by k_mem, List.forall_mem_cons.mpr ⟨by k_mem, ?_⟩⟩
        intro p hp
        walk_at "MY:tail"
      · exact .b dx' pv' dv' j1 j2 k1 (km _ ho') (km _ hd0')
      · intro q hq; have := lo q hq; show @LT.lt Nat _ _ hp1; omega
      · exact lo
      · intro q hq; have := lo q hq; show @LT.lt Nat _ _ hp2; omega
      · intro q hq; have := lo q hq; show @LT.lt Nat _ _ C'.I.dd; omega
      · show @Ne Nat hp1 C'.O.dd; omega
      · show @Ne Nat hp1 hp2; omega
      · show @Ne Nat hp1 C'.I.dd; omega
      · show @Ne Nat C'.O.dd hp2; omega
      · show @Ne Nat C'.O.dd C'.I.dd; omega
      · show @Ne Nat hp2 C'.I.dd; omega
      · refine List.forall_mem_cons.mpr ⟨⟨?_, ?_, ?_, ?_, .inl fun q hq => ?_⟩, List.forall_mem_cons.mpr ⟨⟨?_, ?_, ?_, ?_, .inl fun q hq => ?_⟩, fun p hp => ?_⟩⟩
        · exact neN (by show @Ne Nat C'.O.dfd hp1; omega)
        · exact neN (by show @Ne Nat C'.O.dfd C'.O.dd; omega)
        · exact neN (by show @Ne Nat C'.O.dfd hp2; omega)
        · exact neN (by show @Ne Nat C'.O.dfd C'.I.dd; omega)
        · have := lo q hq; show @LT.lt Nat _ _ C'.O.dfd; omega
        · exact neN (by show @Ne Nat C'.I.dfd hp1; omega)
        · exact neN (by show @Ne Nat C'.I.dfd C'.O.dd; omega)
        · exact neN (by show @Ne Nat C'.I.dfd hp2; omega)
        · exact neN (by show @Ne Nat C'.I.dfd C'.I.dd; omega)
        · have := lo q hq; show @LT.lt Nat _ _ C'.I.dfd; omega
        · obtain ⟨o1, o2, o3, o4, o5, o6, o7⟩ := off p hp
          have l6 := q6 p (kO p hp)
          exact ⟨neN (by show @Ne Nat p.1 hp1; omega), o2, neN (by show @Ne Nat p.1 hp2; omega), o5, o7⟩)
end
end
example {M : Model} {A : Around} {E Q : Value → Shared → Prop} {s : Shared} (h : wpAny M A (pure .none) Q E s) : wpAny M A (pure .none) Q E s := by
  w_top off
  first
    | (walk1; fail)
    | exact h
section
/-- a cell that holds v -/
def CellAt (l : List (Addr × Obj)) (c : Addr) (v : Value) : Prop := ∃ oc, (c, oc) ∈ l ∧ oc.data = .cell (some v)
theorem CellAt.mono {l l' : List (Addr × Obj)} {c : Addr} {v : Value} (h : CellAt l c v) (k : ∀ p ∈ l, p ∈ l') : CellAt l' c v := let ⟨o, a, b⟩ := h; ⟨o, k _ a, b⟩
/-- what is made stands apart from the changing places, and is new or was there -/
def OwnOff (as : List Addr) (old own imm : List (Addr × Obj)) : Prop := ∀ p ∈ own, p.1 ∉ as ∧ ((∀ q ∈ old, @LT.lt Nat _ q.1 p.1) ∨ p ∈ imm)
local macro_rules | `(tactic| walk_at "MY:enterC") => `(tactic| (
  refine wpAny_call ?_
  k_dflt (refine' code_defC ?k1 ?k2 ?k3 ?k4 ?k5 ?kA ?kF ?kK ?k6 ?k7 ?k8 ?k9 ?kB ?kD ?_ ?c2 ?c3 ?c4)
  (case kA => exact rfl); (case kF => first | exact rfl | assumption); (case kK => first | exact rfl | assumption); (case k1 => k_asm); (case k2 => k_asm); (case k3 => k_asm); (case k4 => k_asm); (case k5 => k_asm); (case k6 => k_is); (case k7 => k_is); (case k8 => k_room)
  (case k9 => first | exact BindsTo.of_eq rfl | exact binds_K (by k_in) rfl (by k_is) rfl rfl rfl)
  (case kB => exact rfl); (case kD => decide +kernel); (case c2 => exact rfl); (case c3 => exact rfl); (case c4 => exact rfl)))
section
variable {w : World} {A₀ A : Around} {base h₀ : Heap} {env : Env} {outer : List Env} {L : Addr} {m mg mb : Str → Option Value} {p : Program} {loose : List Str} {mean : ExcName → Option Value} {s : Shared} {Q E : Value → Shared → Prop} {news l : List (Addr × Obj)}
theorem spec_is {imm : List (Addr × Obj)} {ps : Array Value} {kindV : Value}
    (hA : A.frames = some (env :: outer)) (hh : A.handled = none) (hd : A.depth ≤ 345) (hu : A.units ≤ 850) (hf : env.frame = some L) (hke : env.scope.kind = .function)
    (B : Below A₀ base outer h₀) (F : Fr h₀ L s.heap m) (X : (Mine.hd.heap_39 w.params).In h₀) (T : Top p loose mean mg mb h₀)
    (N : News h₀ L s.heap ((454, tabObj ps) :: news)) (tq : TabQ (qLam "_law_is") ps imm) (sub : ∀ p ∈ imm, p ∈ news) (ne : ∀ p ∈ news, p.1 ≠ 454)
    (hQ : ∀ f c1 ps' own h' tk, Fr h₀ L h' m → News h₀ L h' ((454, tabObj ps') :: (own ++ news)) → LamAt own f (qLam "_law_is") lIs [("kind", c1)] → CellAt own c1 kindV → TabQ (qLam "_law_is") ps' (own ++ imm) →
      OwnOff [454] ((454, tabObj ps) :: news) own imm → Q (.ref f) { s with heap := h', toks := tk }) :
    wpAny (model PROG w) A (call (.ref 459) [kindV] []) Q E s := by
  refine wp_le 345 850 hA hh hd hu ?_
  walk_at "MY:enterC"
  intro g' L' h' tk' cells' FG' F' N' Y' B' X' T' l1
  obtain ⟨o1, hE, d1⟩ := CellsAre.one Y'; subst hE; clear Y'
  simp only [List.cons_append, List.nil_append] at N'
  (try dsimp only)
  have C2 : CodeHd g' 458 454 := codeHd_of_K X' (by kernel_rfl)
  have lt : @LT.lt Nat _ 454 L' := l1 _ List.mem_cons_self
  have ln : ∀ p ∈ news, @LT.lt Nat _ p.1 L' := fun p hp => l1 p (List.mem_cons_of_mem _ hp)
  (try dsimp only)
  (focus ((iterate 2 walk1)))
  refine kla_eval (by exact rfl) ?_
  refine kla_any (c := 458) imm (by k_asm) (by k_asm) (by k_asm) C2 (by exact rfl) (Upd1.tail (Nat.ne_of_gt (Nat.lt_of_lt_of_le lt (Nat.le_add_right L' 1))) (Upd1.head ne)) tq ?sub ?off (by exact rfl) ?_
  case sub => exact fun p hp => List.mem_cons_of_mem _ (List.mem_cons_of_mem _ (sub p hp))
  case off => exact fun p hp => ne p (sub p hp)
  intro f c' oc vs t ctv ps' h2 tk2 F2 N2 tq2 hd hv lf lcf kin
  (try dsimp only at N2)
  have ff : @LT.lt Nat _ L' f := Nat.lt_trans (Nat.lt_succ_self L') (lf (L' + 1, _) (by k_mem))
  (focus (walk1))
  rename News h₀ L _ _ => NN
  refine hQ f (L' + 1) ps' ((f, kla_obj "<lambda>" (qLam "_law_is") lIs.params lIs.body lIs.scope [("kind", L' + 1)] ((mg "__name__").getD .none) c' ctv) :: (c', oc) :: (L' + 1, o1) :: []) _ _ (by k_asm) (nSub NN ?_) ⟨_, c', ctv, oc, vs, t, List.mem_cons_self, List.mem_cons_of_mem _ List.mem_cons_self, hd, hv⟩ ⟨_, by k_mem, d1⟩ (tq2.mono ?_) ?_
  · refine List.forall_mem_cons.mpr ⟨by k_mem, ?_⟩
    (iterate 3 (refine List.forall_mem_cons.mpr ⟨by k_mem, ?_⟩))
    intro p hp
    replace hp : p ∈ news := hp
    walk_at "MY:tail"
  · refine List.forall_mem_cons.mpr ⟨List.mem_cons_of_mem _ List.mem_cons_self, ?_⟩
    intro p hp
    exact List.mem_append_right _ hp
  · refine List.forall_mem_cons.mpr ⟨?_, List.forall_mem_cons.mpr ⟨?_, ?_⟩⟩
    · refine ⟨?_, .inl (List.forall_mem_cons.mpr ⟨Nat.lt_trans lt ff, fun q hq => Nat.lt_trans (ln q hq) ff⟩)⟩
      rw [List.mem_singleton]; exact Nat.ne_of_gt (Nat.lt_trans lt ff)
    · rcases kin with k | k
      · have k1 : @LT.lt Nat _ L' c' := Nat.lt_trans (Nat.lt_succ_self L') (k (L' + 1, _) (by k_mem))
        refine ⟨?_, .inl (List.forall_mem_cons.mpr ⟨Nat.lt_trans lt k1, fun q hq => Nat.lt_trans (ln q hq) k1⟩)⟩
        rw [List.mem_singleton]; exact Nat.ne_of_gt (Nat.lt_trans lt k1)
      · refine ⟨?_, .inr k⟩
        rw [List.mem_singleton]; exact ne _ (sub _ k)
    · intro p hp
      have k1 : @LT.lt Nat _ L' p.1 := by
        simp only [List.mem_cons, List.not_mem_nil, or_false] at hp
        subst hp; exact Nat.lt_succ_self L'
      refine ⟨?_, .inl (List.forall_mem_cons.mpr ⟨Nat.lt_trans lt k1, fun q hq => Nat.lt_trans (ln q hq) k1⟩)⟩
      rw [List.mem_singleton]; exact Nat.ne_of_gt (Nat.lt_trans lt k1)
theorem spec_lastOut {imm : List (Addr × Obj)} {ps : Array Value} {markV kindV : Value}
    (hA : A.frames = some (env :: outer)) (hh : A.handled = none) (hd : A.depth ≤ 345) (hu : A.units ≤ 850) (hf : env.frame = some L) (hke : env.scope.kind = .function)
    (B : Below A₀ base outer h₀) (F : Fr h₀ L s.heap m) (X : (Mine.hd.heap_39 w.params).In h₀) (T : Top p loose mean mg mb h₀)
    (N : News h₀ L s.heap ((433, tabObj ps) :: news)) (tq : TabQ (qLam "_law_last_out") ps imm) (sub : ∀ p ∈ imm, p ∈ news) (ne : ∀ p ∈ news, p.1 ≠ 433)
    (hQ : ∀ f c1 c2 ps' own h' tk, Fr h₀ L h' m → News h₀ L h' ((433, tabObj ps') :: (own ++ news)) → LamAt own f (qLam "_law_last_out") lLastOut [("mark", c1), ("kind", c2)] → CellAt own c1 markV → CellAt own c2 kindV → TabQ (qLam "_law_last_out") ps' (own ++ imm) →
      OwnOff [433] ((433, tabObj ps) :: news) own imm → Q (.ref f) { s with heap := h', toks := tk }) :
    wpAny (model PROG w) A (call (.ref 438) [markV, kindV] []) Q E s := by
  refine wp_le 345 850 hA hh hd hu ?_
  walk_at "MY:enterC"
  intro g' L' h' tk' cells' FG' F' N' Y' B' X' T' l1
  obtain ⟨o1, o2, hE, d1, d2⟩ := CellsAre.two Y'; subst hE; clear Y'
  simp only [List.cons_append, List.nil_append] at N'
  (try dsimp only)
  have C2 : CodeHd g' 437 433 := codeHd_of_K X' (by kernel_rfl)
  have lt : @LT.lt Nat _ 433 L' := l1 _ List.mem_cons_self
  have ln : ∀ p ∈ news, @LT.lt Nat _ p.1 L' := fun p hp => l1 p (List.mem_cons_of_mem _ hp)
  (try dsimp only)
  (focus ((iterate 2 walk1)))
  refine kla_eval (by exact rfl) ?_
  refine kla_any (c := 437) imm (by k_asm) (by k_asm) (by k_asm) C2 (by exact rfl) (Upd1.tail (Nat.ne_of_gt (Nat.lt_of_lt_of_le lt (Nat.le_add_right L' 2))) (Upd1.tail (Nat.ne_of_gt (Nat.lt_of_lt_of_le lt (Nat.le_add_right L' 1))) (Upd1.head ne))) tq ?sub ?off (by exact rfl) ?_
  case sub => exact fun p hp => List.mem_cons_of_mem _ (List.mem_cons_of_mem _ (List.mem_cons_of_mem _ (sub p hp)))
  case off => exact fun p hp => ne p (sub p hp)
  intro f c' oc vs t ctv ps' h2 tk2 F2 N2 tq2 hd hv lf lcf kin
  (try dsimp only at N2)
  have ff : @LT.lt Nat _ L' f := Nat.lt_trans (Nat.lt_succ_self L') (lf (L' + 1, _) (by k_mem))
  (focus (walk1))
  rename News h₀ L _ _ => NN
  refine hQ f (L' + 1) (L' + 1 + 1) ps' ((f, kla_obj "<lambda>" (qLam "_law_last_out") lLastOut.params lLastOut.body lLastOut.scope [("mark", L' + 1), ("kind", L' + 1 + 1)] ((mg "__name__").getD .none) c' ctv) :: (c', oc) :: (L' + 1 + 1, o1) :: (L' + 1, o2) :: []) _ _ (by k_asm) (nSub NN ?_) ⟨_, c', ctv, oc, vs, t, List.mem_cons_self, List.mem_cons_of_mem _ List.mem_cons_self, hd, hv⟩ ⟨_, by k_mem, d2⟩ ⟨_, by k_mem, d1⟩ (tq2.mono ?_) ?_
  · refine List.forall_mem_cons.mpr ⟨by k_mem, ?_⟩
    (iterate 4 (refine List.forall_mem_cons.mpr ⟨by k_mem, ?_⟩))
    intro p hp
    replace hp : p ∈ news := hp
    walk_at "MY:tail"
  · refine List.forall_mem_cons.mpr ⟨List.mem_cons_of_mem _ List.mem_cons_self, ?_⟩
    intro p hp
    exact List.mem_append_right _ hp
  · refine List.forall_mem_cons.mpr ⟨?_, List.forall_mem_cons.mpr ⟨?_, ?_⟩⟩
    · refine ⟨?_, .inl (List.forall_mem_cons.mpr ⟨Nat.lt_trans lt ff, fun q hq => Nat.lt_trans (ln q hq) ff⟩)⟩
      rw [List.mem_singleton]; exact Nat.ne_of_gt (Nat.lt_trans lt ff)
    · rcases kin with k | k
      · have k1 : @LT.lt Nat _ L' c' := Nat.lt_trans (Nat.lt_succ_self L') (k (L' + 1, _) (by k_mem))
        refine ⟨?_, .inl (List.forall_mem_cons.mpr ⟨Nat.lt_trans lt k1, fun q hq => Nat.lt_trans (ln q hq) k1⟩)⟩
        rw [List.mem_singleton]; exact Nat.ne_of_gt (Nat.lt_trans lt k1)
      · refine ⟨?_, .inr k⟩
        rw [List.mem_singleton]; exact ne _ (sub _ k)
    · intro p hp
      have k1 : @LT.lt Nat _ L' p.1 := by
        simp only [List.mem_cons, List.not_mem_nil, or_false] at hp
        rcases hp with rfl | rfl
        · exact Nat.lt_succ_of_lt (Nat.lt_succ_self L')
        · exact Nat.lt_succ_self L'
      refine ⟨?_, .inl (List.forall_mem_cons.mpr ⟨Nat.lt_trans lt k1, fun q hq => Nat.lt_trans (ln q hq) k1⟩)⟩
      rw [List.mem_singleton]; exact Nat.ne_of_gt (Nat.lt_trans lt k1)
theorem spec_lastIn {imm : List (Addr × Obj)} {ps : Array Value} {markV kindV : Value}
    (hA : A.frames = some (env :: outer)) (hh : A.handled = none) (hd : A.depth ≤ 345) (hu : A.units ≤ 850) (hf : env.frame = some L) (hke : env.scope.kind = .function)
    (B : Below A₀ base outer h₀) (F : Fr h₀ L s.heap m) (X : (Mine.hd.heap_39 w.params).In h₀) (T : Top p loose mean mg mb h₀)
    (N : News h₀ L s.heap ((440, tabObj ps) :: news)) (tq : TabQ (qLam "_law_last_in") ps imm) (sub : ∀ p ∈ imm, p ∈ news) (ne : ∀ p ∈ news, p.1 ≠ 440)
    (hQ : ∀ f c1 c2 ps' own h' tk, Fr h₀ L h' m → News h₀ L h' ((440, tabObj ps') :: (own ++ news)) → LamAt own f (qLam "_law_last_in") lLastIn [("mark", c1), ("kind", c2)] → CellAt own c1 markV → CellAt own c2 kindV → TabQ (qLam "_law_last_in") ps' (own ++ imm) →
      OwnOff [440] ((440, tabObj ps) :: news) own imm → Q (.ref f) { s with heap := h', toks := tk }) :
    wpAny (model PROG w) A (call (.ref 445) [markV, kindV] []) Q E s := by
  refine wp_le 345 850 hA hh hd hu ?_
  walk_at "MY:enterC"
  intro g' L' h' tk' cells' FG' F' N' Y' B' X' T' l1
  obtain ⟨o1, o2, hE, d1, d2⟩ := CellsAre.two Y'; subst hE; clear Y'
  simp only [List.cons_append, List.nil_append] at N'
  (try dsimp only)
  have C2 : CodeHd g' 444 440 := codeHd_of_K X' (by kernel_rfl)
  have lt : @LT.lt Nat _ 440 L' := l1 _ List.mem_cons_self
  have ln : ∀ p ∈ news, @LT.lt Nat _ p.1 L' := fun p hp => l1 p (List.mem_cons_of_mem _ hp)
  (try dsimp only)
  (focus ((iterate 2 walk1)))
  refine kla_eval (by exact rfl) ?_
  refine kla_any (c := 444) imm (by k_asm) (by k_asm) (by k_asm) C2 (by exact rfl) (Upd1.tail (Nat.ne_of_gt (Nat.lt_of_lt_of_le lt (Nat.le_add_right L' 2))) (Upd1.tail (Nat.ne_of_gt (Nat.lt_of_lt_of_le lt (Nat.le_add_right L' 1))) (Upd1.head ne))) tq ?sub ?off (by exact rfl) ?_
  case sub => exact fun p hp => List.mem_cons_of_mem _ (List.mem_cons_of_mem _ (List.mem_cons_of_mem _ (sub p hp)))
  case off => exact fun p hp => ne p (sub p hp)
  intro f c' oc vs t ctv ps' h2 tk2 F2 N2 tq2 hd hv lf lcf kin
  (try dsimp only at N2)
  have ff : @LT.lt Nat _ L' f := Nat.lt_trans (Nat.lt_succ_self L') (lf (L' + 1, _) (by k_mem))
  (focus (walk1))
  rename News h₀ L _ _ => NN
  refine hQ f (L' + 1) (L' + 1 + 1) ps' ((f, kla_obj "<lambda>" (qLam "_law_last_in") lLastIn.params lLastIn.body lLastIn.scope [("mark", L' + 1), ("kind", L' + 1 + 1)] ((mg "__name__").getD .none) c' ctv) :: (c', oc) :: (L' + 1 + 1, o1) :: (L' + 1, o2) :: []) _ _ (by k_asm) (nSub NN ?_) ⟨_, c', ctv, oc, vs, t, List.mem_cons_self, List.mem_cons_of_mem _ List.mem_cons_self, hd, hv⟩ ⟨_, by k_mem, d2⟩ ⟨_, by k_mem, d1⟩ (tq2.mono ?_) ?_
  · refine List.forall_mem_cons.mpr ⟨by k_mem, ?_⟩
    (iterate 4 (refine List.forall_mem_cons.mpr ⟨by k_mem, ?_⟩))
    intro p hp
    replace hp : p ∈ news := hp
    walk_at "MY:tail"
  · refine List.forall_mem_cons.mpr ⟨List.mem_cons_of_mem _ List.mem_cons_self, ?_⟩
    intro p hp
    exact List.mem_append_right _ hp
  · refine List.forall_mem_cons.mpr ⟨?_, List.forall_mem_cons.mpr ⟨?_, ?_⟩⟩
    · refine ⟨?_, .inl (List.forall_mem_cons.mpr ⟨Nat.lt_trans lt ff, fun q hq => Nat.lt_trans (ln q hq) ff⟩)⟩
      rw [List.mem_singleton]; exact Nat.ne_of_gt (Nat.lt_trans lt ff)
    · rcases kin with k | k
      · have k1 : @LT.lt Nat _ L' c' := Nat.lt_trans (Nat.lt_succ_self L') (k (L' + 1, _) (by k_mem))
        refine ⟨?_, .inl (List.forall_mem_cons.mpr ⟨Nat.lt_trans lt k1, fun q hq => Nat.lt_trans (ln q hq) k1⟩)⟩
        rw [List.mem_singleton]; exact Nat.ne_of_gt (Nat.lt_trans lt k1)
      · refine ⟨?_, .inr k⟩
        rw [List.mem_singleton]; exact ne _ (sub _ k)
    · intro p hp
      have k1 : @LT.lt Nat _ L' p.1 := by
        simp only [List.mem_cons, List.not_mem_nil, or_false] at hp
        rcases hp with rfl | rfl
        · exact Nat.lt_succ_of_lt (Nat.lt_succ_self L')
        · exact Nat.lt_succ_self L'
      refine ⟨?_, .inl (List.forall_mem_cons.mpr ⟨Nat.lt_trans lt k1, fun q hq => Nat.lt_trans (ln q hq) k1⟩)⟩
      rw [List.mem_singleton]; exact Nat.ne_of_gt (Nat.lt_trans lt k1)
theorem spec_madeIn {imm : List (Addr × Obj)} {ps : Array Value} {markV ofV : Value}
    (hA : A.frames = some (env :: outer)) (hh : A.handled = none) (hd : A.depth ≤ 345) (hu : A.units ≤ 850) (hf : env.frame = some L) (hke : env.scope.kind = .function)
    (B : Below A₀ base outer h₀) (F : Fr h₀ L s.heap m) (X : (Mine.hd.heap_39 w.params).In h₀) (T : Top p loose mean mg mb h₀)
    (N : News h₀ L s.heap ((468, tabObj ps) :: news)) (tq : TabQ (qLam "_law_made_in") ps imm) (sub : ∀ p ∈ imm, p ∈ news) (ne : ∀ p ∈ news, p.1 ≠ 468)
    (hQ : ∀ f c1 c2 ps' own h' tk, Fr h₀ L h' m → News h₀ L h' ((468, tabObj ps') :: (own ++ news)) → LamAt own f (qLam "_law_made_in") lMadeIn [("of", c2), ("mark", c1)] → CellAt own c1 markV → CellAt own c2 ofV → TabQ (qLam "_law_made_in") ps' (own ++ imm) →
      OwnOff [468] ((468, tabObj ps) :: news) own imm → Q (.ref f) { s with heap := h', toks := tk }) :
    wpAny (model PROG w) A (call (.ref 473) [markV, ofV] []) Q E s := by
  refine wp_le 345 850 hA hh hd hu ?_
  walk_at "MY:enterC"
  intro g' L' h' tk' cells' FG' F' N' Y' B' X' T' l1
  obtain ⟨o1, o2, hE, d1, d2⟩ := CellsAre.two Y'; subst hE; clear Y'
  simp only [List.cons_append, List.nil_append] at N'
  (try dsimp only)
  have C2 : CodeHd g' 472 468 := codeHd_of_K X' (by kernel_rfl)
  have lt : @LT.lt Nat _ 468 L' := l1 _ List.mem_cons_self
  have ln : ∀ p ∈ news, @LT.lt Nat _ p.1 L' := fun p hp => l1 p (List.mem_cons_of_mem _ hp)
  (try dsimp only)
  (focus ((iterate 2 walk1)))
  refine kla_eval (by exact rfl) ?_
  refine kla_any (c := 472) imm (by k_asm) (by k_asm) (by k_asm) C2 (by exact rfl) (Upd1.tail (Nat.ne_of_gt (Nat.lt_of_lt_of_le lt (Nat.le_add_right L' 2))) (Upd1.tail (Nat.ne_of_gt (Nat.lt_of_lt_of_le lt (Nat.le_add_right L' 1))) (Upd1.head ne))) tq ?sub ?off (by exact rfl) ?_
  case sub => exact fun p hp => List.mem_cons_of_mem _ (List.mem_cons_of_mem _ (List.mem_cons_of_mem _ (sub p hp)))
  case off => exact fun p hp => ne p (sub p hp)
  intro f c' oc vs t ctv ps' h2 tk2 F2 N2 tq2 hd hv lf lcf kin
  (try dsimp only at N2)
  have ff : @LT.lt Nat _ L' f := Nat.lt_trans (Nat.lt_succ_self L') (lf (L' + 1, _) (by k_mem))
  (focus (walk1))
  rename News h₀ L _ _ => NN
  refine hQ f (L' + 1) (L' + 1 + 1) ps' ((f, kla_obj "<lambda>" (qLam "_law_made_in") lMadeIn.params lMadeIn.body lMadeIn.scope [("of", L' + 1 + 1), ("mark", L' + 1)] ((mg "__name__").getD .none) c' ctv) :: (c', oc) :: (L' + 1 + 1, o1) :: (L' + 1, o2) :: []) _ _ (by k_asm) (nSub NN ?_) ⟨_, c', ctv, oc, vs, t, List.mem_cons_self, List.mem_cons_of_mem _ List.mem_cons_self, hd, hv⟩ ⟨_, by k_mem, d2⟩ ⟨_, by k_mem, d1⟩ (tq2.mono ?_) ?_
  · refine List.forall_mem_cons.mpr ⟨by k_mem, ?_⟩
    (iterate 4 (refine List.forall_mem_cons.mpr ⟨by k_mem, ?_⟩))
    intro p hp
    replace hp : p ∈ news := hp
    walk_at "MY:tail"
  · refine List.forall_mem_cons.mpr ⟨List.mem_cons_of_mem _ List.mem_cons_self, ?_⟩
    intro p hp
    exact List.mem_append_right _ hp
  · refine List.forall_mem_cons.mpr ⟨?_, List.forall_mem_cons.mpr ⟨?_, ?_⟩⟩
    · refine ⟨?_, .inl (List.forall_mem_cons.mpr ⟨Nat.lt_trans lt ff, fun q hq => Nat.lt_trans (ln q hq) ff⟩)⟩
      rw [List.mem_singleton]; exact Nat.ne_of_gt (Nat.lt_trans lt ff)
    · rcases kin with k | k
      · have k1 : @LT.lt Nat _ L' c' := Nat.lt_trans (Nat.lt_succ_self L') (k (L' + 1, _) (by k_mem))
        refine ⟨?_, .inl (List.forall_mem_cons.mpr ⟨Nat.lt_trans lt k1, fun q hq => Nat.lt_trans (ln q hq) k1⟩)⟩
        rw [List.mem_singleton]; exact Nat.ne_of_gt (Nat.lt_trans lt k1)
      · refine ⟨?_, .inr k⟩
        rw [List.mem_singleton]; exact ne _ (sub _ k)
    · intro p hp
      have k1 : @LT.lt Nat _ L' p.1 := by
        simp only [List.mem_cons, List.not_mem_nil, or_false] at hp
        rcases hp with rfl | rfl
        · exact Nat.lt_succ_of_lt (Nat.lt_succ_self L')
        · exact Nat.lt_succ_self L'
      refine ⟨?_, .inl (List.forall_mem_cons.mpr ⟨Nat.lt_trans lt k1, fun q hq => Nat.lt_trans (ln q hq) k1⟩)⟩
      rw [List.mem_singleton]; exact Nat.ne_of_gt (Nat.lt_trans lt k1)
theorem spec_madeOut {imm : List (Addr × Obj)} {ps : Array Value} {markV ofV : Value}
    (hA : A.frames = some (env :: outer)) (hh : A.handled = none) (hd : A.depth ≤ 345) (hu : A.units ≤ 850) (hf : env.frame = some L) (hke : env.scope.kind = .function)
    (B : Below A₀ base outer h₀) (F : Fr h₀ L s.heap m) (X : (Mine.hd.heap_39 w.params).In h₀) (T : Top p loose mean mg mb h₀)
    (N : News h₀ L s.heap ((475, tabObj ps) :: news)) (tq : TabQ (qLam "_law_made_out") ps imm) (sub : ∀ p ∈ imm, p ∈ news) (ne : ∀ p ∈ news, p.1 ≠ 475)
    (hQ : ∀ f c1 c2 ps' own h' tk, Fr h₀ L h' m → News h₀ L h' ((475, tabObj ps') :: (own ++ news)) → LamAt own f (qLam "_law_made_out") lMadeOut [("of", c2), ("mark", c1)] → CellAt own c1 markV → CellAt own c2 ofV → TabQ (qLam "_law_made_out") ps' (own ++ imm) →
      OwnOff [475] ((475, tabObj ps) :: news) own imm → Q (.ref f) { s with heap := h', toks := tk }) :
    wpAny (model PROG w) A (call (.ref 480) [markV, ofV] []) Q E s := by
  refine wp_le 345 850 hA hh hd hu ?_
  walk_at "MY:enterC"
  intro g' L' h' tk' cells' FG' F' N' Y' B' X' T' l1
  obtain ⟨o1, o2, hE, d1, d2⟩ := CellsAre.two Y'; subst hE; clear Y'
  simp only [List.cons_append, List.nil_append] at N'
  (try dsimp only)
  have C2 : CodeHd g' 479 475 := codeHd_of_K X' (by kernel_rfl)
  have lt : @LT.lt Nat _ 475 L' := l1 _ List.mem_cons_self
  have ln : ∀ p ∈ news, @LT.lt Nat _ p.1 L' := fun p hp => l1 p (List.mem_cons_of_mem _ hp)
  (try dsimp only)
  (focus ((iterate 2 walk1)))
  refine kla_eval (by exact rfl) ?_
  refine kla_any (c := 479) imm (by k_asm) (by k_asm) (by k_asm) C2 (by exact rfl) (Upd1.tail (Nat.ne_of_gt (Nat.lt_of_lt_of_le lt (Nat.le_add_right L' 2))) (Upd1.tail (Nat.ne_of_gt (Nat.lt_of_lt_of_le lt (Nat.le_add_right L' 1))) (Upd1.head ne))) tq ?sub ?off (by exact rfl) ?_
  case sub => exact fun p hp => List.mem_cons_of_mem _ (List.mem_cons_of_mem _ (List.mem_cons_of_mem _ (sub p hp)))
  case off => exact fun p hp => ne p (sub p hp)
  intro f c' oc vs t ctv ps' h2 tk2 F2 N2 tq2 hd hv lf lcf kin
  (try dsimp only at N2)
  have ff : @LT.lt Nat _ L' f := Nat.lt_trans (Nat.lt_succ_self L') (lf (L' + 1, _) (by k_mem))
  (focus (walk1))
  rename News h₀ L _ _ => NN
  refine hQ f (L' + 1) (L' + 1 + 1) ps' ((f, kla_obj "<lambda>" (qLam "_law_made_out") lMadeOut.params lMadeOut.body lMadeOut.scope [("of", L' + 1 + 1), ("mark", L' + 1)] ((mg "__name__").getD .none) c' ctv) :: (c', oc) :: (L' + 1 + 1, o1) :: (L' + 1, o2) :: []) _ _ (by k_asm) (nSub NN ?_) ⟨_, c', ctv, oc, vs, t, List.mem_cons_self, List.mem_cons_of_mem _ List.mem_cons_self, hd, hv⟩ ⟨_, by k_mem, d2⟩ ⟨_, by k_mem, d1⟩ (tq2.mono ?_) ?_
  · refine List.forall_mem_cons.mpr ⟨by k_mem, ?_⟩
    (iterate 4 (refine List.forall_mem_cons.mpr ⟨by k_mem, ?_⟩))
    intro p hp
    replace hp : p ∈ news := hp
    walk_at "MY:tail"
  · refine List.forall_mem_cons.mpr ⟨List.mem_cons_of_mem _ List.mem_cons_self, ?_⟩
    intro p hp
    exact List.mem_append_right _ hp
  · refine List.forall_mem_cons.mpr ⟨?_, List.forall_mem_cons.mpr ⟨?_, ?_⟩⟩
    · refine ⟨?_, .inl (List.forall_mem_cons.mpr ⟨Nat.lt_trans lt ff, fun q hq => Nat.lt_trans (ln q hq) ff⟩)⟩
      rw [List.mem_singleton]; exact Nat.ne_of_gt (Nat.lt_trans lt ff)
    · rcases kin with k | k
      · have k1 : @LT.lt Nat _ L' c' := Nat.lt_trans (Nat.lt_succ_self L') (k (L' + 1, _) (by k_mem))
        refine ⟨?_, .inl (List.forall_mem_cons.mpr ⟨Nat.lt_trans lt k1, fun q hq => Nat.lt_trans (ln q hq) k1⟩)⟩
        rw [List.mem_singleton]; exact Nat.ne_of_gt (Nat.lt_trans lt k1)
      · refine ⟨?_, .inr k⟩
        rw [List.mem_singleton]; exact ne _ (sub _ k)
    · intro p hp
      have k1 : @LT.lt Nat _ L' p.1 := by
        simp only [List.mem_cons, List.not_mem_nil, or_false] at hp
        rcases hp with rfl | rfl
        · exact Nat.lt_succ_of_lt (Nat.lt_succ_self L')
        · exact Nat.lt_succ_self L'
      refine ⟨?_, .inl (List.forall_mem_cons.mpr ⟨Nat.lt_trans lt k1, fun q hq => Nat.lt_trans (ln q hq) k1⟩)⟩
      rw [List.mem_singleton]; exact Nat.ne_of_gt (Nat.lt_trans lt k1)
end
end
example {M : Model} {A : Around} {E Q : Value → Shared → Prop} {s : Shared} (h : wpAny M A (pure .none) Q E s) : wpAny M A (pure .none) Q E s := by
  w_top off
  first
    | (walk1; fail)
    | exact h
section
local macro_rules | `(tactic| k_lt $h:ident) => `(tactic| (replace $h := allLt_of $h; simp only [AllLt, and_true] at $h:ident))
local macro_rules | `(tactic| walk_at "MY:mem") => `(tactic| first | exact List.mem_cons_self | (refine' List.mem_cons_of_mem _ ?_; walk_at "MY:mem") | assumption | ktr_member)
section
variable {w : World} {A₀ A : Around} {base h₀ : Heap} {env : Env} {outer : List Env} {L : Addr} {m mg mb : Str → Option Value} {p : Program} {loose : List Str} {mean : ExcName → Option Value} {s : Shared} {Q E : Value → Shared → Prop} {news l : List (Addr × Obj)}
theorem spec_regIn_c {C : Conv} {od : Obj} {pv fv : Value} {xs : List Value} {n : Nat} {R : Result → Shared → Prop}
    (hA : A.frames = some (env :: outer)) (hh : A.handled = none) (hd : A.depth ≤ 332) (hu : A.units ≤ 720) (hf : env.frame = some L) (hke : env.scope.kind = .function)
    (B : Below A₀ base outer h₀) (F : Fr h₀ L s.heap m) (X : (Mine.hd.heap_39 w.params).In h₀) (T : Top p loose mean mg mb h₀)
    (N : News h₀ L s.heap ((C.I.hp, W.listOf xs.toArray n) :: (C.I.dd, od) :: news)) (hod : od.IsDictOf (strKind PROG w) [])
    (ne1 : ∀ p ∈ news, p.1 ≠ C.I.hp) (ne2 : ∀ p ∈ news, p.1 ≠ C.I.dd) (ne3 : @Ne Nat C.I.hp C.I.dd) (hl : xs.length ≤ 100)
    (hC : ConvAt w news C)
    (hQ : ∀ tup od' h' tk, Fr h₀ L h' m → News h₀ L h' ((tup, tupObj [pv, fv, .bool false, .bool false]) :: (C.I.hp, W.listOf (.ref tup :: xs).toArray (n + 1)) :: (C.I.dd, od') :: news) → (∀ q ∈ (C.I.hp, W.listOf xs.toArray n) :: (C.I.dd, od) :: news, @LT.lt Nat _ q.1 tup) →
      od'.IsDictOf (strKind PROG w) [] → R (.ok (.ret .none)) { s with heap := h', toks := tk }) :
    codeAny (model PROG w) A (.call (.ref 269) ⟨[.ref C.x, pv, fv], []⟩) R s := by
  refine code_le 332 720 hA hh hd hu ?_
  obtain ⟨⟨hobj, hdO, hdI, hfi⟩, ⟨v1, v2, hdfO⟩, ⟨v3, v4, hdfI⟩⟩ := hC
  obtain ⟨a1, a2, a3, a4, hdmsO⟩ := hdO.dms
  obtain ⟨a5, a6, a7, a8, hdmsI⟩ := hdI.dms
  have xms := hdI.ms
  have xfd := hdI.fd
  have e1 : @Ne Addr C.I.hp C.I.dd := ne3
  have e2 : @Ne Addr C.I.dms C.I.dd := ne2 _ hdmsI
  have e3 : @Ne Addr C.I.dfd C.I.dd := ne2 _ hdfI
  rcases hobj with ⟨dx, fb, om, ov, ua, pv, dv, i1, i2, hk', ho, hd0, hov⟩ | ⟨dx, pv, dv, i1, i2, hk', ho, hd0⟩
  all_goals (
    walk_at "MY:enter1"
    (try dsimp only)
    (focus ((iterate 23 walk1)))
    refine spec_rfl2 (ms := C.I.ms) (dms := C.I.dms) (dd := C.I.dd) (fd := C.I.fd) (dfd := C.I.dfd) (hp := C.I.hp) (bm := C.I.bm) (xs := xs) (by rfl) (by rfl) (Nat.le_of_ble_eq_true (by rfl)) (Nat.le_of_ble_eq_true (by rfl)) (by rfl) (by rfl) (by k_asm) (by k_asm) (by k_asm) (by k_asm) (by k_asm) hod (by walk_at "MY:upd2") hl (by k_mem) (by k_mem) (by k_mem) (by k_mem) (by k_mem) (by k_mem) (by k_ne) (by k_ne) (by k_ne) ?_
    intro tup od' h2 tk2 F2 N2 lt2 hod2
    (focus ((iterate 2 walk1)))
    rename News h₀ L _ _ => NN
    exact hQ tup od' _ _ (by k_asm) (nSub NN (by walk_at "MY:sub")) (fun q hq => lt2 q (List.mem_cons_of_mem _ (List.mem_cons_of_mem _ hq))) hod2)
theorem spec_regIn {C : Conv} {od : Obj} {pv fv : Value} {xs : List Value} {n : Nat}
    (hA : A.frames = some (env :: outer)) (hh : A.handled = none) (hd : A.depth ≤ 332) (hu : A.units ≤ 720) (hf : env.frame = some L) (hke : env.scope.kind = .function)
    (B : Below A₀ base outer h₀) (F : Fr h₀ L s.heap m) (X : (Mine.hd.heap_39 w.params).In h₀) (T : Top p loose mean mg mb h₀)
    (N : News h₀ L s.heap ((C.I.hp, W.listOf xs.toArray n) :: (C.I.dd, od) :: news)) (hod : od.IsDictOf (strKind PROG w) [])
    (ne1 : ∀ p ∈ news, p.1 ≠ C.I.hp) (ne2 : ∀ p ∈ news, p.1 ≠ C.I.dd) (ne3 : @Ne Nat C.I.hp C.I.dd) (hl : xs.length ≤ 100)
    (hC : ConvAt w news C)
    (hQ : ∀ tup od' h' tk, Fr h₀ L h' m → News h₀ L h' ((tup, tupObj [pv, fv, .bool false, .bool false]) :: (C.I.hp, W.listOf (.ref tup :: xs).toArray (n + 1)) :: (C.I.dd, od') :: news) → (∀ q ∈ (C.I.hp, W.listOf xs.toArray n) :: (C.I.dd, od) :: news, @LT.lt Nat _ q.1 tup) →
      od'.IsDictOf (strKind PROG w) [] → Q .none { s with heap := h', toks := tk }) :
    wpAny (model PROG w) A (call (.ref 269) [.ref C.x, pv, fv] []) Q E s :=
  wpAny_call (spec_regIn_c hA hh hd hu hf hke B F X T N hod ne1 ne2 ne3 hl hC hQ)
theorem spec_regOut_c {C : Conv} {od : Obj} {pv fv : Value} {xs : List Value} {n : Nat} {R : Result → Shared → Prop}
    (hA : A.frames = some (env :: outer)) (hh : A.handled = none) (hd : A.depth ≤ 332) (hu : A.units ≤ 720) (hf : env.frame = some L) (hke : env.scope.kind = .function)
    (B : Below A₀ base outer h₀) (F : Fr h₀ L s.heap m) (X : (Mine.hd.heap_39 w.params).In h₀) (T : Top p loose mean mg mb h₀)
    (N : News h₀ L s.heap ((C.O.hp, W.listOf xs.toArray n) :: (C.O.dd, od) :: news)) (hod : od.IsDictOf (strKind PROG w) [])
    (ne1 : ∀ p ∈ news, p.1 ≠ C.O.hp) (ne2 : ∀ p ∈ news, p.1 ≠ C.O.dd) (ne3 : @Ne Nat C.O.hp C.O.dd) (hl : xs.length ≤ 100)
    (hC : ConvAt w news C)
    (hQ : ∀ tup od' h' tk, Fr h₀ L h' m → News h₀ L h' ((tup, tupObj [pv, fv, .bool false, .bool false]) :: (C.O.hp, W.listOf (.ref tup :: xs).toArray (n + 1)) :: (C.O.dd, od') :: news) → (∀ q ∈ (C.O.hp, W.listOf xs.toArray n) :: (C.O.dd, od) :: news, @LT.lt Nat _ q.1 tup) →
      od'.IsDictOf (strKind PROG w) [] → R (.ok (.ret .none)) { s with heap := h', toks := tk }) :
    codeAny (model PROG w) A (.call (.ref 246) ⟨[.ref C.x, pv, fv], []⟩) R s := by
  refine code_le 332 720 hA hh hd hu ?_
  obtain ⟨⟨hobj, hdO, hdI, hfi⟩, ⟨v1, v2, hdfO⟩, ⟨v3, v4, hdfI⟩⟩ := hC
  obtain ⟨a1, a2, a3, a4, hdmsO⟩ := hdO.dms
  obtain ⟨a5, a6, a7, a8, hdmsI⟩ := hdI.dms
  have xms := hdO.ms
  have xfd := hdO.fd
  have e1 : @Ne Addr C.O.hp C.O.dd := ne3
  have e2 : @Ne Addr C.O.dms C.O.dd := ne2 _ hdmsO
  have e3 : @Ne Addr C.O.dfd C.O.dd := ne2 _ hdfO
  rcases hobj with ⟨dx, fb, om, ov, ua, pv, dv, i1, i2, hk', ho, hd0, hov⟩ | ⟨dx, pv, dv, i1, i2, hk', ho, hd0⟩
  all_goals (
    walk_at "MY:enter1"
    (try dsimp only)
    (focus ((iterate 23 walk1)))
    refine spec_rfl2 (ms := C.O.ms) (dms := C.O.dms) (dd := C.O.dd) (fd := C.O.fd) (dfd := C.O.dfd) (hp := C.O.hp) (bm := C.O.bm) (xs := xs) (by rfl) (by rfl) (Nat.le_of_ble_eq_true (by rfl)) (Nat.le_of_ble_eq_true (by rfl)) (by rfl) (by rfl) (by k_asm) (by k_asm) (by k_asm) (by k_asm) (by k_asm) hod (by walk_at "MY:upd2") hl (by k_mem) (by k_mem) (by k_mem) (by k_mem) (by k_mem) (by k_mem) (by k_ne) (by k_ne) (by k_ne) ?_
    intro tup od' h2 tk2 F2 N2 lt2 hod2
    (focus ((iterate 2 walk1)))
    rename News h₀ L _ _ => NN
    exact hQ tup od' _ _ (by k_asm) (nSub NN (by walk_at "MY:sub")) (fun q hq => lt2 q (List.mem_cons_of_mem _ (List.mem_cons_of_mem _ hq))) hod2)
theorem spec_regOut {C : Conv} {od : Obj} {pv fv : Value} {xs : List Value} {n : Nat}
    (hA : A.frames = some (env :: outer)) (hh : A.handled = none) (hd : A.depth ≤ 332) (hu : A.units ≤ 720) (hf : env.frame = some L) (hke : env.scope.kind = .function)
    (B : Below A₀ base outer h₀) (F : Fr h₀ L s.heap m) (X : (Mine.hd.heap_39 w.params).In h₀) (T : Top p loose mean mg mb h₀)
    (N : News h₀ L s.heap ((C.O.hp, W.listOf xs.toArray n) :: (C.O.dd, od) :: news)) (hod : od.IsDictOf (strKind PROG w) [])
    (ne1 : ∀ p ∈ news, p.1 ≠ C.O.hp) (ne2 : ∀ p ∈ news, p.1 ≠ C.O.dd) (ne3 : @Ne Nat C.O.hp C.O.dd) (hl : xs.length ≤ 100)
    (hC : ConvAt w news C)
    (hQ : ∀ tup od' h' tk, Fr h₀ L h' m → News h₀ L h' ((tup, tupObj [pv, fv, .bool false, .bool false]) :: (C.O.hp, W.listOf (.ref tup :: xs).toArray (n + 1)) :: (C.O.dd, od') :: news) → (∀ q ∈ (C.O.hp, W.listOf xs.toArray n) :: (C.O.dd, od) :: news, @LT.lt Nat _ q.1 tup) →
      od'.IsDictOf (strKind PROG w) [] → Q .none { s with heap := h', toks := tk }) :
    wpAny (model PROG w) A (call (.ref 246) [.ref C.x, pv, fv] []) Q E s :=
  wpAny_call (spec_regOut_c hA hh hd hu hf hke B F X T N hod ne1 ne2 ne3 hl hC hQ)
theorem spec_facIn_c {C : Conv} {od : Obj} {pv fv : Value} {xs : List Value} {n : Nat} {R : Result → Shared → Prop}
    (hA : A.frames = some (env :: outer)) (hh : A.handled = none) (hd : A.depth ≤ 332) (hu : A.units ≤ 720) (hf : env.frame = some L) (hke : env.scope.kind = .function)
    (B : Below A₀ base outer h₀) (F : Fr h₀ L s.heap m) (X : (Mine.hd.heap_39 w.params).In h₀) (T : Top p loose mean mg mb h₀)
    (N : News h₀ L s.heap ((C.I.hp, W.listOf xs.toArray n) :: (C.I.dd, od) :: news)) (hod : od.IsDictOf (strKind PROG w) [])
    (ne1 : ∀ p ∈ news, p.1 ≠ C.I.hp) (ne2 : ∀ p ∈ news, p.1 ≠ C.I.dd) (ne3 : @Ne Nat C.I.hp C.I.dd) (hl : xs.length ≤ 100)
    (hC : ConvAt w news C)
    (hQ : ∀ tup od' h' tk, Fr h₀ L h' m → News h₀ L h' ((tup, tupObj [pv, fv, .bool true, .bool false]) :: (C.I.hp, W.listOf (.ref tup :: xs).toArray (n + 1)) :: (C.I.dd, od') :: news) → (∀ q ∈ (C.I.hp, W.listOf xs.toArray n) :: (C.I.dd, od) :: news, @LT.lt Nat _ q.1 tup) →
      od'.IsDictOf (strKind PROG w) [] → R (.ok (.ret fv)) { s with heap := h', toks := tk }) :
    codeAny (model PROG w) A (.call (.ref 277) ⟨[.ref C.x, pv, fv], []⟩) R s := by
  refine code_le 332 720 hA hh hd hu ?_
  obtain ⟨⟨hobj, hdO, hdI, hfi⟩, ⟨v1, v2, hdfO⟩, ⟨v3, v4, hdfI⟩⟩ := hC
  obtain ⟨a1, a2, a3, a4, hdmsO⟩ := hdO.dms
  obtain ⟨a5, a6, a7, a8, hdmsI⟩ := hdI.dms
  have xms := hdI.ms
  have xfd := hdI.fd
  have e1 : @Ne Addr C.I.hp C.I.dd := ne3
  have e2 : @Ne Addr C.I.dms C.I.dd := ne2 _ hdmsI
  have e3 : @Ne Addr C.I.dfd C.I.dd := ne2 _ hdfI
  rcases hobj with ⟨dx, fb, om, ov, ua, pv, dv, i1, i2, hk', ho, hd0, hov⟩ | ⟨dx, pv, dv, i1, i2, hk', ho, hd0⟩
  all_goals (
    walk_at "MY:enter1"
    (try dsimp only)
    (focus ((iterate 25 walk1)))
    refine spec_rfl3 (ms := C.I.ms) (dms := C.I.dms) (dd := C.I.dd) (fd := C.I.fd) (dfd := C.I.dfd) (hp := C.I.hp) (bm := C.I.bm) (xs := xs) (by rfl) (by rfl) (Nat.le_of_ble_eq_true (by rfl)) (Nat.le_of_ble_eq_true (by rfl)) (by rfl) (by rfl) (by k_asm) (by k_asm) (by k_asm) (by k_asm) (by k_asm) hod (by walk_at "MY:upd2") hl (by k_mem) (by k_mem) (by k_mem) (by k_mem) (by k_mem) (by k_mem) (by k_ne) (by k_ne) (by k_ne) ?_
    intro tup od' h2 tk2 F2 N2 lt2 hod2
    (focus ((iterate 4 walk1)))
    rename News h₀ L _ _ => NN
    exact hQ tup od' _ _ (by k_asm) (nSub NN (by walk_at "MY:sub")) (fun q hq => lt2 q (List.mem_cons_of_mem _ (List.mem_cons_of_mem _ hq))) hod2)
theorem spec_facIn {C : Conv} {od : Obj} {pv fv : Value} {xs : List Value} {n : Nat}
    (hA : A.frames = some (env :: outer)) (hh : A.handled = none) (hd : A.depth ≤ 332) (hu : A.units ≤ 720) (hf : env.frame = some L) (hke : env.scope.kind = .function)
    (B : Below A₀ base outer h₀) (F : Fr h₀ L s.heap m) (X : (Mine.hd.heap_39 w.params).In h₀) (T : Top p loose mean mg mb h₀)
    (N : News h₀ L s.heap ((C.I.hp, W.listOf xs.toArray n) :: (C.I.dd, od) :: news)) (hod : od.IsDictOf (strKind PROG w) [])
    (ne1 : ∀ p ∈ news, p.1 ≠ C.I.hp) (ne2 : ∀ p ∈ news, p.1 ≠ C.I.dd) (ne3 : @Ne Nat C.I.hp C.I.dd) (hl : xs.length ≤ 100)
    (hC : ConvAt w news C)
    (hQ : ∀ tup od' h' tk, Fr h₀ L h' m → News h₀ L h' ((tup, tupObj [pv, fv, .bool true, .bool false]) :: (C.I.hp, W.listOf (.ref tup :: xs).toArray (n + 1)) :: (C.I.dd, od') :: news) → (∀ q ∈ (C.I.hp, W.listOf xs.toArray n) :: (C.I.dd, od) :: news, @LT.lt Nat _ q.1 tup) →
      od'.IsDictOf (strKind PROG w) [] → Q fv { s with heap := h', toks := tk }) :
    wpAny (model PROG w) A (call (.ref 277) [.ref C.x, pv, fv] []) Q E s :=
  wpAny_call (spec_facIn_c hA hh hd hu hf hke B F X T N hod ne1 ne2 ne3 hl hC hQ)
theorem spec_facOut_c {C : Conv} {od : Obj} {pv fv : Value} {xs : List Value} {n : Nat} {R : Result → Shared → Prop}
    (hA : A.frames = some (env :: outer)) (hh : A.handled = none) (hd : A.depth ≤ 332) (hu : A.units ≤ 720) (hf : env.frame = some L) (hke : env.scope.kind = .function)
    (B : Below A₀ base outer h₀) (F : Fr h₀ L s.heap m) (X : (Mine.hd.heap_39 w.params).In h₀) (T : Top p loose mean mg mb h₀)
    (N : News h₀ L s.heap ((C.O.hp, W.listOf xs.toArray n) :: (C.O.dd, od) :: news)) (hod : od.IsDictOf (strKind PROG w) [])
    (ne1 : ∀ p ∈ news, p.1 ≠ C.O.hp) (ne2 : ∀ p ∈ news, p.1 ≠ C.O.dd) (ne3 : @Ne Nat C.O.hp C.O.dd) (hl : xs.length ≤ 100)
    (hC : ConvAt w news C)
    (hQ : ∀ tup od' h' tk, Fr h₀ L h' m → News h₀ L h' ((tup, tupObj [pv, fv, .bool true, .bool false]) :: (C.O.hp, W.listOf (.ref tup :: xs).toArray (n + 1)) :: (C.O.dd, od') :: news) → (∀ q ∈ (C.O.hp, W.listOf xs.toArray n) :: (C.O.dd, od) :: news, @LT.lt Nat _ q.1 tup) →
      od'.IsDictOf (strKind PROG w) [] → R (.ok (.ret fv)) { s with heap := h', toks := tk }) :
    codeAny (model PROG w) A (.call (.ref 254) ⟨[.ref C.x, pv, fv], []⟩) R s := by
  refine code_le 332 720 hA hh hd hu ?_
  obtain ⟨⟨hobj, hdO, hdI, hfi⟩, ⟨v1, v2, hdfO⟩, ⟨v3, v4, hdfI⟩⟩ := hC
  obtain ⟨a1, a2, a3, a4, hdmsO⟩ := hdO.dms
  obtain ⟨a5, a6, a7, a8, hdmsI⟩ := hdI.dms
  have xms := hdO.ms
  have xfd := hdO.fd
  have e1 : @Ne Addr C.O.hp C.O.dd := ne3
  have e2 : @Ne Addr C.O.dms C.O.dd := ne2 _ hdmsO
  have e3 : @Ne Addr C.O.dfd C.O.dd := ne2 _ hdfO
  rcases hobj with ⟨dx, fb, om, ov, ua, pv, dv, i1, i2, hk', ho, hd0, hov⟩ | ⟨dx, pv, dv, i1, i2, hk', ho, hd0⟩
  all_goals (
    walk_at "MY:enter1"
    (try dsimp only)
    (focus ((iterate 25 walk1)))
    refine spec_rfl3 (ms := C.O.ms) (dms := C.O.dms) (dd := C.O.dd) (fd := C.O.fd) (dfd := C.O.dfd) (hp := C.O.hp) (bm := C.O.bm) (xs := xs) (by rfl) (by rfl) (Nat.le_of_ble_eq_true (by rfl)) (Nat.le_of_ble_eq_true (by rfl)) (by rfl) (by rfl) (by k_asm) (by k_asm) (by k_asm) (by k_asm) (by k_asm) hod (by walk_at "MY:upd2") hl (by k_mem) (by k_mem) (by k_mem) (by k_mem) (by k_mem) (by k_mem) (by k_ne) (by k_ne) (by k_ne) ?_
    intro tup od' h2 tk2 F2 N2 lt2 hod2
    (focus ((iterate 4 walk1)))
    rename News h₀ L _ _ => NN
    exact hQ tup od' _ _ (by k_asm) (nSub NN (by walk_at "MY:sub")) (fun q hq => lt2 q (List.mem_cons_of_mem _ (List.mem_cons_of_mem _ hq))) hod2)
theorem spec_facOut {C : Conv} {od : Obj} {pv fv : Value} {xs : List Value} {n : Nat}
    (hA : A.frames = some (env :: outer)) (hh : A.handled = none) (hd : A.depth ≤ 332) (hu : A.units ≤ 720) (hf : env.frame = some L) (hke : env.scope.kind = .function)
    (B : Below A₀ base outer h₀) (F : Fr h₀ L s.heap m) (X : (Mine.hd.heap_39 w.params).In h₀) (T : Top p loose mean mg mb h₀)
    (N : News h₀ L s.heap ((C.O.hp, W.listOf xs.toArray n) :: (C.O.dd, od) :: news)) (hod : od.IsDictOf (strKind PROG w) [])
    (ne1 : ∀ p ∈ news, p.1 ≠ C.O.hp) (ne2 : ∀ p ∈ news, p.1 ≠ C.O.dd) (ne3 : @Ne Nat C.O.hp C.O.dd) (hl : xs.length ≤ 100)
    (hC : ConvAt w news C)
    (hQ : ∀ tup od' h' tk, Fr h₀ L h' m → News h₀ L h' ((tup, tupObj [pv, fv, .bool true, .bool false]) :: (C.O.hp, W.listOf (.ref tup :: xs).toArray (n + 1)) :: (C.O.dd, od') :: news) → (∀ q ∈ (C.O.hp, W.listOf xs.toArray n) :: (C.O.dd, od) :: news, @LT.lt Nat _ q.1 tup) →
      od'.IsDictOf (strKind PROG w) [] → Q fv { s with heap := h', toks := tk }) :
    wpAny (model PROG w) A (call (.ref 254) [.ref C.x, pv, fv] []) Q E s :=
  wpAny_call (spec_facOut_c hA hh hd hu hf hke B F X T N hod ne1 ne2 ne3 hl hC hQ)
end
end
example {M : Model} {A : Around} {E Q : Value → Shared → Prop} {s : Shared} (h : wpAny M A (pure .none) Q E s) : wpAny M A (pure .none) Q E s := by
  w_top off
  first
    | (walk1; fail)
    | exact h
section
local macro_rules | `(tactic| walk_at "MY:mem") => `(tactic| first | exact List.mem_cons_self | (refine' List.mem_cons_of_mem _ ?_; walk_at "MY:mem") | assumption | ktr_member)
section
variable {w : World} {A₀ A : Around} {base h₀ : Heap} {env : Env} {outer : List Env} {L : Addr} {m mg mb : Str → Option Value} {p : Program} {loose : List Str} {mean : ExcName → Option Value} {s : Shared} {Q E : Value → Shared → Prop} {news l : List (Addr × Obj)}
theorem spec_facInC {C : Conv} {od : Obj} {pv fv : Value} {xs : List Value} {n : Nat}
    (hA : A.frames = some (env :: outer)) (hh : A.handled = none) (hd : A.depth ≤ 326) (hu : A.units ≤ 660) (hf : env.frame = some L) (hke : env.scope.kind = .function)
    (B : Below A₀ base outer h₀) (F : Fr h₀ L s.heap m) (X : (Mine.hd.heap_39 w.params).In h₀) (T : Top p loose mean mg mb h₀)
    (N : News h₀ L s.heap ((C.I.hp, W.listOf xs.toArray n) :: (C.I.dd, od) :: news)) (hod : od.IsDictOf (strKind PROG w) [])
    (ne1 : ∀ p ∈ news, p.1 ≠ C.I.hp) (ne2 : ∀ p ∈ news, p.1 ≠ C.I.dd) (ne3 : @Ne Nat C.I.hp C.I.dd) (hl : xs.length ≤ 100)
    (hC : ConvAt w news C) (hk : C.k = true)
    (hQ : ∀ tup od' h' tk, Fr h₀ L h' m → News h₀ L h' ((tup, tupObj [pv, fv, .bool true, .bool false]) :: (C.I.hp, W.listOf (.ref tup :: xs).toArray (n + 1)) :: (C.I.dd, od') :: news) → (∀ q ∈ (C.I.hp, W.listOf xs.toArray n) :: (C.I.dd, od) :: news, @LT.lt Nat _ q.1 tup) →
      od'.IsDictOf (strKind PROG w) [] → Q fv { s with heap := h', toks := tk }) :
    wpAny (model PROG w) A (call (.ref 384) [.ref C.x, pv, fv] []) Q E s := by
  refine wp_le 326 660 hA hh hd hu ?_
  have hobj := hC.obj
  rcases hobj with ⟨dx, fb, om, ov, ua, pv', dv, i1, i2, hk', ho, hd0, hov⟩ | ⟨_, _, _, _, _, hk', _, _⟩
  rotate_left
  · rw [hk] at hk'; cases hk'
  refine wpAny_call ?_
  k_dflt (refine' ks_code_super ?k1 ?k2 ?k3 ?k4 ?k5 ?kA ?kF ?kK ?k6 ?k7 ?k8 ?k9 ?kB ?_ ?c1 ?c2 ?c3 ?c4)
  (case kA => exact rfl); (case kF => first | exact rfl | assumption); (case kK => first | exact rfl | assumption); (case k1 => k_asm); (case k2 => k_asm); (case k3 => k_asm); (case k4 => k_asm); (case k5 => k_asm); (case k6 => k_is); (case k7 => k_is); (case k8 => k_room)
  (case k9 => first | exact BindsTo.of_eq rfl | exact binds_K (by k_in) rfl (by k_is) rfl rfl rfl)
  (case kB => exact locs rfl); (case c1 => decide); (case c2 => exact rfl); (case c3 => exact rfl); (case c4 => exact rfl)
  intro g' L' h' FG' F' N' B' X' T' l1
  replace l1 := allLt_of l1
  simp only [AllLt] at l1
  (try dsimp only)
  (focus ((iterate 11 walk1)))
  (focus (walk1))
  k_dflt (refine' call_meth ?k1 ?k2 ?_; (case k1 => k_asm); (case k2 => k_mem))
  have N1 := (by with_reducible assumption : News g' L' _ (_ :: _ :: (C.I.hp, _) :: (C.I.dd, _) :: news))
  have N2 := news_rot N1
  have hcd : od.cls = .type "dict" := by obtain ⟨es, ep, he, _⟩ := hod; exact he.1
  have ap1 := nApart N1 List.mem_cons_self (List.mem_cons_of_mem _ (List.mem_cons_of_mem _ List.mem_cons_self)) (by intro e; exact absurd (Value.type.inj e) (by decide))
  have ap2 := nApart N1 List.mem_cons_self (List.mem_cons_of_mem _ (List.mem_cons_of_mem _ (List.mem_cons_of_mem _ List.mem_cons_self))) (by rw [hcd]; intro e; exact absurd (Value.type.inj e) (by decide))
  have ap3 := nApart N1 (List.mem_cons_of_mem _ List.mem_cons_self) (List.mem_cons_of_mem _ (List.mem_cons_of_mem _ List.mem_cons_self)) (by intro e; exact absurd (Value.type.inj e) (by decide))
  have ap4 := nApart N1 (List.mem_cons_of_mem _ List.mem_cons_self) (List.mem_cons_of_mem _ (List.mem_cons_of_mem _ (List.mem_cons_of_mem _ List.mem_cons_self))) (by rw [hcd]; intro e; exact absurd (Value.type.inj e) (by decide))
  refine spec_facIn_c (C := C) (pv := pv) (fv := fv) (by rfl) (by rfl) (Nat.le_of_ble_eq_true (by rfl)) (Nat.le_of_ble_eq_true (by rfl)) (by rfl) (by rfl) (by k_asm) (by k_asm) (by k_asm) (by k_asm) (by k_asm) hod (List.forall_mem_cons.mpr ⟨ap1, List.forall_mem_cons.mpr ⟨ap3, ne1⟩⟩) (List.forall_mem_cons.mpr ⟨ap2, List.forall_mem_cons.mpr ⟨ap4, ne2⟩⟩) ne3 hl (hC.mono fun p hp => List.mem_cons_of_mem _ (List.mem_cons_of_mem _ hp)) ?_
  clear N1 ap1 ap2 ap3 ap4
  intro tup od' h2 tk2 F2 N3 lt2 hod2
  (focus (walk1))
  rename News h₀ L _ _ => NN
  refine hQ tup od' _ _ (by k_asm) (nSub NN ?_) (fun q hq => lt2 q ?_) hod2
  · refine List.forall_mem_cons.mpr ⟨by k_mem, List.forall_mem_cons.mpr ⟨by k_mem, List.forall_mem_cons.mpr ⟨by k_mem, ?_⟩⟩⟩
    intro p hp
    walk_at "MY:tail"
  · revert q
    refine List.forall_mem_cons.mpr ⟨by k_mem, List.forall_mem_cons.mpr ⟨by k_mem, ?_⟩⟩
    intro p hp
    walk_at "MY:tail"
theorem spec_facOutC {C : Conv} {od : Obj} {pv fv : Value} {xs : List Value} {n : Nat}
    (hA : A.frames = some (env :: outer)) (hh : A.handled = none) (hd : A.depth ≤ 326) (hu : A.units ≤ 660) (hf : env.frame = some L) (hke : env.scope.kind = .function)
    (B : Below A₀ base outer h₀) (F : Fr h₀ L s.heap m) (X : (Mine.hd.heap_39 w.params).In h₀) (T : Top p loose mean mg mb h₀)
    (N : News h₀ L s.heap ((C.O.hp, W.listOf xs.toArray n) :: (C.O.dd, od) :: news)) (hod : od.IsDictOf (strKind PROG w) [])
    (ne1 : ∀ p ∈ news, p.1 ≠ C.O.hp) (ne2 : ∀ p ∈ news, p.1 ≠ C.O.dd) (ne3 : @Ne Nat C.O.hp C.O.dd) (hl : xs.length ≤ 100)
    (hC : ConvAt w news C) (hk : C.k = true)
    (hQ : ∀ tup od' h' tk, Fr h₀ L h' m → News h₀ L h' ((tup, tupObj [pv, fv, .bool true, .bool false]) :: (C.O.hp, W.listOf (.ref tup :: xs).toArray (n + 1)) :: (C.O.dd, od') :: news) → (∀ q ∈ (C.O.hp, W.listOf xs.toArray n) :: (C.O.dd, od) :: news, @LT.lt Nat _ q.1 tup) →
      od'.IsDictOf (strKind PROG w) [] → Q fv { s with heap := h', toks := tk }) :
    wpAny (model PROG w) A (call (.ref 375) [.ref C.x, pv, fv] []) Q E s := by
  refine wp_le 326 660 hA hh hd hu ?_
  have hobj := hC.obj
  rcases hobj with ⟨dx, fb, om, ov, ua, pv', dv, i1, i2, hk', ho, hd0, hov⟩ | ⟨_, _, _, _, _, hk', _, _⟩
  rotate_left
  · rw [hk] at hk'; cases hk'
  refine wpAny_call ?_
  k_dflt (refine' ks_code_super ?k1 ?k2 ?k3 ?k4 ?k5 ?kA ?kF ?kK ?k6 ?k7 ?k8 ?k9 ?kB ?_ ?c1 ?c2 ?c3 ?c4)
  (case kA => exact rfl); (case kF => first | exact rfl | assumption); (case kK => first | exact rfl | assumption); (case k1 => k_asm); (case k2 => k_asm); (case k3 => k_asm); (case k4 => k_asm); (case k5 => k_asm); (case k6 => k_is); (case k7 => k_is); (case k8 => k_room)
  (case k9 => first | exact BindsTo.of_eq rfl | exact binds_K (by k_in) rfl (by k_is) rfl rfl rfl)
  (case kB => exact locs rfl); (case c1 => decide); (case c2 => exact rfl); (case c3 => exact rfl); (case c4 => exact rfl)
  intro g' L' h' FG' F' N' B' X' T' l1
  replace l1 := allLt_of l1
  simp only [AllLt] at l1
  (try dsimp only)
  (focus ((iterate 11 walk1)))
  (focus (walk1))
  k_dflt (refine' call_meth ?k1 ?k2 ?_; (case k1 => k_asm); (case k2 => k_mem))
  have N1 := (by with_reducible assumption : News g' L' _ (_ :: _ :: (C.O.hp, _) :: (C.O.dd, _) :: news))
  have N2 := news_rot N1
  have hcd : od.cls = .type "dict" := by obtain ⟨es, ep, he, _⟩ := hod; exact he.1
  have ap1 := nApart N1 List.mem_cons_self (List.mem_cons_of_mem _ (List.mem_cons_of_mem _ List.mem_cons_self)) (by intro e; exact absurd (Value.type.inj e) (by decide))
  have ap2 := nApart N1 List.mem_cons_self (List.mem_cons_of_mem _ (List.mem_cons_of_mem _ (List.mem_cons_of_mem _ List.mem_cons_self))) (by rw [hcd]; intro e; exact absurd (Value.type.inj e) (by decide))
  have ap3 := nApart N1 (List.mem_cons_of_mem _ List.mem_cons_self) (List.mem_cons_of_mem _ (List.mem_cons_of_mem _ List.mem_cons_self)) (by intro e; exact absurd (Value.type.inj e) (by decide))
  have ap4 := nApart N1 (List.mem_cons_of_mem _ List.mem_cons_self) (List.mem_cons_of_mem _ (List.mem_cons_of_mem _ (List.mem_cons_of_mem _ List.mem_cons_self))) (by rw [hcd]; intro e; exact absurd (Value.type.inj e) (by decide))
  refine spec_facOut_c (C := C) (pv := pv) (fv := fv) (by rfl) (by rfl) (Nat.le_of_ble_eq_true (by rfl)) (Nat.le_of_ble_eq_true (by rfl)) (by rfl) (by rfl) (by k_asm) (by k_asm) (by k_asm) (by k_asm) (by k_asm) hod (List.forall_mem_cons.mpr ⟨ap1, List.forall_mem_cons.mpr ⟨ap3, ne1⟩⟩) (List.forall_mem_cons.mpr ⟨ap2, List.forall_mem_cons.mpr ⟨ap4, ne2⟩⟩) ne3 hl (hC.mono fun p hp => List.mem_cons_of_mem _ (List.mem_cons_of_mem _ hp)) ?_
  clear N1 ap1 ap2 ap3 ap4
  intro tup od' h2 tk2 F2 N3 lt2 hod2
  (focus (walk1))
  rename News h₀ L _ _ => NN
  refine hQ tup od' _ _ (by k_asm) (nSub NN ?_) (fun q hq => lt2 q ?_) hod2
  · refine List.forall_mem_cons.mpr ⟨by k_mem, List.forall_mem_cons.mpr ⟨by k_mem, List.forall_mem_cons.mpr ⟨by k_mem, ?_⟩⟩⟩
    intro p hp
    walk_at "MY:tail"
  · revert q
    refine List.forall_mem_cons.mpr ⟨by k_mem, List.forall_mem_cons.mpr ⟨by k_mem, ?_⟩⟩
    intro p hp
    walk_at "MY:tail"
end
end
example {M : Model} {A : Around} {E Q : Value → Shared → Prop} {s : Shared} (h : wpAny M A (pure .none) Q E s) : wpAny M A (pure .none) Q E s := by
  w_top off
  first
    | (walk1; fail)
    | exact h
section
local macro_rules | `(tactic| walk_at "MY:mem") => `(tactic| first | exact List.mem_cons_self | (refine' List.mem_cons_of_mem _ ?_; walk_at "MY:mem") | assumption | ktr_member)
local macro_rules | `(tactic| walk_at "MY:enterC") => `(tactic| (
  refine wpAny_call ?_
  k_dflt (refine' code_defC ?k1 ?k2 ?k3 ?k4 ?k5 ?kA ?kF ?kK ?k6 ?k7 ?k8 ?k9 ?kB ?kD ?_ ?c2 ?c3 ?c4)
  (case kA => exact rfl); (case kF => first | exact rfl | assumption); (case kK => first | exact rfl | assumption); (case k1 => k_asm); (case k2 => k_asm); (case k3 => k_asm); (case k4 => k_asm); (case k5 => k_asm); (case k6 => k_is); (case k7 => k_is); (case k8 => k_room)
  (case k9 => first | exact BindsTo.of_eq rfl | exact binds_K (by k_in) rfl (by k_is) rfl rfl rfl)
  (case kB => exact rfl); (case kD => decide +kernel); (case c2 => exact rfl); (case c3 => exact rfl); (case c4 => exact rfl)))
def lR : Nat → Lam
  | 0 => lR0
  | 1 => lR1
  | 2 => lR2
  | _ => lR3
/-- an entry of the handlers that the law has registered -/
def HookAt (l : List (Addr × Obj)) (way : Nat) (tup : Addr) (kv : Value) (mk : Value) : Prop :=
  ∃ f g cl cm, (tup, tupObj [.ref f, .ref g, .bool (Nat.ble 2 way), .bool false]) ∈ l ∧ LamAt l f (qLam "_law_is") lIs [("kind", cl)] ∧ CellAt l cl kv ∧ LamAt l g (qLam "_law_register") (lR way) [("mark", cm)] ∧ CellAt l cm mk
theorem HookAt.mono {l l' : List (Addr × Obj)} {way : Nat} {tup : Addr} {kv mk : Value} (h : HookAt l way tup kv mk) (k : ∀ p ∈ l, p ∈ l') : HookAt l' way tup kv mk :=
  let ⟨f, g, cl, cm, a, b, c, d, e⟩ := h; ⟨f, g, cl, cm, k _ a, b.mono k, c.mono k, d.mono k, e.mono k⟩

theorem news_56 {h₀ h : Heap} {L : Addr} {a b c d e f : Addr × Obj} {l : List (Addr × Obj)} (N : News h₀ L h (a :: b :: c :: d :: e :: f :: l)) : News h₀ L h (e :: f :: a :: b :: c :: d :: l) := nSub N fun p hp => by
  simp only [List.mem_cons] at hp ⊢
  rcases hp with h | h | h | h | h | h | h <;> simp only [h, true_or, or_true]
section
variable {w : World} {A₀ A : Around} {base h₀ : Heap} {env : Env} {outer : List Env} {L : Addr} {m mg mb : Str → Option Value} {p : Program} {loose : List Str} {mean : ExcName → Option Value} {s : Shared} {Q E : Value → Shared → Prop} {news l : List (Addr × Obj)}
theorem spec_reg0 {C : Conv} {imm : List (Addr × Obj)} {ps qs : Array Value} {od : Obj} {kv mk : Value} {xs : List Value} {n : Nat} {tw : Tok}
    (hA : A.frames = some (env :: outer)) (hh : A.handled = none) (hd : A.depth ≤ 322) (hu : A.units ≤ 620) (hf : env.frame = some L) (hke : env.scope.kind = .function)
    (B : Below A₀ base outer h₀) (F : Fr h₀ L s.heap m) (X : (Mine.hd.heap_39 w.params).In h₀) (T : Top p loose mean mg mb h₀)
    (N : News h₀ L s.heap ((454, tabObj ps) :: (482, tabObj qs) :: (C.I.hp, W.listOf xs.toArray n) :: (C.I.dd, od) :: news)) (hod : od.IsDictOf (strKind PROG w) [])
    (tq1 : TabQ (qLam "_law_is") ps imm) (tq2 : TabQ (qLam "_law_register") qs imm) (sub : ∀ p ∈ imm, p ∈ news)
    (ne : ∀ p ∈ news, p.1 ∉ ([454, 482, C.I.hp, C.I.dd] : List Addr)) (nhd : @Ne Nat C.I.hp C.I.dd) (n1 : @Ne Nat C.I.hp 454) (n2 : @Ne Nat C.I.dd 454) (n3 : @Ne Nat C.I.hp 482) (n4 : @Ne Nat C.I.dd 482) (hl : xs.length ≤ 100)
    (hC : ConvAt w news C)
    (hQ : ∀ tup od' ps' qs' own h' tk, Fr h₀ L h' m → News h₀ L h' ((454, tabObj ps') :: (482, tabObj qs') :: (C.I.hp, W.listOf (.ref tup :: xs).toArray (n + 1)) :: (C.I.dd, od') :: (own ++ news)) → HookAt own 0 tup kv mk →
      TabQ (qLam "_law_is") ps' (own ++ imm) → TabQ (qLam "_law_register") qs' (own ++ imm) → OwnOff [454, 482, C.I.hp, C.I.dd] ((454, tabObj ps) :: (482, tabObj qs) :: (C.I.hp, W.listOf xs.toArray n) :: (C.I.dd, od) :: news) own imm →
      od'.IsDictOf (strKind PROG w) [] → Q .none { s with heap := h', toks := tk }) :
    wpAny (model PROG w) A (call (.ref 487) [.ref C.x, .int 0 tw, kv, mk] []) Q E s := by
  refine wp_le 322 620 hA hh hd hu ?_
  have off : ∀ p ∈ news, p.1 ≠ 454 ∧ p.1 ≠ 482 ∧ p.1 ≠ C.I.hp ∧ p.1 ≠ C.I.dd := fun p hp => by
    have h := ne p hp
    simp only [List.mem_cons, List.not_mem_nil, or_false, not_or] at h
    exact h
  have hobj := hC.obj
  rcases hobj with ⟨dx, fb, om, ov, ua, pv, dv, i1, i2, hk', ho, hd0, hov⟩ | ⟨dx, pv, dv, i1, i2, hk', ho, hd0⟩
  all_goals (
    walk_at "MY:enterC"
    intro g' L' h' tk' cells' FG' F' N' Y' B' X' T' l1
    obtain ⟨o1, hE, d1⟩ := CellsAre.one Y'; subst hE; clear Y'
    simp only [List.cons_append, List.nil_append] at N'
    have C2 : CodeHd g' 486 482 := codeHd_of_K X' (by kernel_rfl)
    have la : @LT.lt Nat _ 454 L' := l1 (454, _) (by k_mem)
    have lb : @LT.lt Nat _ 482 L' := l1 (482, _) (by k_mem)
    have lc : @LT.lt Nat _ C.I.hp L' := l1 (C.I.hp, _) (by k_mem)
    have ld : @LT.lt Nat _ C.I.dd L' := l1 (C.I.dd, _) (by k_mem)
    have ln : ∀ p ∈ news, @LT.lt Nat _ p.1 L' := fun p hp => l1 p (by walk_at "MY:tail")
    clear l1
    (try dsimp only)
    (focus ((iterate 23 walk1)))
    have N2 : News g' L' h' ((454, tabObj ps) :: (482, tabObj qs) :: (C.I.hp, W.listOf xs.toArray n) :: (C.I.dd, od) :: (L' + 1, o1) :: news) := nSub N' (by walk_at "MY:sub")
    clear N'
    refine spec_is (imm := imm) (s := { s with heap := h', toks := _ }) (by rfl) (by rfl) (Nat.le_of_ble_eq_true (by rfl)) (Nat.le_of_ble_eq_true (by rfl)) (by rfl) (by rfl) (by k_asm) (by k_asm) (by k_asm) (by k_asm) N2 tq1 (fun p hp => List.mem_cons_of_mem _ (List.mem_cons_of_mem _ (List.mem_cons_of_mem _ (List.mem_cons_of_mem _ (sub p hp))))) ?ne0 ?_
    case ne0 =>
      refine List.forall_mem_cons.mpr ⟨neN (by dsimp only; decide), List.forall_mem_cons.mpr ⟨n1, List.forall_mem_cons.mpr ⟨n2, List.forall_mem_cons.mpr ⟨neN (by dsimp only; omega), fun p hp => (off p hp).1⟩⟩⟩⟩
    intro f cl ps' ownA h2 tk2 F2 N3 lamA cellA tqA offA
    (try dsimp only)
    have old : ∀ p ∈ ownA, (@LT.lt Nat _ L' p.1 ∨ p ∈ imm) := fun p hp => (offA p hp).2.imp (fun h => Nat.lt_trans (Nat.lt_succ_self L') (h (L' + 1, o1) (by k_mem))) id
    have oA : ∀ p ∈ ownA, p.1 ≠ 454 ∧ p.1 ≠ 482 ∧ p.1 ≠ C.I.hp ∧ p.1 ≠ C.I.dd := fun p hp => by
      rcases old p hp with h | h
      · exact ⟨neN (by omega), neN (by omega), neN (by omega), neN (by omega)⟩
      · exact off p (sub p h)
    clear offA
    have N4 : News g' L' h2 ((482, tabObj qs) :: (454, tabObj ps') :: (C.I.hp, W.listOf xs.toArray n) :: (C.I.dd, od) :: (L' + 1, o1) :: (ownA ++ news)) := nSub N3 (fun p hp => by
      simp only [List.mem_cons, List.mem_append] at hp ⊢
      rcases hp with h | h | h | h | h | h | h <;> simp only [h, true_or, or_true])
    clear N3
    have z4 : ∀ p ∈ (454, tabObj ps') :: (C.I.hp, W.listOf xs.toArray n) :: (C.I.dd, od) :: (L' + 1, o1) :: (ownA ++ news), p.1 ≠ 482 := by
      refine List.forall_mem_cons.mpr ⟨neN (by dsimp only; decide), List.forall_mem_cons.mpr ⟨n3, List.forall_mem_cons.mpr ⟨n4, List.forall_mem_cons.mpr ⟨neN (by dsimp only; omega), fun p hp => ?_⟩⟩⟩⟩
      exact (List.mem_append.mp hp).elim (fun h => (oA p h).2.1) fun h => (off p h).2.1
    (focus (walk1))
    refine kla_eval (by exact rfl) ?_
    refine kla_any (c := 486) imm (by k_asm) (by k_asm) (by k_asm) C2 (by exact rfl) (Upd1.head z4) tq2 ?sub2 ?off2 (by exact rfl) ?_
    case sub2 => exact fun p hp => List.mem_cons_of_mem _ (List.mem_cons_of_mem _ (List.mem_cons_of_mem _ (List.mem_cons_of_mem _ (List.mem_cons_of_mem _ (List.mem_append_right _ (sub p hp))))))
    case off2 => exact fun p hp => (off p (sub p hp)).2.1
    intro g2 c2 oc2 vs2 t2 ctv2 qs' h3 tk3 F3 N5 tq3 hd3 hv3 lf2 lcf2 kin2
    (try dsimp only at N5)
    have lg : @LT.lt Nat _ L' g2 := Nat.lt_trans (Nat.lt_succ_self L') (lf2 (L' + 1, o1) (by k_mem))
    have kc : @LT.lt Nat _ L' c2 ∨ (c2, oc2) ∈ imm := kin2.imp (fun h => Nat.lt_trans (Nat.lt_succ_self L') (h (L' + 1, o1) (by k_mem))) id
    have oc : c2 ≠ 454 ∧ c2 ≠ 482 ∧ c2 ≠ C.I.hp ∧ c2 ≠ C.I.dd := by
      rcases kc with h | h
      · exact ⟨neN (by omega), neN (by omega), neN (by omega), neN (by omega)⟩
      · exact off _ (sub _ h)
    clear lf2 lcf2 kin2
    have N6 := news_56 N5
    clear N5
    have z1 : ∀ p ∈ (g2, kla_obj "<lambda>" (qLam "_law_register") (lR 0).params (lR 0).body (lR 0).scope [("mark", L' + 1)] ((mg "__name__").getD .none) c2 ctv2) :: (c2, oc2) :: (482, tabObj qs') :: (454, tabObj ps') :: (L' + 1, o1) :: (ownA ++ news), p.1 ≠ C.I.hp := by
      refine List.forall_mem_cons.mpr ⟨neN (by dsimp only; omega), List.forall_mem_cons.mpr ⟨oc.2.2.1, List.forall_mem_cons.mpr ⟨Ne.symm n3, List.forall_mem_cons.mpr ⟨Ne.symm n1, List.forall_mem_cons.mpr ⟨neN (by dsimp only; omega), fun p hp => ?_⟩⟩⟩⟩⟩
      exact (List.mem_append.mp hp).elim (fun h => (oA p h).2.2.1) fun h => (off p h).2.2.1
    have z2 : ∀ p ∈ (g2, kla_obj "<lambda>" (qLam "_law_register") (lR 0).params (lR 0).body (lR 0).scope [("mark", L' + 1)] ((mg "__name__").getD .none) c2 ctv2) :: (c2, oc2) :: (482, tabObj qs') :: (454, tabObj ps') :: (L' + 1, o1) :: (ownA ++ news), p.1 ≠ C.I.dd := by
      refine List.forall_mem_cons.mpr ⟨neN (by dsimp only; omega), List.forall_mem_cons.mpr ⟨oc.2.2.2, List.forall_mem_cons.mpr ⟨Ne.symm n4, List.forall_mem_cons.mpr ⟨Ne.symm n2, List.forall_mem_cons.mpr ⟨neN (by dsimp only; omega), fun p hp => ?_⟩⟩⟩⟩⟩
      exact (List.mem_append.mp hp).elim (fun h => (oA p h).2.2.2) fun h => (off p h).2.2.2
    have hC2 := hC.mono (l' := (g2, kla_obj "<lambda>" (qLam "_law_register") (lR 0).params (lR 0).body (lR 0).scope [("mark", L' + 1)] ((mg "__name__").getD .none) c2 ctv2) :: (c2, oc2) :: (482, tabObj qs') :: (454, tabObj ps') :: (L' + 1, o1) :: (ownA ++ news)) fun p hp => List.mem_cons_of_mem _ (List.mem_cons_of_mem _ (List.mem_cons_of_mem _ (List.mem_cons_of_mem _ (List.mem_cons_of_mem _ (List.mem_append_right _ hp)))))
    (try dsimp only)
    (focus ((iterate 2 walk1)))
    refine spec_regIn (C := C) (xs := xs) (by rfl) (by rfl) (Nat.le_of_ble_eq_true (by rfl)) (Nat.le_of_ble_eq_true (by rfl)) (by rfl) (by rfl) (by k_asm) (by k_asm) (by k_asm) (by k_asm) (by k_asm) hod z1 z2 nhd hl hC2 ?_
    intro tup od' h4 tk4 F4 N7 lt4 hod4
    have lt5 : @LT.lt Nat _ L' tup := Nat.lt_trans (Nat.lt_succ_self L') (lt4 (L' + 1, o1) (by k_mem))
    clear lt4
    (focus ((iterate 3 walk1)))
    rename News h₀ L _ _ => NN
    have km : ∀ p ∈ ownA, p ∈ (tup, tupObj [.ref f, .ref g2, .bool false, .bool false]) :: (g2, kla_obj "<lambda>" (qLam "_law_register") (lR 0).params (lR 0).body (lR 0).scope [("mark", L' + 1)] ((mg "__name__").getD .none) c2 ctv2) :: (c2, oc2) :: (L' + 1, o1) :: ownA := fun p hp => List.mem_cons_of_mem _ (List.mem_cons_of_mem _ (List.mem_cons_of_mem _ (List.mem_cons_of_mem _ hp)))
    refine hQ tup od' ps' qs' ((tup, tupObj [.ref f, .ref g2, .bool false, .bool false]) :: (g2, kla_obj "<lambda>" (qLam "_law_register") (lR 0).params (lR 0).body (lR 0).scope [("mark", L' + 1)] ((mg "__name__").getD .none) c2 ctv2) :: (c2, oc2) :: (L' + 1, o1) :: ownA) _ _ (by k_asm) ?_
      ⟨f, g2, cl, L' + 1, List.mem_cons_self, lamA.mono km, cellA.mono km, ⟨_, c2, ctv2, oc2, vs2, t2, by k_mem, by k_mem, hd3, hv3⟩, ⟨o1, by k_mem, d1⟩⟩ (tqA.mono ?_) (tq3.mono ?_) ?_ hod4
    · refine nSub NN (fun p hp => ?_)
      simp only [List.mem_cons, List.mem_append, List.cons_append] at hp ⊢
      rcases hp with h | h | h | h | h | h | h | h | h | h <;> simp only [h, true_or, or_true]
    · exact fun p hp => (List.mem_append.mp hp).elim (fun h => List.mem_append_left _ (km p h)) fun h => List.mem_append_right _ h
    · exact List.forall_mem_cons.mpr ⟨List.mem_append_left _ (by k_mem), fun p hp => List.mem_append_right _ hp⟩
    · have fin : ∀ p : Addr × Obj, @LT.lt Nat _ L' p.1 → p.1 ∉ ([454, 482, C.I.hp, C.I.dd] : List Addr) ∧ ((∀ q ∈ (454, tabObj ps) :: (482, tabObj qs) :: (C.I.hp, W.listOf xs.toArray n) :: (C.I.dd, od) :: news, @LT.lt Nat _ q.1 p.1) ∨ p ∈ imm) := fun p h => by
        refine ⟨?_, .inl ?_⟩
        · simp only [List.mem_cons, List.not_mem_nil, or_false, not_or]
          exact ⟨neN (by omega), neN (by omega), neN (by omega), neN (by omega)⟩
        · refine List.forall_mem_cons.mpr ⟨by dsimp only; omega, List.forall_mem_cons.mpr ⟨by dsimp only; omega, List.forall_mem_cons.mpr ⟨by dsimp only; omega, List.forall_mem_cons.mpr ⟨by dsimp only; omega, fun q hq => ?_⟩⟩⟩⟩
          exact Nat.lt_trans (ln q hq) h
      refine List.forall_mem_cons.mpr ⟨fin _ lt5, List.forall_mem_cons.mpr ⟨fin _ lg, List.forall_mem_cons.mpr ⟨?_, List.forall_mem_cons.mpr ⟨fin _ (Nat.lt_succ_self L'), fun p hp => ?_⟩⟩⟩⟩
      · rcases kc with h | h
        · exact fin _ h
        · exact ⟨ne _ (sub _ h), .inr h⟩
      · rcases old p hp with h | h
        · exact fin _ h
        · exact ⟨ne _ (sub _ h), .inr h⟩)
theorem spec_reg1 {C : Conv} {imm : List (Addr × Obj)} {ps qs : Array Value} {od : Obj} {kv mk : Value} {xs : List Value} {n : Nat} {tw : Tok}
    (hA : A.frames = some (env :: outer)) (hh : A.handled = none) (hd : A.depth ≤ 322) (hu : A.units ≤ 620) (hf : env.frame = some L) (hke : env.scope.kind = .function)
    (B : Below A₀ base outer h₀) (F : Fr h₀ L s.heap m) (X : (Mine.hd.heap_39 w.params).In h₀) (T : Top p loose mean mg mb h₀)
    (N : News h₀ L s.heap ((454, tabObj ps) :: (482, tabObj qs) :: (C.O.hp, W.listOf xs.toArray n) :: (C.O.dd, od) :: news)) (hod : od.IsDictOf (strKind PROG w) [])
    (tq1 : TabQ (qLam "_law_is") ps imm) (tq2 : TabQ (qLam "_law_register") qs imm) (sub : ∀ p ∈ imm, p ∈ news)
    (ne : ∀ p ∈ news, p.1 ∉ ([454, 482, C.O.hp, C.O.dd] : List Addr)) (nhd : @Ne Nat C.O.hp C.O.dd) (n1 : @Ne Nat C.O.hp 454) (n2 : @Ne Nat C.O.dd 454) (n3 : @Ne Nat C.O.hp 482) (n4 : @Ne Nat C.O.dd 482) (hl : xs.length ≤ 100)
    (hC : ConvAt w news C)
    (hQ : ∀ tup od' ps' qs' own h' tk, Fr h₀ L h' m → News h₀ L h' ((454, tabObj ps') :: (482, tabObj qs') :: (C.O.hp, W.listOf (.ref tup :: xs).toArray (n + 1)) :: (C.O.dd, od') :: (own ++ news)) → HookAt own 1 tup kv mk →
      TabQ (qLam "_law_is") ps' (own ++ imm) → TabQ (qLam "_law_register") qs' (own ++ imm) → OwnOff [454, 482, C.O.hp, C.O.dd] ((454, tabObj ps) :: (482, tabObj qs) :: (C.O.hp, W.listOf xs.toArray n) :: (C.O.dd, od) :: news) own imm →
      od'.IsDictOf (strKind PROG w) [] → Q .none { s with heap := h', toks := tk }) :
    wpAny (model PROG w) A (call (.ref 487) [.ref C.x, .int 1 tw, kv, mk] []) Q E s := by
  refine wp_le 322 620 hA hh hd hu ?_
  have off : ∀ p ∈ news, p.1 ≠ 454 ∧ p.1 ≠ 482 ∧ p.1 ≠ C.O.hp ∧ p.1 ≠ C.O.dd := fun p hp => by
    have h := ne p hp
    simp only [List.mem_cons, List.not_mem_nil, or_false, not_or] at h
    exact h
  have hobj := hC.obj
  rcases hobj with ⟨dx, fb, om, ov, ua, pv, dv, i1, i2, hk', ho, hd0, hov⟩ | ⟨dx, pv, dv, i1, i2, hk', ho, hd0⟩
  all_goals (
    walk_at "MY:enterC"
    intro g' L' h' tk' cells' FG' F' N' Y' B' X' T' l1
    obtain ⟨o1, hE, d1⟩ := CellsAre.one Y'; subst hE; clear Y'
    simp only [List.cons_append, List.nil_append] at N'
    have C2 : CodeHd g' 486 482 := codeHd_of_K X' (by kernel_rfl)
    have la : @LT.lt Nat _ 454 L' := l1 (454, _) (by k_mem)
    have lb : @LT.lt Nat _ 482 L' := l1 (482, _) (by k_mem)
    have lc : @LT.lt Nat _ C.O.hp L' := l1 (C.O.hp, _) (by k_mem)
    have ld : @LT.lt Nat _ C.O.dd L' := l1 (C.O.dd, _) (by k_mem)
    have ln : ∀ p ∈ news, @LT.lt Nat _ p.1 L' := fun p hp => l1 p (by walk_at "MY:tail")
    clear l1
    (try dsimp only)
    (focus ((iterate 32 walk1)))
    have N2 : News g' L' h' ((454, tabObj ps) :: (482, tabObj qs) :: (C.O.hp, W.listOf xs.toArray n) :: (C.O.dd, od) :: (L' + 1, o1) :: news) := nSub N' (by walk_at "MY:sub")
    clear N'
    refine spec_is (imm := imm) (s := { s with heap := h', toks := _ }) (by rfl) (by rfl) (Nat.le_of_ble_eq_true (by rfl)) (Nat.le_of_ble_eq_true (by rfl)) (by rfl) (by rfl) (by k_asm) (by k_asm) (by k_asm) (by k_asm) N2 tq1 (fun p hp => List.mem_cons_of_mem _ (List.mem_cons_of_mem _ (List.mem_cons_of_mem _ (List.mem_cons_of_mem _ (sub p hp))))) ?ne0 ?_
    case ne0 =>
      refine List.forall_mem_cons.mpr ⟨neN (by dsimp only; decide), List.forall_mem_cons.mpr ⟨n1, List.forall_mem_cons.mpr ⟨n2, List.forall_mem_cons.mpr ⟨neN (by dsimp only; omega), fun p hp => (off p hp).1⟩⟩⟩⟩
    intro f cl ps' ownA h2 tk2 F2 N3 lamA cellA tqA offA
    (try dsimp only)
    have old : ∀ p ∈ ownA, (@LT.lt Nat _ L' p.1 ∨ p ∈ imm) := fun p hp => (offA p hp).2.imp (fun h => Nat.lt_trans (Nat.lt_succ_self L') (h (L' + 1, o1) (by k_mem))) id
    have oA : ∀ p ∈ ownA, p.1 ≠ 454 ∧ p.1 ≠ 482 ∧ p.1 ≠ C.O.hp ∧ p.1 ≠ C.O.dd := fun p hp => by
      rcases old p hp with h | h
      · exact ⟨neN (by omega), neN (by omega), neN (by omega), neN (by omega)⟩
      · exact off p (sub p h)
    clear offA
    have N4 : News g' L' h2 ((482, tabObj qs) :: (454, tabObj ps') :: (C.O.hp, W.listOf xs.toArray n) :: (C.O.dd, od) :: (L' + 1, o1) :: (ownA ++ news)) := nSub N3 (fun p hp => by
      simp only [List.mem_cons, List.mem_append] at hp ⊢
      rcases hp with h | h | h | h | h | h | h <;> simp only [h, true_or, or_true])
    clear N3
    have z4 : ∀ p ∈ (454, tabObj ps') :: (C.O.hp, W.listOf xs.toArray n) :: (C.O.dd, od) :: (L' + 1, o1) :: (ownA ++ news), p.1 ≠ 482 := by
      refine List.forall_mem_cons.mpr ⟨neN (by dsimp only; decide), List.forall_mem_cons.mpr ⟨n3, List.forall_mem_cons.mpr ⟨n4, List.forall_mem_cons.mpr ⟨neN (by dsimp only; omega), fun p hp => ?_⟩⟩⟩⟩
      exact (List.mem_append.mp hp).elim (fun h => (oA p h).2.1) fun h => (off p h).2.1
    (focus (walk1))
    refine kla_eval (by exact rfl) ?_
    refine kla_any (c := 486) imm (by k_asm) (by k_asm) (by k_asm) C2 (by exact rfl) (Upd1.head z4) tq2 ?sub2 ?off2 (by exact rfl) ?_
    case sub2 => exact fun p hp => List.mem_cons_of_mem _ (List.mem_cons_of_mem _ (List.mem_cons_of_mem _ (List.mem_cons_of_mem _ (List.mem_cons_of_mem _ (List.mem_append_right _ (sub p hp))))))
    case off2 => exact fun p hp => (off p (sub p hp)).2.1
    intro g2 c2 oc2 vs2 t2 ctv2 qs' h3 tk3 F3 N5 tq3 hd3 hv3 lf2 lcf2 kin2
    (try dsimp only at N5)
    have lg : @LT.lt Nat _ L' g2 := Nat.lt_trans (Nat.lt_succ_self L') (lf2 (L' + 1, o1) (by k_mem))
    have kc : @LT.lt Nat _ L' c2 ∨ (c2, oc2) ∈ imm := kin2.imp (fun h => Nat.lt_trans (Nat.lt_succ_self L') (h (L' + 1, o1) (by k_mem))) id
    have oc : c2 ≠ 454 ∧ c2 ≠ 482 ∧ c2 ≠ C.O.hp ∧ c2 ≠ C.O.dd := by
      rcases kc with h | h
      · exact ⟨neN (by omega), neN (by omega), neN (by omega), neN (by omega)⟩
      · exact off _ (sub _ h)
    clear lf2 lcf2 kin2
    have N6 := news_56 N5
    clear N5
    have z1 : ∀ p ∈ (g2, kla_obj "<lambda>" (qLam "_law_register") (lR 1).params (lR 1).body (lR 1).scope [("mark", L' + 1)] ((mg "__name__").getD .none) c2 ctv2) :: (c2, oc2) :: (482, tabObj qs') :: (454, tabObj ps') :: (L' + 1, o1) :: (ownA ++ news), p.1 ≠ C.O.hp := by
      refine List.forall_mem_cons.mpr ⟨neN (by dsimp only; omega), List.forall_mem_cons.mpr ⟨oc.2.2.1, List.forall_mem_cons.mpr ⟨Ne.symm n3, List.forall_mem_cons.mpr ⟨Ne.symm n1, List.forall_mem_cons.mpr ⟨neN (by dsimp only; omega), fun p hp => ?_⟩⟩⟩⟩⟩
      exact (List.mem_append.mp hp).elim (fun h => (oA p h).2.2.1) fun h => (off p h).2.2.1
    have z2 : ∀ p ∈ (g2, kla_obj "<lambda>" (qLam "_law_register") (lR 1).params (lR 1).body (lR 1).scope [("mark", L' + 1)] ((mg "__name__").getD .none) c2 ctv2) :: (c2, oc2) :: (482, tabObj qs') :: (454, tabObj ps') :: (L' + 1, o1) :: (ownA ++ news), p.1 ≠ C.O.dd := by
      refine List.forall_mem_cons.mpr ⟨neN (by dsimp only; omega), List.forall_mem_cons.mpr ⟨oc.2.2.2, List.forall_mem_cons.mpr ⟨Ne.symm n4, List.forall_mem_cons.mpr ⟨Ne.symm n2, List.forall_mem_cons.mpr ⟨neN (by dsimp only; omega), fun p hp => ?_⟩⟩⟩⟩⟩
      exact (List.mem_append.mp hp).elim (fun h => (oA p h).2.2.2) fun h => (off p h).2.2.2
    have hC2 := hC.mono (l' := (g2, kla_obj "<lambda>" (qLam "_law_register") (lR 1).params (lR 1).body (lR 1).scope [("mark", L' + 1)] ((mg "__name__").getD .none) c2 ctv2) :: (c2, oc2) :: (482, tabObj qs') :: (454, tabObj ps') :: (L' + 1, o1) :: (ownA ++ news)) fun p hp => List.mem_cons_of_mem _ (List.mem_cons_of_mem _ (List.mem_cons_of_mem _ (List.mem_cons_of_mem _ (List.mem_cons_of_mem _ (List.mem_append_right _ hp)))))
    (try dsimp only)
    (focus ((iterate 2 walk1)))
    refine spec_regOut (C := C) (xs := xs) (by rfl) (by rfl) (Nat.le_of_ble_eq_true (by rfl)) (Nat.le_of_ble_eq_true (by rfl)) (by rfl) (by rfl) (by k_asm) (by k_asm) (by k_asm) (by k_asm) (by k_asm) hod z1 z2 nhd hl hC2 ?_
    intro tup od' h4 tk4 F4 N7 lt4 hod4
    have lt5 : @LT.lt Nat _ L' tup := Nat.lt_trans (Nat.lt_succ_self L') (lt4 (L' + 1, o1) (by k_mem))
    clear lt4
    (focus ((iterate 4 walk1)))
    rename News h₀ L _ _ => NN
    have km : ∀ p ∈ ownA, p ∈ (tup, tupObj [.ref f, .ref g2, .bool false, .bool false]) :: (g2, kla_obj "<lambda>" (qLam "_law_register") (lR 1).params (lR 1).body (lR 1).scope [("mark", L' + 1)] ((mg "__name__").getD .none) c2 ctv2) :: (c2, oc2) :: (L' + 1, o1) :: ownA := fun p hp => List.mem_cons_of_mem _ (List.mem_cons_of_mem _ (List.mem_cons_of_mem _ (List.mem_cons_of_mem _ hp)))
    refine hQ tup od' ps' qs' ((tup, tupObj [.ref f, .ref g2, .bool false, .bool false]) :: (g2, kla_obj "<lambda>" (qLam "_law_register") (lR 1).params (lR 1).body (lR 1).scope [("mark", L' + 1)] ((mg "__name__").getD .none) c2 ctv2) :: (c2, oc2) :: (L' + 1, o1) :: ownA) _ _ (by k_asm) ?_
      ⟨f, g2, cl, L' + 1, List.mem_cons_self, lamA.mono km, cellA.mono km, ⟨_, c2, ctv2, oc2, vs2, t2, by k_mem, by k_mem, hd3, hv3⟩, ⟨o1, by k_mem, d1⟩⟩ (tqA.mono ?_) (tq3.mono ?_) ?_ hod4
    · refine nSub NN (fun p hp => ?_)
      simp only [List.mem_cons, List.mem_append, List.cons_append] at hp ⊢
      rcases hp with h | h | h | h | h | h | h | h | h | h <;> simp only [h, true_or, or_true]
    · exact fun p hp => (List.mem_append.mp hp).elim (fun h => List.mem_append_left _ (km p h)) fun h => List.mem_append_right _ h
    · exact List.forall_mem_cons.mpr ⟨List.mem_append_left _ (by k_mem), fun p hp => List.mem_append_right _ hp⟩
    · have fin : ∀ p : Addr × Obj, @LT.lt Nat _ L' p.1 → p.1 ∉ ([454, 482, C.O.hp, C.O.dd] : List Addr) ∧ ((∀ q ∈ (454, tabObj ps) :: (482, tabObj qs) :: (C.O.hp, W.listOf xs.toArray n) :: (C.O.dd, od) :: news, @LT.lt Nat _ q.1 p.1) ∨ p ∈ imm) := fun p h => by
        refine ⟨?_, .inl ?_⟩
        · simp only [List.mem_cons, List.not_mem_nil, or_false, not_or]
          exact ⟨neN (by omega), neN (by omega), neN (by omega), neN (by omega)⟩
        · refine List.forall_mem_cons.mpr ⟨by dsimp only; omega, List.forall_mem_cons.mpr ⟨by dsimp only; omega, List.forall_mem_cons.mpr ⟨by dsimp only; omega, List.forall_mem_cons.mpr ⟨by dsimp only; omega, fun q hq => ?_⟩⟩⟩⟩
          exact Nat.lt_trans (ln q hq) h
      refine List.forall_mem_cons.mpr ⟨fin _ lt5, List.forall_mem_cons.mpr ⟨fin _ lg, List.forall_mem_cons.mpr ⟨?_, List.forall_mem_cons.mpr ⟨fin _ (Nat.lt_succ_self L'), fun p hp => ?_⟩⟩⟩⟩
      · rcases kc with h | h
        · exact fin _ h
        · exact ⟨ne _ (sub _ h), .inr h⟩
      · rcases old p hp with h | h
        · exact fin _ h
        · exact ⟨ne _ (sub _ h), .inr h⟩)
theorem spec_reg2 {C : Conv} {imm : List (Addr × Obj)} {ps qs : Array Value} {od : Obj} {kv mk : Value} {xs : List Value} {n : Nat} {tw : Tok}
    (hA : A.frames = some (env :: outer)) (hh : A.handled = none) (hd : A.depth ≤ 322) (hu : A.units ≤ 620) (hf : env.frame = some L) (hke : env.scope.kind = .function)
    (B : Below A₀ base outer h₀) (F : Fr h₀ L s.heap m) (X : (Mine.hd.heap_39 w.params).In h₀) (T : Top p loose mean mg mb h₀)
    (N : News h₀ L s.heap ((454, tabObj ps) :: (482, tabObj qs) :: (C.I.hp, W.listOf xs.toArray n) :: (C.I.dd, od) :: news)) (hod : od.IsDictOf (strKind PROG w) [])
    (tq1 : TabQ (qLam "_law_is") ps imm) (tq2 : TabQ (qLam "_law_register") qs imm) (sub : ∀ p ∈ imm, p ∈ news)
    (ne : ∀ p ∈ news, p.1 ∉ ([454, 482, C.I.hp, C.I.dd] : List Addr)) (nhd : @Ne Nat C.I.hp C.I.dd) (n1 : @Ne Nat C.I.hp 454) (n2 : @Ne Nat C.I.dd 454) (n3 : @Ne Nat C.I.hp 482) (n4 : @Ne Nat C.I.dd 482) (hl : xs.length ≤ 100)
    (hC : ConvAt w news C)
    (hQ : ∀ tup od' ps' qs' own h' tk, Fr h₀ L h' m → News h₀ L h' ((454, tabObj ps') :: (482, tabObj qs') :: (C.I.hp, W.listOf (.ref tup :: xs).toArray (n + 1)) :: (C.I.dd, od') :: (own ++ news)) → HookAt own 2 tup kv mk →
      TabQ (qLam "_law_is") ps' (own ++ imm) → TabQ (qLam "_law_register") qs' (own ++ imm) → OwnOff [454, 482, C.I.hp, C.I.dd] ((454, tabObj ps) :: (482, tabObj qs) :: (C.I.hp, W.listOf xs.toArray n) :: (C.I.dd, od) :: news) own imm →
      od'.IsDictOf (strKind PROG w) [] → Q .none { s with heap := h', toks := tk }) :
    wpAny (model PROG w) A (call (.ref 487) [.ref C.x, .int 2 tw, kv, mk] []) Q E s := by
  refine wp_le 322 620 hA hh hd hu ?_
  have off : ∀ p ∈ news, p.1 ≠ 454 ∧ p.1 ≠ 482 ∧ p.1 ≠ C.I.hp ∧ p.1 ≠ C.I.dd := fun p hp => by
    have h := ne p hp
    simp only [List.mem_cons, List.not_mem_nil, or_false, not_or] at h
    exact h
  have hobj := hC.obj
  rcases hobj with ⟨dx, fb, om, ov, ua, pv, dv, i1, i2, hk', ho, hd0, hov⟩ | ⟨dx, pv, dv, i1, i2, hk', ho, hd0⟩
  all_goals (
    walk_at "MY:enterC"
    intro g' L' h' tk' cells' FG' F' N' Y' B' X' T' l1
    obtain ⟨o1, hE, d1⟩ := CellsAre.one Y'; subst hE; clear Y'
    simp only [List.cons_append, List.nil_append] at N'
    have C2 : CodeHd g' 486 482 := codeHd_of_K X' (by kernel_rfl)
    have la : @LT.lt Nat _ 454 L' := l1 (454, _) (by k_mem)
    have lb : @LT.lt Nat _ 482 L' := l1 (482, _) (by k_mem)
    have lc : @LT.lt Nat _ C.I.hp L' := l1 (C.I.hp, _) (by k_mem)
    have ld : @LT.lt Nat _ C.I.dd L' := l1 (C.I.dd, _) (by k_mem)
    have ln : ∀ p ∈ news, @LT.lt Nat _ p.1 L' := fun p hp => l1 p (by walk_at "MY:tail")
    clear l1
    (try dsimp only)
    (focus ((iterate 41 walk1)))
    have N2 : News g' L' h' ((454, tabObj ps) :: (482, tabObj qs) :: (C.I.hp, W.listOf xs.toArray n) :: (C.I.dd, od) :: (L' + 1, o1) :: news) := nSub N' (by walk_at "MY:sub")
    clear N'
    refine spec_is (imm := imm) (s := { s with heap := h', toks := _ }) (by rfl) (by rfl) (Nat.le_of_ble_eq_true (by rfl)) (Nat.le_of_ble_eq_true (by rfl)) (by rfl) (by rfl) (by k_asm) (by k_asm) (by k_asm) (by k_asm) N2 tq1 (fun p hp => List.mem_cons_of_mem _ (List.mem_cons_of_mem _ (List.mem_cons_of_mem _ (List.mem_cons_of_mem _ (sub p hp))))) ?ne0 ?_
    case ne0 =>
      refine List.forall_mem_cons.mpr ⟨neN (by dsimp only; decide), List.forall_mem_cons.mpr ⟨n1, List.forall_mem_cons.mpr ⟨n2, List.forall_mem_cons.mpr ⟨neN (by dsimp only; omega), fun p hp => (off p hp).1⟩⟩⟩⟩
    intro f cl ps' ownA h2 tk2 F2 N3 lamA cellA tqA offA
    (try dsimp only)
    have old : ∀ p ∈ ownA, (@LT.lt Nat _ L' p.1 ∨ p ∈ imm) := fun p hp => (offA p hp).2.imp (fun h => Nat.lt_trans (Nat.lt_succ_self L') (h (L' + 1, o1) (by k_mem))) id
    have oA : ∀ p ∈ ownA, p.1 ≠ 454 ∧ p.1 ≠ 482 ∧ p.1 ≠ C.I.hp ∧ p.1 ≠ C.I.dd := fun p hp => by
      rcases old p hp with h | h
      · exact ⟨neN (by omega), neN (by omega), neN (by omega), neN (by omega)⟩
      · exact off p (sub p h)
    clear offA
    have N4 : News g' L' h2 ((482, tabObj qs) :: (454, tabObj ps') :: (C.I.hp, W.listOf xs.toArray n) :: (C.I.dd, od) :: (L' + 1, o1) :: (ownA ++ news)) := nSub N3 (fun p hp => by
      simp only [List.mem_cons, List.mem_append] at hp ⊢
      rcases hp with h | h | h | h | h | h | h <;> simp only [h, true_or, or_true])
    clear N3
    have z4 : ∀ p ∈ (454, tabObj ps') :: (C.I.hp, W.listOf xs.toArray n) :: (C.I.dd, od) :: (L' + 1, o1) :: (ownA ++ news), p.1 ≠ 482 := by
      refine List.forall_mem_cons.mpr ⟨neN (by dsimp only; decide), List.forall_mem_cons.mpr ⟨n3, List.forall_mem_cons.mpr ⟨n4, List.forall_mem_cons.mpr ⟨neN (by dsimp only; omega), fun p hp => ?_⟩⟩⟩⟩
      exact (List.mem_append.mp hp).elim (fun h => (oA p h).2.1) fun h => (off p h).2.1
    (focus (walk1))
    refine kla_eval (by exact rfl) ?_
    refine kla_any (c := 486) imm (by k_asm) (by k_asm) (by k_asm) C2 (by exact rfl) (Upd1.head z4) tq2 ?sub2 ?off2 (by exact rfl) ?_
    case sub2 => exact fun p hp => List.mem_cons_of_mem _ (List.mem_cons_of_mem _ (List.mem_cons_of_mem _ (List.mem_cons_of_mem _ (List.mem_cons_of_mem _ (List.mem_append_right _ (sub p hp))))))
    case off2 => exact fun p hp => (off p (sub p hp)).2.1
    intro g2 c2 oc2 vs2 t2 ctv2 qs' h3 tk3 F3 N5 tq3 hd3 hv3 lf2 lcf2 kin2
    (try dsimp only at N5)
    have lg : @LT.lt Nat _ L' g2 := Nat.lt_trans (Nat.lt_succ_self L') (lf2 (L' + 1, o1) (by k_mem))
    have kc : @LT.lt Nat _ L' c2 ∨ (c2, oc2) ∈ imm := kin2.imp (fun h => Nat.lt_trans (Nat.lt_succ_self L') (h (L' + 1, o1) (by k_mem))) id
    have oc : c2 ≠ 454 ∧ c2 ≠ 482 ∧ c2 ≠ C.I.hp ∧ c2 ≠ C.I.dd := by
      rcases kc with h | h
      · exact ⟨neN (by omega), neN (by omega), neN (by omega), neN (by omega)⟩
      · exact off _ (sub _ h)
    clear lf2 lcf2 kin2
    have N6 := news_56 N5
    clear N5
    have z1 : ∀ p ∈ (g2, kla_obj "<lambda>" (qLam "_law_register") (lR 2).params (lR 2).body (lR 2).scope [("mark", L' + 1)] ((mg "__name__").getD .none) c2 ctv2) :: (c2, oc2) :: (482, tabObj qs') :: (454, tabObj ps') :: (L' + 1, o1) :: (ownA ++ news), p.1 ≠ C.I.hp := by
      refine List.forall_mem_cons.mpr ⟨neN (by dsimp only; omega), List.forall_mem_cons.mpr ⟨oc.2.2.1, List.forall_mem_cons.mpr ⟨Ne.symm n3, List.forall_mem_cons.mpr ⟨Ne.symm n1, List.forall_mem_cons.mpr ⟨neN (by dsimp only; omega), fun p hp => ?_⟩⟩⟩⟩⟩
      exact (List.mem_append.mp hp).elim (fun h => (oA p h).2.2.1) fun h => (off p h).2.2.1
    have z2 : ∀ p ∈ (g2, kla_obj "<lambda>" (qLam "_law_register") (lR 2).params (lR 2).body (lR 2).scope [("mark", L' + 1)] ((mg "__name__").getD .none) c2 ctv2) :: (c2, oc2) :: (482, tabObj qs') :: (454, tabObj ps') :: (L' + 1, o1) :: (ownA ++ news), p.1 ≠ C.I.dd := by
      refine List.forall_mem_cons.mpr ⟨neN (by dsimp only; omega), List.forall_mem_cons.mpr ⟨oc.2.2.2, List.forall_mem_cons.mpr ⟨Ne.symm n4, List.forall_mem_cons.mpr ⟨Ne.symm n2, List.forall_mem_cons.mpr ⟨neN (by dsimp only; omega), fun p hp => ?_⟩⟩⟩⟩⟩
      exact (List.mem_append.mp hp).elim (fun h => (oA p h).2.2.2) fun h => (off p h).2.2.2
    have hC2 := hC.mono (l' := (g2, kla_obj "<lambda>" (qLam "_law_register") (lR 2).params (lR 2).body (lR 2).scope [("mark", L' + 1)] ((mg "__name__").getD .none) c2 ctv2) :: (c2, oc2) :: (482, tabObj qs') :: (454, tabObj ps') :: (L' + 1, o1) :: (ownA ++ news)) fun p hp => List.mem_cons_of_mem _ (List.mem_cons_of_mem _ (List.mem_cons_of_mem _ (List.mem_cons_of_mem _ (List.mem_cons_of_mem _ (List.mem_append_right _ hp)))))
    (try dsimp only)
    (focus ((iterate 2 walk1)))
    first | refine spec_facIn (C := C) (xs := xs) (by rfl) (by rfl) (Nat.le_of_ble_eq_true (by rfl)) (Nat.le_of_ble_eq_true (by rfl)) (by rfl) (by rfl) (by k_asm) (by k_asm) (by k_asm) (by k_asm) (by k_asm) hod z1 z2 nhd hl hC2 ?_ | refine spec_facInC (C := C) (xs := xs) (by rfl) (by rfl) (Nat.le_of_ble_eq_true (by rfl)) (Nat.le_of_ble_eq_true (by rfl)) (by rfl) (by rfl) (by k_asm) (by k_asm) (by k_asm) (by k_asm) (by k_asm) hod z1 z2 nhd hl hC2 hk' ?_
    intro tup od' h4 tk4 F4 N7 lt4 hod4
    have lt5 : @LT.lt Nat _ L' tup := Nat.lt_trans (Nat.lt_succ_self L') (lt4 (L' + 1, o1) (by k_mem))
    clear lt4
    (focus ((iterate 5 walk1)))
    rename News h₀ L _ _ => NN
    have km : ∀ p ∈ ownA, p ∈ (tup, tupObj [.ref f, .ref g2, .bool true, .bool false]) :: (g2, kla_obj "<lambda>" (qLam "_law_register") (lR 2).params (lR 2).body (lR 2).scope [("mark", L' + 1)] ((mg "__name__").getD .none) c2 ctv2) :: (c2, oc2) :: (L' + 1, o1) :: ownA := fun p hp => List.mem_cons_of_mem _ (List.mem_cons_of_mem _ (List.mem_cons_of_mem _ (List.mem_cons_of_mem _ hp)))
    refine hQ tup od' ps' qs' ((tup, tupObj [.ref f, .ref g2, .bool true, .bool false]) :: (g2, kla_obj "<lambda>" (qLam "_law_register") (lR 2).params (lR 2).body (lR 2).scope [("mark", L' + 1)] ((mg "__name__").getD .none) c2 ctv2) :: (c2, oc2) :: (L' + 1, o1) :: ownA) _ _ (by k_asm) ?_
      ⟨f, g2, cl, L' + 1, List.mem_cons_self, lamA.mono km, cellA.mono km, ⟨_, c2, ctv2, oc2, vs2, t2, by k_mem, by k_mem, hd3, hv3⟩, ⟨o1, by k_mem, d1⟩⟩ (tqA.mono ?_) (tq3.mono ?_) ?_ hod4
    · refine nSub NN (fun p hp => ?_)
      simp only [List.mem_cons, List.mem_append, List.cons_append] at hp ⊢
      rcases hp with h | h | h | h | h | h | h | h | h | h <;> simp only [h, true_or, or_true]
    · exact fun p hp => (List.mem_append.mp hp).elim (fun h => List.mem_append_left _ (km p h)) fun h => List.mem_append_right _ h
    · exact List.forall_mem_cons.mpr ⟨List.mem_append_left _ (by k_mem), fun p hp => List.mem_append_right _ hp⟩
    · have fin : ∀ p : Addr × Obj, @LT.lt Nat _ L' p.1 → p.1 ∉ ([454, 482, C.I.hp, C.I.dd] : List Addr) ∧ ((∀ q ∈ (454, tabObj ps) :: (482, tabObj qs) :: (C.I.hp, W.listOf xs.toArray n) :: (C.I.dd, od) :: news, @LT.lt Nat _ q.1 p.1) ∨ p ∈ imm) := fun p h => by
        refine ⟨?_, .inl ?_⟩
        · simp only [List.mem_cons, List.not_mem_nil, or_false, not_or]
          exact ⟨neN (by omega), neN (by omega), neN (by omega), neN (by omega)⟩
        · refine List.forall_mem_cons.mpr ⟨by dsimp only; omega, List.forall_mem_cons.mpr ⟨by dsimp only; omega, List.forall_mem_cons.mpr ⟨by dsimp only; omega, List.forall_mem_cons.mpr ⟨by dsimp only; omega, fun q hq => ?_⟩⟩⟩⟩
          exact Nat.lt_trans (ln q hq) h
      refine List.forall_mem_cons.mpr ⟨fin _ lt5, List.forall_mem_cons.mpr ⟨fin _ lg, List.forall_mem_cons.mpr ⟨?_, List.forall_mem_cons.mpr ⟨fin _ (Nat.lt_succ_self L'), fun p hp => ?_⟩⟩⟩⟩
      · rcases kc with h | h
        · exact fin _ h
        · exact ⟨ne _ (sub _ h), .inr h⟩
      · rcases old p hp with h | h
        · exact fin _ h
        · exact ⟨ne _ (sub _ h), .inr h⟩)
theorem spec_reg3 {C : Conv} {imm : List (Addr × Obj)} {ps qs : Array Value} {od : Obj} {kv mk : Value} {xs : List Value} {n : Nat} {tw : Tok}
    (hA : A.frames = some (env :: outer)) (hh : A.handled = none) (hd : A.depth ≤ 322) (hu : A.units ≤ 620) (hf : env.frame = some L) (hke : env.scope.kind = .function)
    (B : Below A₀ base outer h₀) (F : Fr h₀ L s.heap m) (X : (Mine.hd.heap_39 w.params).In h₀) (T : Top p loose mean mg mb h₀)
    (N : News h₀ L s.heap ((454, tabObj ps) :: (482, tabObj qs) :: (C.O.hp, W.listOf xs.toArray n) :: (C.O.dd, od) :: news)) (hod : od.IsDictOf (strKind PROG w) [])
    (tq1 : TabQ (qLam "_law_is") ps imm) (tq2 : TabQ (qLam "_law_register") qs imm) (sub : ∀ p ∈ imm, p ∈ news)
    (ne : ∀ p ∈ news, p.1 ∉ ([454, 482, C.O.hp, C.O.dd] : List Addr)) (nhd : @Ne Nat C.O.hp C.O.dd) (n1 : @Ne Nat C.O.hp 454) (n2 : @Ne Nat C.O.dd 454) (n3 : @Ne Nat C.O.hp 482) (n4 : @Ne Nat C.O.dd 482) (hl : xs.length ≤ 100)
    (hC : ConvAt w news C)
    (hQ : ∀ tup od' ps' qs' own h' tk, Fr h₀ L h' m → News h₀ L h' ((454, tabObj ps') :: (482, tabObj qs') :: (C.O.hp, W.listOf (.ref tup :: xs).toArray (n + 1)) :: (C.O.dd, od') :: (own ++ news)) → HookAt own 3 tup kv mk →
      TabQ (qLam "_law_is") ps' (own ++ imm) → TabQ (qLam "_law_register") qs' (own ++ imm) → OwnOff [454, 482, C.O.hp, C.O.dd] ((454, tabObj ps) :: (482, tabObj qs) :: (C.O.hp, W.listOf xs.toArray n) :: (C.O.dd, od) :: news) own imm →
      od'.IsDictOf (strKind PROG w) [] → Q .none { s with heap := h', toks := tk }) :
    wpAny (model PROG w) A (call (.ref 487) [.ref C.x, .int 3 tw, kv, mk] []) Q E s := by
  refine wp_le 322 620 hA hh hd hu ?_
  have off : ∀ p ∈ news, p.1 ≠ 454 ∧ p.1 ≠ 482 ∧ p.1 ≠ C.O.hp ∧ p.1 ≠ C.O.dd := fun p hp => by
    have h := ne p hp
    simp only [List.mem_cons, List.not_mem_nil, or_false, not_or] at h
    exact h
  have hobj := hC.obj
  rcases hobj with ⟨dx, fb, om, ov, ua, pv, dv, i1, i2, hk', ho, hd0, hov⟩ | ⟨dx, pv, dv, i1, i2, hk', ho, hd0⟩
  all_goals (
    walk_at "MY:enterC"
    intro g' L' h' tk' cells' FG' F' N' Y' B' X' T' l1
    obtain ⟨o1, hE, d1⟩ := CellsAre.one Y'; subst hE; clear Y'
    simp only [List.cons_append, List.nil_append] at N'
    have C2 : CodeHd g' 486 482 := codeHd_of_K X' (by kernel_rfl)
    have la : @LT.lt Nat _ 454 L' := l1 (454, _) (by k_mem)
    have lb : @LT.lt Nat _ 482 L' := l1 (482, _) (by k_mem)
    have lc : @LT.lt Nat _ C.O.hp L' := l1 (C.O.hp, _) (by k_mem)
    have ld : @LT.lt Nat _ C.O.dd L' := l1 (C.O.dd, _) (by k_mem)
    have ln : ∀ p ∈ news, @LT.lt Nat _ p.1 L' := fun p hp => l1 p (by walk_at "MY:tail")
    clear l1
    (try dsimp only)
    (focus ((iterate 41 walk1)))
    have N2 : News g' L' h' ((454, tabObj ps) :: (482, tabObj qs) :: (C.O.hp, W.listOf xs.toArray n) :: (C.O.dd, od) :: (L' + 1, o1) :: news) := nSub N' (by walk_at "MY:sub")
    clear N'
    refine spec_is (imm := imm) (s := { s with heap := h', toks := _ }) (by rfl) (by rfl) (Nat.le_of_ble_eq_true (by rfl)) (Nat.le_of_ble_eq_true (by rfl)) (by rfl) (by rfl) (by k_asm) (by k_asm) (by k_asm) (by k_asm) N2 tq1 (fun p hp => List.mem_cons_of_mem _ (List.mem_cons_of_mem _ (List.mem_cons_of_mem _ (List.mem_cons_of_mem _ (sub p hp))))) ?ne0 ?_
    case ne0 =>
      refine List.forall_mem_cons.mpr ⟨neN (by dsimp only; decide), List.forall_mem_cons.mpr ⟨n1, List.forall_mem_cons.mpr ⟨n2, List.forall_mem_cons.mpr ⟨neN (by dsimp only; omega), fun p hp => (off p hp).1⟩⟩⟩⟩
    intro f cl ps' ownA h2 tk2 F2 N3 lamA cellA tqA offA
    (try dsimp only)
    have old : ∀ p ∈ ownA, (@LT.lt Nat _ L' p.1 ∨ p ∈ imm) := fun p hp => (offA p hp).2.imp (fun h => Nat.lt_trans (Nat.lt_succ_self L') (h (L' + 1, o1) (by k_mem))) id
    have oA : ∀ p ∈ ownA, p.1 ≠ 454 ∧ p.1 ≠ 482 ∧ p.1 ≠ C.O.hp ∧ p.1 ≠ C.O.dd := fun p hp => by
      rcases old p hp with h | h
      · exact ⟨neN (by omega), neN (by omega), neN (by omega), neN (by omega)⟩
      · exact off p (sub p h)
    clear offA
    have N4 : News g' L' h2 ((482, tabObj qs) :: (454, tabObj ps') :: (C.O.hp, W.listOf xs.toArray n) :: (C.O.dd, od) :: (L' + 1, o1) :: (ownA ++ news)) := nSub N3 (fun p hp => by
      simp only [List.mem_cons, List.mem_append] at hp ⊢
      rcases hp with h | h | h | h | h | h | h <;> simp only [h, true_or, or_true])
    clear N3
    have z4 : ∀ p ∈ (454, tabObj ps') :: (C.O.hp, W.listOf xs.toArray n) :: (C.O.dd, od) :: (L' + 1, o1) :: (ownA ++ news), p.1 ≠ 482 := by
      refine List.forall_mem_cons.mpr ⟨neN (by dsimp only; decide), List.forall_mem_cons.mpr ⟨n3, List.forall_mem_cons.mpr ⟨n4, List.forall_mem_cons.mpr ⟨neN (by dsimp only; omega), fun p hp => ?_⟩⟩⟩⟩
      exact (List.mem_append.mp hp).elim (fun h => (oA p h).2.1) fun h => (off p h).2.1
    (focus (walk1))
    refine kla_eval (by exact rfl) ?_
    refine kla_any (c := 486) imm (by k_asm) (by k_asm) (by k_asm) C2 (by exact rfl) (Upd1.head z4) tq2 ?sub2 ?off2 (by exact rfl) ?_
    case sub2 => exact fun p hp => List.mem_cons_of_mem _ (List.mem_cons_of_mem _ (List.mem_cons_of_mem _ (List.mem_cons_of_mem _ (List.mem_cons_of_mem _ (List.mem_append_right _ (sub p hp))))))
    case off2 => exact fun p hp => (off p (sub p hp)).2.1
    intro g2 c2 oc2 vs2 t2 ctv2 qs' h3 tk3 F3 N5 tq3 hd3 hv3 lf2 lcf2 kin2
    (try dsimp only at N5)
    have lg : @LT.lt Nat _ L' g2 := Nat.lt_trans (Nat.lt_succ_self L') (lf2 (L' + 1, o1) (by k_mem))
    have kc : @LT.lt Nat _ L' c2 ∨ (c2, oc2) ∈ imm := kin2.imp (fun h => Nat.lt_trans (Nat.lt_succ_self L') (h (L' + 1, o1) (by k_mem))) id
    have oc : c2 ≠ 454 ∧ c2 ≠ 482 ∧ c2 ≠ C.O.hp ∧ c2 ≠ C.O.dd := by
      rcases kc with h | h
      · exact ⟨neN (by omega), neN (by omega), neN (by omega), neN (by omega)⟩
      · exact off _ (sub _ h)
    clear lf2 lcf2 kin2
    have N6 := news_56 N5
    clear N5
    have z1 : ∀ p ∈ (g2, kla_obj "<lambda>" (qLam "_law_register") (lR 3).params (lR 3).body (lR 3).scope [("mark", L' + 1)] ((mg "__name__").getD .none) c2 ctv2) :: (c2, oc2) :: (482, tabObj qs') :: (454, tabObj ps') :: (L' + 1, o1) :: (ownA ++ news), p.1 ≠ C.O.hp := by
      refine List.forall_mem_cons.mpr ⟨neN (by dsimp only; omega), List.forall_mem_cons.mpr ⟨oc.2.2.1, List.forall_mem_cons.mpr ⟨Ne.symm n3, List.forall_mem_cons.mpr ⟨Ne.symm n1, List.forall_mem_cons.mpr ⟨neN (by dsimp only; omega), fun p hp => ?_⟩⟩⟩⟩⟩
      exact (List.mem_append.mp hp).elim (fun h => (oA p h).2.2.1) fun h => (off p h).2.2.1
    have z2 : ∀ p ∈ (g2, kla_obj "<lambda>" (qLam "_law_register") (lR 3).params (lR 3).body (lR 3).scope [("mark", L' + 1)] ((mg "__name__").getD .none) c2 ctv2) :: (c2, oc2) :: (482, tabObj qs') :: (454, tabObj ps') :: (L' + 1, o1) :: (ownA ++ news), p.1 ≠ C.O.dd := by
      refine List.forall_mem_cons.mpr ⟨neN (by dsimp only; omega), List.forall_mem_cons.mpr ⟨oc.2.2.2, List.forall_mem_cons.mpr ⟨Ne.symm n4, List.forall_mem_cons.mpr ⟨Ne.symm n2, List.forall_mem_cons.mpr ⟨neN (by dsimp only; omega), fun p hp => ?_⟩⟩⟩⟩⟩
      exact (List.mem_append.mp hp).elim (fun h => (oA p h).2.2.2) fun h => (off p h).2.2.2
    have hC2 := hC.mono (l' := (g2, kla_obj "<lambda>" (qLam "_law_register") (lR 3).params (lR 3).body (lR 3).scope [("mark", L' + 1)] ((mg "__name__").getD .none) c2 ctv2) :: (c2, oc2) :: (482, tabObj qs') :: (454, tabObj ps') :: (L' + 1, o1) :: (ownA ++ news)) fun p hp => List.mem_cons_of_mem _ (List.mem_cons_of_mem _ (List.mem_cons_of_mem _ (List.mem_cons_of_mem _ (List.mem_cons_of_mem _ (List.mem_append_right _ hp)))))
    (try dsimp only)
    (focus ((iterate 2 walk1)))
    first | refine spec_facOut (C := C) (xs := xs) (by rfl) (by rfl) (Nat.le_of_ble_eq_true (by rfl)) (Nat.le_of_ble_eq_true (by rfl)) (by rfl) (by rfl) (by k_asm) (by k_asm) (by k_asm) (by k_asm) (by k_asm) hod z1 z2 nhd hl hC2 ?_ | refine spec_facOutC (C := C) (xs := xs) (by rfl) (by rfl) (Nat.le_of_ble_eq_true (by rfl)) (Nat.le_of_ble_eq_true (by rfl)) (by rfl) (by rfl) (by k_asm) (by k_asm) (by k_asm) (by k_asm) (by k_asm) hod z1 z2 nhd hl hC2 hk' ?_
    intro tup od' h4 tk4 F4 N7 lt4 hod4
    have lt5 : @LT.lt Nat _ L' tup := Nat.lt_trans (Nat.lt_succ_self L') (lt4 (L' + 1, o1) (by k_mem))
    clear lt4
    (focus ((iterate 5 walk1)))
    rename News h₀ L _ _ => NN
    have km : ∀ p ∈ ownA, p ∈ (tup, tupObj [.ref f, .ref g2, .bool true, .bool false]) :: (g2, kla_obj "<lambda>" (qLam "_law_register") (lR 3).params (lR 3).body (lR 3).scope [("mark", L' + 1)] ((mg "__name__").getD .none) c2 ctv2) :: (c2, oc2) :: (L' + 1, o1) :: ownA := fun p hp => List.mem_cons_of_mem _ (List.mem_cons_of_mem _ (List.mem_cons_of_mem _ (List.mem_cons_of_mem _ hp)))
    refine hQ tup od' ps' qs' ((tup, tupObj [.ref f, .ref g2, .bool true, .bool false]) :: (g2, kla_obj "<lambda>" (qLam "_law_register") (lR 3).params (lR 3).body (lR 3).scope [("mark", L' + 1)] ((mg "__name__").getD .none) c2 ctv2) :: (c2, oc2) :: (L' + 1, o1) :: ownA) _ _ (by k_asm) ?_
      ⟨f, g2, cl, L' + 1, List.mem_cons_self, lamA.mono km, cellA.mono km, ⟨_, c2, ctv2, oc2, vs2, t2, by k_mem, by k_mem, hd3, hv3⟩, ⟨o1, by k_mem, d1⟩⟩ (tqA.mono ?_) (tq3.mono ?_) ?_ hod4
    · refine nSub NN (fun p hp => ?_)
      simp only [List.mem_cons, List.mem_append, List.cons_append] at hp ⊢
      rcases hp with h | h | h | h | h | h | h | h | h | h <;> simp only [h, true_or, or_true]
    · exact fun p hp => (List.mem_append.mp hp).elim (fun h => List.mem_append_left _ (km p h)) fun h => List.mem_append_right _ h
    · exact List.forall_mem_cons.mpr ⟨List.mem_append_left _ (by k_mem), fun p hp => List.mem_append_right _ hp⟩
    · have fin : ∀ p : Addr × Obj, @LT.lt Nat _ L' p.1 → p.1 ∉ ([454, 482, C.O.hp, C.O.dd] : List Addr) ∧ ((∀ q ∈ (454, tabObj ps) :: (482, tabObj qs) :: (C.O.hp, W.listOf xs.toArray n) :: (C.O.dd, od) :: news, @LT.lt Nat _ q.1 p.1) ∨ p ∈ imm) := fun p h => by
        refine ⟨?_, .inl ?_⟩
        · simp only [List.mem_cons, List.not_mem_nil, or_false, not_or]
          exact ⟨neN (by omega), neN (by omega), neN (by omega), neN (by omega)⟩
        · refine List.forall_mem_cons.mpr ⟨by dsimp only; omega, List.forall_mem_cons.mpr ⟨by dsimp only; omega, List.forall_mem_cons.mpr ⟨by dsimp only; omega, List.forall_mem_cons.mpr ⟨by dsimp only; omega, fun q hq => ?_⟩⟩⟩⟩
          exact Nat.lt_trans (ln q hq) h
      refine List.forall_mem_cons.mpr ⟨fin _ lt5, List.forall_mem_cons.mpr ⟨fin _ lg, List.forall_mem_cons.mpr ⟨?_, List.forall_mem_cons.mpr ⟨fin _ (Nat.lt_succ_self L'), fun p hp => ?_⟩⟩⟩⟩
      · rcases kc with h | h
        · exact fin _ h
        · exact ⟨ne _ (sub _ h), .inr h⟩
      · rcases old p hp with h | h
        · exact fin _ h
        · exact ⟨ne _ (sub _ h), .inr h⟩)
end
end
example {M : Model} {A : Around} {E Q : Value → Shared → Prop} {s : Shared} (h : wpAny M A (pure .none) Q E s) : wpAny M A (pure .none) Q E s := by
  w_top off
  first
    | (walk1; fail)
    | exact h
section
local macro_rules | `(tactic| walk_at "MY:mem") => `(tactic| first | exact List.mem_cons_self | (refine' List.mem_cons_of_mem _ ?_; walk_at "MY:mem") | assumption | ktr_member)
theorem ite_both {c : Prop} [Decidable c] {p q : Prop} (h1 : c → p) (h2 : ¬ c → q) : if c then p else q := by
  by_cases h : c
  · rw [if_pos h]; exact h1 h
  · rw [if_neg h]; exact h2 h
/-- the plain last resorts of a class -/
def plainO : Bool → Addr
  | true => 350
  | false => 216
def plainI : Bool → Addr
  | true => 357
  | false => 223
section
variable {w : World} {A₀ A : Around} {base h₀ : Heap} {env : Env} {outer : List Env} {L : Addr} {m mg mb : Str → Option Value} {p : Program} {loose : List Str} {mean : ExcName → Option Value} {s : Shared} {Q E : Value → Shared → Prop} {news l : List (Addr × Obj)}
theorem spec_copied {C : Conv} {imm : List (Addr × Obj)} {ps : Array Value} {xsO xsI : List Value} {nO nI : Nat} {d : Int} {td : Tok}
    (hA : A.frames = some (env :: outer)) (hh : A.handled = none) (hd : A.depth ≤ 312) (hu : A.units ≤ 520) (hf : env.frame = some L) (hke : env.scope.kind = .function)
    (B : Below A₀ base outer h₀) (F : Fr h₀ L s.heap m) (X : (Mine.hd.heap_39 w.params).In h₀) (T : Top p loose mean mg mb h₀)
    (N : News h₀ L s.heap ((226, tabObj ps) :: news)) (tq : TabQ (qLam "BaseConverter.__init__") ps imm) (sub : ∀ p ∈ imm, p ∈ news) (ne2 : ∀ p ∈ news, p.1 ≠ 226)
    (hC : ConvAt w news C) (m1 : (C.O.hp, W.listOf xsO.toArray nO) ∈ news) (m2 : (C.I.hp, W.listOf xsI.toArray nI) ∈ news) (hO : 1 ≤ xsO.length) (hI : 2 ≤ xsI.length) (hO2 : xsO.length ≤ 100) (hI2 : xsI.length ≤ 100)
    (hQ : ∀ (C' : Conv) odO odI nO' nI' ps' own h' tk, C'.k = C.k → C'.uf = .ref (plainO C.k) → C'.sf = .ref (plainI C.k) → Fr h₀ L h' m →
      News h₀ L h' ((226, tabObj ps') :: (C'.O.hp, W.listOf (xsO.take (xsO.length - 1) ++ [Value.ref C'.tO]).toArray nO') :: (C'.O.dd, odO) :: (C'.I.hp, W.listOf (xsI.take (xsI.length - 2) ++ [Value.ref C'.tC, Value.ref C'.tB]).toArray nI') :: (C'.I.dd, odI) :: (own ++ news)) →
      ConvAt w own C' → TabQ (qLam "BaseConverter.__init__") ps' (own ++ imm) → odO.IsDictOf (strKind PROG w) [] → odI.IsDictOf (strKind PROG w) [] → Fresh4 ((226, tabObj ps) :: news) own imm C' →
      Q (.ref C'.x) { s with heap := h', toks := tk }) :
    wpAny (model PROG w) A (call (.ref 466) [.ref C.x, .int d td] []) Q E s := by
  refine wp_le 312 520 hA hh hd hu ?_
  have hobj := hC.obj
  rcases hobj with ⟨dx, fb, om, ov, ua, pv, dv, i1, i2, hk', ho, hd0, hov⟩ | ⟨dx, pv, dv, i1, i2, hk', ho, hd0⟩
  all_goals (
    walk_at "MY:enter"
    (try dsimp only)
    (focus ((iterate 11 walk1)))
    refine ite_both (fun _ => ?_) (fun _ => ?_)
    · (focus ((iterate 7 walk1)))
      first
        | refine spec_copyC (C := C) (imm := imm) (pa := .none) (da := .none) (xsO := xsO) (xsI := xsI) (by rfl) (by rfl) (Nat.le_of_ble_eq_true (by rfl)) (Nat.le_of_ble_eq_true (by rfl)) (by rfl) (by rfl) (by k_asm) (by k_asm) (by k_asm) (by k_asm) ?hb (.inl ⟨rfl, rfl⟩) (by k_asm) tq sub ne2 hC hk' m1 m2 hO hI hO2 hI2 ?hQ
        | refine spec_copyB (C := C) (imm := imm) (pa := .none) (da := .none) (xsO := xsO) (xsI := xsI) (by rfl) (by rfl) (Nat.le_of_ble_eq_true (by rfl)) (Nat.le_of_ble_eq_true (by rfl)) (by rfl) (by rfl) (by k_asm) (by k_asm) (by k_asm) (by k_asm) ?hb (.inl ⟨rfl, rfl⟩) (by k_asm) tq sub ne2 hC hk' m1 m2 hO hI hO2 hI2 ?hQ
      case hb => exact ⟨_, _, by k_is, rfl, binds_K (by k_in) rfl (by k_is) rfl rfl rfl⟩
      case hQ =>
        intro C' odO odI nO' nI' ps' own h2 tk2 k1 k2 k3 F2 N2 hC' tq' hdO hdI fr
        (focus (walk1))
        rw [hk'] at hQ
        exact hQ C' odO odI nO' nI' ps' own _ _ k1 k2 k3 (by k_asm) (by k_asm) hC' tq' hdO hdI fr
    · (focus ((iterate 29 walk1)))
      first
        | refine spec_copyC (C := C) (imm := imm) (pa := .bool ((d.fdiv 3).fmod 2 == 1)) (da := .bool (d.fmod 3 == 1)) (xsO := xsO) (xsI := xsI) (by rfl) (by rfl) (Nat.le_of_ble_eq_true (by rfl)) (Nat.le_of_ble_eq_true (by rfl)) (by rfl) (by rfl) (by k_asm) (by k_asm) (by k_asm) (by k_asm) ?hb (.inr ⟨_, _, rfl, rfl⟩) (by k_asm) tq sub ne2 hC hk' m1 m2 hO hI hO2 hI2 ?hQ
        | refine spec_copyB (C := C) (imm := imm) (pa := .bool ((d.fdiv 3).fmod 2 == 1)) (da := .bool (d.fmod 3 == 1)) (xsO := xsO) (xsI := xsI) (by rfl) (by rfl) (Nat.le_of_ble_eq_true (by rfl)) (Nat.le_of_ble_eq_true (by rfl)) (by rfl) (by rfl) (by k_asm) (by k_asm) (by k_asm) (by k_asm) ?hb (.inr ⟨_, _, rfl, rfl⟩) (by k_asm) tq sub ne2 hC hk' m1 m2 hO hI hO2 hI2 ?hQ
      case hb => exact ⟨_, _, by k_is, rfl, binds_K (by k_in) rfl (by k_is) rfl rfl rfl⟩
      case hQ =>
        intro C' odO odI nO' nI' ps' own h2 tk2 k1 k2 k3 F2 N2 hC' tq' hdO hdI fr
        (focus (walk1))
        rw [hk'] at hQ
        exact hQ C' odO odI nO' nI' ps' own _ _ k1 k2 k3 (by k_asm) (by k_asm) hC' tq' hdO hdI fr)
end
end
example {M : Model} {A : Around} {E Q : Value → Shared → Prop} {s : Shared} (h : wpAny M A (pure .none) Q E s) : wpAny M A (pure .none) Q E s := by
  w_top off
  first
    | (walk1; fail)
    | exact h
section
section
variable {w : World} {A₀ A : Around} {base h₀ : Heap} {env : Env} {outer : List Env} {L : Addr} {m mg mb : Str → Option Value} {p : Program} {loose : List Str} {mean : ExcName → Option Value} {s : Shared} {Q E : Value → Shared → Prop} {news l : List (Addr × Obj)}
theorem spec_newC4 {imm : List (Addr × Obj)} {ps : Array Value} {ov : Addr} {om fb pv dv ua : Bool} {uf sf : Value} {pos : List Value} {kw : List (Str × Value)}
    (hA : A.frames = some (env :: outer)) (hh : A.handled = none) (hd : A.depth ≤ 325) (hu : A.units ≤ 650) (hf : env.frame = some L) (hke : env.scope.kind = .function)
    (B : Below A₀ base outer h₀) (F : Fr h₀ L s.heap m) (X : (Mine.hd.heap_39 w.params).In h₀) (T : Top p loose mean mg mb h₀)
    (hb : ∀ x s', (Mine.hd.heap_39 w.params).In s'.heap → BindsF w.params s' 366 ⟨.ref x :: pos, kw⟩ [("self", .ref x), ("omit_if_default", .bool om), ("forbid_extra_keys", .bool fb), ("type_overrides", .ref ov), ("prefer_attrib_converters", .bool pv), ("detailed_validation", .bool dv), ("unstructure_fallback_factory", uf), ("structure_fallback_factory", sf), ("use_alias", .bool ua)])
    (N : News h₀ L s.heap ((226, tabObj ps) :: news)) (tq : TabQ (qLam "BaseConverter.__init__") ps imm) (sub : ∀ p ∈ imm, p ∈ news) (hov : OvAt w news ov) (ne2 : ∀ p ∈ news, p.1 ≠ 226)
    (hQ : ∀ (C : Conv) odO odI ps' own h' tk, C.k = true → C.uf = uf → C.sf = sf → Fr h₀ L h' m →
      News h₀ L h' ((226, tabObj ps') :: (C.O.hp, W.listOf [.ref C.tO].toArray 1) :: (C.O.dd, odO) :: (C.I.hp, W.listOf [.ref C.tC, .ref C.tB].toArray 2) :: (C.I.dd, odI) :: (own ++ news)) →
      ConvAt w own C → TabQ (qLam "BaseConverter.__init__") ps' (own ++ imm) → odO.IsDictOf (strKind PROG w) [] → odI.IsDictOf (strKind PROG w) [] → Fresh4 ((226, tabObj ps) :: news) own imm C →
      Q (.ref C.x) { s with heap := h', toks := tk }) :
    wpAny (model PROG w) A (call (.ref 410) pos kw) Q E s := by
  refine spec_newC (imm := imm) hA hh hd hu hf hke B F X T hb N tq sub hov ne2 ?_
  intro C t5 t6 t7 t8 odO odI ps' own h' tk k1 k2 k3 F' N' bC tq' ho hi fr
  obtain ⟨lo, c1, c2, c3, c4, c5, s1, s2, off⟩ := fr
  have km : ∀ p ∈ own, p ∈ (C.O.dfd, fdDict w t5 t6 (.ref C.x) C.O.hp) :: (C.I.dfd, fdDict w t7 t8 (.ref C.x) C.I.hp) :: own := fun p hp => List.mem_cons_of_mem _ (List.mem_cons_of_mem _ hp)
  refine hQ C odO odI ps' ((C.O.dfd, fdDict w t5 t6 (.ref C.x) C.O.hp) :: (C.I.dfd, fdDict w t7 t8 (.ref C.x) C.I.hp) :: own) h' tk k1 k2 k3 F' ?_ ⟨bC.mono km, ⟨t5, t6, List.mem_cons_self⟩, ⟨t7, t8, List.mem_cons_of_mem _ List.mem_cons_self⟩⟩ (tq'.mono fun p hp => List.mem_cons_of_mem _ (List.mem_cons_of_mem _ hp)) ho hi ⟨?_, ?_, ?_, ?_, ?_, ?_, ?_, ?_, ?_, ?_, s1, s2, ?_⟩
  · refine nSub N' (fun p hp => ?_)
    simp only [List.mem_cons, List.mem_append, List.cons_append] at hp ⊢
    rcases hp with h | h | h | h | h | h | h | h | h <;> simp only [h, true_or, or_true]
  · intro q hq; have := lo q hq; omega
  · exact lo
  · intro q hq; have := lo q hq; omega
  · intro q hq; have := lo q hq; omega
  · omega
  · omega
  · omega
  · omega
  · omega
  · omega
  · refine List.forall_mem_cons.mpr ⟨⟨neN (by dsimp only; omega), neN (by dsimp only; omega), neN (by dsimp only; omega), neN (by dsimp only; omega), .inl fun q hq => ?_⟩, List.forall_mem_cons.mpr ⟨⟨neN (by dsimp only; omega), neN (by dsimp only; omega), neN (by dsimp only; omega), neN (by dsimp only; omega), .inl fun q hq => ?_⟩, fun p hp => ?_⟩⟩
    · have := lo q hq; dsimp only; omega
    · have := lo q hq; dsimp only; omega
    · obtain ⟨o1, o2, o3, o4, o5, o6, o7⟩ := off p hp
      exact ⟨o1, o2, o4, o5, o7⟩
theorem spec_newB4 {imm : List (Addr × Obj)} {ps : Array Value} {pv dv : Bool} {uf sf : Value} {pos : List Value} {kw : List (Str × Value)}
    (hA : A.frames = some (env :: outer)) (hh : A.handled = none) (hd : A.depth ≤ 325) (hu : A.units ≤ 650) (hf : env.frame = some L) (hke : env.scope.kind = .function)
    (B : Below A₀ base outer h₀) (F : Fr h₀ L s.heap m) (X : (Mine.hd.heap_39 w.params).In h₀) (T : Top p loose mean mg mb h₀)
    (hb : ∀ x s', (Mine.hd.heap_39 w.params).In s'.heap → BindsF w.params s' 231 ⟨.ref x :: pos, kw⟩ [("self", .ref x), ("prefer_attrib_converters", .bool pv), ("detailed_validation", .bool dv), ("unstructure_fallback_factory", uf), ("structure_fallback_factory", sf)])
    (N : News h₀ L s.heap ((226, tabObj ps) :: news)) (tq : TabQ (qLam "BaseConverter.__init__") ps imm) (sub : ∀ p ∈ imm, p ∈ news) (ne2 : ∀ p ∈ news, p.1 ≠ 226)
    (hQ : ∀ (C : Conv) odO odI ps' own h' tk, C.k = false → C.uf = uf → C.sf = sf → Fr h₀ L h' m →
      News h₀ L h' ((226, tabObj ps') :: (C.O.hp, W.listOf [.ref C.tO].toArray 1) :: (C.O.dd, odO) :: (C.I.hp, W.listOf [.ref C.tC, .ref C.tB].toArray 2) :: (C.I.dd, odI) :: (own ++ news)) →
      ConvAt w own C → TabQ (qLam "BaseConverter.__init__") ps' (own ++ imm) → odO.IsDictOf (strKind PROG w) [] → odI.IsDictOf (strKind PROG w) [] → Fresh4 ((226, tabObj ps) :: news) own imm C →
      Q (.ref C.x) { s with heap := h', toks := tk }) :
    wpAny (model PROG w) A (call (.ref 321) pos kw) Q E s := by
  refine spec_newB (imm := imm) hA hh hd hu hf hke B F X T hb N tq sub ne2 ?_
  intro C t5 t6 t7 t8 odO odI ps' own h' tk k1 k2 k3 F' N' bC tq' ho hi fr
  obtain ⟨lo, c1, c2, c3, c4, c5, s1, s2, off⟩ := fr
  have km : ∀ p ∈ own, p ∈ (C.O.dfd, fdDict w t5 t6 (.ref C.x) C.O.hp) :: (C.I.dfd, fdDict w t7 t8 (.ref C.x) C.I.hp) :: own := fun p hp => List.mem_cons_of_mem _ (List.mem_cons_of_mem _ hp)
  refine hQ C odO odI ps' ((C.O.dfd, fdDict w t5 t6 (.ref C.x) C.O.hp) :: (C.I.dfd, fdDict w t7 t8 (.ref C.x) C.I.hp) :: own) h' tk k1 k2 k3 F' ?_ ⟨bC.mono km, ⟨t5, t6, List.mem_cons_self⟩, ⟨t7, t8, List.mem_cons_of_mem _ List.mem_cons_self⟩⟩ (tq'.mono fun p hp => List.mem_cons_of_mem _ (List.mem_cons_of_mem _ hp)) ho hi ⟨?_, ?_, ?_, ?_, ?_, ?_, ?_, ?_, ?_, ?_, s1, s2, ?_⟩
  · refine nSub N' (fun p hp => ?_)
    simp only [List.mem_cons, List.mem_append, List.cons_append] at hp ⊢
    rcases hp with h | h | h | h | h | h | h | h | h <;> simp only [h, true_or, or_true]
  · intro q hq; have := lo q hq; omega
  · exact lo
  · intro q hq; have := lo q hq; omega
  · intro q hq; have := lo q hq; omega
  · omega
  · omega
  · omega
  · omega
  · omega
  · omega
  · refine List.forall_mem_cons.mpr ⟨⟨neN (by dsimp only; omega), neN (by dsimp only; omega), neN (by dsimp only; omega), neN (by dsimp only; omega), .inl fun q hq => ?_⟩, List.forall_mem_cons.mpr ⟨⟨neN (by dsimp only; omega), neN (by dsimp only; omega), neN (by dsimp only; omega), neN (by dsimp only; omega), .inl fun q hq => ?_⟩, fun p hp => ?_⟩⟩
    · have := lo q hq; dsimp only; omega
    · have := lo q hq; dsimp only; omega
    · obtain ⟨o1, o2, o3, o4, o5, o6, o7⟩ := off p hp
      exact ⟨o1, o2, o4, o5, o7⟩
end
theorem ovAt_343 {w : World} {l : List (Addr × Obj)} : OvAt w l 343 := ⟨rfl, _, ⟨#[], 0, ⟨rfl, rfl, rfl⟩, rfl, (fun _ he => by simp at he), Pairs.nil, List.nodup_nil⟩, .inr rfl⟩
end
example {M : Model} {A : Around} {E Q : Value → Shared → Prop} {s : Shared} (h : wpAny M A (pure .none) Q E s) : wpAny M A (pure .none) Q E s := by
  w_top off
  first
    | (walk1; fail)
    | exact h
section
local macro_rules | `(tactic| walk_at "MY:mem") => `(tactic| first | exact List.mem_cons_self | (refine' List.mem_cons_of_mem _ ?_; walk_at "MY:mem") | assumption | ktr_member)
local macro_rules | `(tactic| walk_at "MY:enterC") => `(tactic| (
  refine wpAny_call ?_
  k_dflt (refine' code_defC ?k1 ?k2 ?k3 ?k4 ?k5 ?kA ?kF ?kK ?k6 ?k7 ?k8 ?k9 ?kB ?kD ?_ ?c2 ?c3 ?c4)
  (case kA => exact rfl); (case kF => first | exact rfl | assumption); (case kK => first | exact rfl | assumption); (case k1 => k_asm); (case k2 => k_asm); (case k3 => k_asm); (case k4 => k_asm); (case k5 => k_asm); (case k6 => k_is); (case k7 => k_is); (case k8 => k_room)
  (case k9 => first | exact BindsTo.of_eq rfl | exact binds_K (by k_in) rfl (by k_is) rfl rfl rfl)
  (case kB => exact rfl); (case kD => decide +kernel); (case c2 => exact rfl); (case c3 => exact rfl); (case c4 => exact rfl)))
theorem Fresh4.old {old old' own imm : List (Addr × Obj)} {C : Conv} (f : Fresh4 old own imm C) (k : ∀ p ∈ old', p ∈ old) : Fresh4 old' own imm C :=
  ⟨fun q h => f.lo1 q (k q h), fun q h => f.lo2 q (k q h), fun q h => f.lo3 q (k q h), fun q h => f.lo4 q (k q h), f.n1, f.n2, f.n3, f.n4, f.n5, f.n6, f.s1, f.s2, fun p hp =>
    let ⟨a, b, c, d, e⟩ := f.own p hp; ⟨a, b, c, d, e.imp (fun h q hq => h q (k q hq)) id⟩⟩
theorem Fresh4.cons {old own imm : List (Addr × Obj)} {C : Conv} (f : Fresh4 old own imm C) {p : Addr × Obj}
    (h : p.1 ≠ C.O.hp ∧ p.1 ≠ C.O.dd ∧ p.1 ≠ C.I.hp ∧ p.1 ≠ C.I.dd ∧ ((∀ q ∈ old, @LT.lt Nat _ q.1 p.1) ∨ p ∈ imm)) : Fresh4 old (p :: own) imm C :=
  { f with own := List.forall_mem_cons.mpr ⟨h, f.own⟩ }
/-- what the last resorts of a new converter are -/
def FbAt (l : List (Addr × Obj)) (C : Conv) (ow : Bool) (mk : Value) : Prop :=
  (ow = false ∧ C.uf = .ref (plainO C.k) ∧ C.sf = .ref (plainI C.k)) ∨
  (ow = true ∧ ∃ fo fi cm, C.uf = .ref fo ∧ C.sf = .ref fi ∧ LamAt l fo (qLam "_law_new") lOut [("mark", cm)] ∧ LamAt l fi (qLam "_law_new") lInto [("mark", cm)] ∧ CellAt l cm mk)
theorem FbAt.mono {l l' : List (Addr × Obj)} {C : Conv} {ow : Bool} {mk : Value} (h : FbAt l C ow mk) (k : ∀ p ∈ l, p ∈ l') : FbAt l' C ow mk :=
  h.imp id fun ⟨a, fo, fi, cm, b, c, d, e, f⟩ => ⟨a, fo, fi, cm, b, c, d.mono k, e.mono k, f.mono k⟩
theorem news_6f {h₀ h : Heap} {L : Addr} {a b c d e f : Addr × Obj} {l : List (Addr × Obj)} (N : News h₀ L h (a :: b :: c :: d :: e :: f :: l)) : News h₀ L h (f :: a :: b :: c :: d :: e :: l) := nSub N fun p hp => by
  simp only [List.mem_cons] at hp ⊢
  rcases hp with h | h | h | h | h | h | h <;> simp only [h, true_or, or_true]
section
variable {w : World} {A₀ A : Around} {base h₀ : Heap} {env : Env} {outer : List Env} {L : Addr} {m mg mb : Str → Option Value} {p : Program} {loose : List Str} {mean : ExcName → Option Value} {s : Shared} {Q E : Value → Shared → Prop} {news l : List (Addr × Obj)}
theorem spec_new {imm : List (Addr × Obj)} {ps qs : Array Value} {mk : Value} {d : Int} {td : Tok}
    (hA : A.frames = some (env :: outer)) (hh : A.handled = none) (hd : A.depth ≤ 320) (hu : A.units ≤ 600) (hf : env.frame = some L) (hke : env.scope.kind = .function)
    (B : Below A₀ base outer h₀) (F : Fr h₀ L s.heap m) (X : (Mine.hd.heap_39 w.params).In h₀) (T : Top p loose mean mg mb h₀)
    (N : News h₀ L s.heap ((226, tabObj ps) :: (447, tabObj qs) :: news)) (tq1 : TabQ (qLam "BaseConverter.__init__") ps imm) (tq2 : TabQ (qLam "_law_new") qs imm) (sub : ∀ p ∈ imm, p ∈ news)
    (ne : ∀ p ∈ news, p.1 ∉ ([226, 447] : List Addr))
    (hQ : ∀ (C : Conv) ow tp odO odI nO nI ps' qs' own h' tk, Fr h₀ L h' m →
      News h₀ L h' ((226, tabObj ps') :: (447, tabObj qs') :: (C.O.hp, W.listOf [.ref C.tO].toArray nO) :: (C.O.dd, odO) :: (C.I.hp, W.listOf [.ref C.tC, .ref C.tB].toArray nI) :: (C.I.dd, odI) :: (own ++ news)) →
      (tp, tupObj [.ref C.x, .bool ow]) ∈ own → ConvAt w own C → FbAt own C ow mk → TabQ (qLam "BaseConverter.__init__") ps' (own ++ imm) → TabQ (qLam "_law_new") qs' (own ++ imm) → odO.IsDictOf (strKind PROG w) [] → odI.IsDictOf (strKind PROG w) [] →
      Fresh4 ((226, tabObj ps) :: (447, tabObj qs) :: news) own imm C → (∀ p ∈ own, p.1 ≠ 226 ∧ p.1 ≠ 447) → Q (.ref tp) { s with heap := h', toks := tk }) :
    wpAny (model PROG w) A (call (.ref 452) [mk, .int d td] []) Q E s := by
  refine wp_le 320 600 hA hh hd hu ?_
  have off : ∀ p ∈ news, p.1 ≠ 226 ∧ p.1 ≠ 447 := fun p hp => by
    have h := ne p hp
    simp only [List.mem_cons, List.not_mem_nil, or_false, not_or] at h
    exact h
  walk_at "MY:enterC"
  intro g' L' h' tk' cells' FG' F' N' Y' B' X' T' l1
  obtain ⟨o1, hE, d1⟩ := CellsAre.one Y'; subst hE; clear Y'
  simp only [List.cons_append, List.nil_append] at N'
  have C2 : CodeHd g' 451 447 := codeHd_of_K X' (by kernel_rfl)
  have la : @LT.lt Nat _ 226 L' := l1 (226, _) (by k_mem)
  have lb : @LT.lt Nat _ 447 L' := l1 (447, _) (by k_mem)
  have ln : ∀ p ∈ news, @LT.lt Nat _ p.1 L' := fun p hp => l1 p (by walk_at "MY:tail")
  clear l1
  (try dsimp only)
  (focus ((iterate 10 walk1)))
  refine ite_both (fun _ => ?_) (fun _ => ?_)
  · have N2 : News g' L' h' ((226, tabObj ps) :: (L' + 1, o1) :: (447, tabObj qs) :: news) := nSub N' (by walk_at "MY:sub")
    have z0 : ∀ p ∈ (L' + 1, o1) :: (447, tabObj qs) :: news, p.1 ≠ 226 := List.forall_mem_cons.mpr ⟨neN (by dsimp only; omega), List.forall_mem_cons.mpr ⟨neN (by dsimp only; decide), fun p hp => (off p hp).1⟩⟩
    clear N'
    (focus ((iterate 16 walk1)))
    refine ite_both (fun _ => ?_) (fun _ => ?_)
    all_goals (
      (focus ((iterate 3 walk1)))
      first
        | refine spec_newC4 (imm := imm) (ov := 343) (om := false) (fb := false) (pv := false) (dv := true) (ua := false) (uf := .ref 350) (sf := .ref 357) (by rfl) (by rfl) (Nat.le_of_ble_eq_true (by rfl)) (Nat.le_of_ble_eq_true (by rfl)) (by rfl) (by rfl) (by k_asm) (by k_asm) (by k_asm) (by k_asm) ?hb (by k_asm) tq1 (fun p hp => List.mem_cons_of_mem _ (List.mem_cons_of_mem _ (sub p hp))) ovAt_343 z0 ?_
        | refine spec_newB4 (imm := imm) (pv := false) (dv := true) (uf := .ref 216) (sf := .ref 223) (by rfl) (by rfl) (Nat.le_of_ble_eq_true (by rfl)) (Nat.le_of_ble_eq_true (by rfl)) (by rfl) (by rfl) (by k_asm) (by k_asm) (by k_asm) (by k_asm) ?hb (by k_asm) tq1 (fun p hp => List.mem_cons_of_mem _ (List.mem_cons_of_mem _ (sub p hp))) z0 ?_
      case hb => exact fun x s' X => ⟨_, _, by k_is, rfl, binds_K X rfl (by k_is) rfl rfl rfl⟩
      intro C odO odI ps' own h2 tk2 k1 k2 k3 F2 N3 hC' tq' hdO hdI fr
      generalize htl : own ++ (L' + 1, o1) :: (447, tabObj qs) :: news = tl at N3
      (try dsimp only)
      (focus ((iterate 3 walk1)))
      k_dflt (refine' kup_newTuple ?F ?N ?_ ?z)
      (case F => k_asm); (case N => k_asm); (case z => kmk_size)
      intro tp h3 F3 N4 lt4
      have l9 : ∀ p ∈ tl, @LT.lt Nat _ p.1 tp := fun p hp => lt4 p (by walk_at "MY:tail")
      have la1 : @LT.lt Nat _ C.O.hp tp := lt4 (C.O.hp, _) (by k_mem)
      have la2 : @LT.lt Nat _ C.O.dd tp := lt4 (C.O.dd, _) (by k_mem)
      have la3 : @LT.lt Nat _ C.I.hp tp := lt4 (C.I.hp, _) (by k_mem)
      have la4 : @LT.lt Nat _ C.I.dd tp := lt4 (C.I.dd, _) (by k_mem)
      have la5 : @LT.lt Nat _ 226 tp := lt4 (226, _) (by k_mem)
      clear lt4
      have la6 : @LT.lt Nat _ 447 tp := l9 (447, _) (by subst htl; exact List.mem_append_right _ (List.mem_cons_of_mem _ List.mem_cons_self))
      (try dsimp only)
      (focus (walk1))
      rename News h₀ L _ _ => NN
      subst htl
      have km : ∀ p ∈ own, p ∈ (tp, tupObj [.ref C.x, .bool false]) :: own := fun p hp => List.mem_cons_of_mem _ hp
      refine hQ C false tp odO odI 1 2 ps' qs ((tp, tupObj [.ref C.x, .bool false]) :: own) _ _ (by k_asm) (nSub NN ?_) List.mem_cons_self (hC'.mono km) (.inl ⟨rfl, ?_, ?_⟩) (tq'.mono fun p hp => List.mem_cons_of_mem _ hp) (tq2.mono fun p hp => List.mem_append_right _ hp) hdO hdI ((fr.old ?_).cons ?_) ?_
      · intro p hp
        simp only [List.mem_cons, List.mem_append, List.cons_append] at hp ⊢
        rcases hp with h | h | h | h | h | h | h | h | h <;> simp only [h, true_or, or_true]
      · rw [k1, k2]; rfl
      · rw [k1, k3]; rfl
      · intro p hp
        simp only [List.mem_cons] at hp ⊢
        rcases hp with h | h | h <;> simp only [h, true_or, or_true]
      · refine ⟨neN (by dsimp only; omega), neN (by dsimp only; omega), neN (by dsimp only; omega), neN (by dsimp only; omega), .inl (List.forall_mem_cons.mpr ⟨la5, List.forall_mem_cons.mpr ⟨la6, fun q hq => l9 q ?_⟩⟩)⟩
        exact List.mem_append_right _ (List.mem_cons_of_mem _ (List.mem_cons_of_mem _ hq))
      · refine List.forall_mem_cons.mpr ⟨⟨neN (by dsimp only; omega), neN (by dsimp only; omega)⟩, fun p hp => ?_⟩
        rcases (fr.own p hp).2.2.2.2 with h | h
        · have e1 := h (226, tabObj ps) List.mem_cons_self
          have e2 := h (447, tabObj qs) (by k_mem)
          exact ⟨neN (by dsimp only at e1; omega), neN (by dsimp only at e2; omega)⟩
        · exact off p (sub p h))
  · have N2 : News g' L' h' ((447, tabObj qs) :: (226, tabObj ps) :: (L' + 1, o1) :: news) := nSub N' (by walk_at "MY:sub")
    clear N'
    have z4 : ∀ p ∈ (226, tabObj ps) :: (L' + 1, o1) :: news, p.1 ≠ 447 := List.forall_mem_cons.mpr ⟨neN (by dsimp only; decide), List.forall_mem_cons.mpr ⟨neN (by dsimp only; omega), fun p hp => (off p hp).2⟩⟩
    (focus ((iterate 3 walk1)))
    refine kla_eval (by exact rfl) ?_
    refine kla_any (c := 451) imm (by k_asm) (by k_asm) (by k_asm) C2 (by exact rfl) (Upd1.head z4) tq2 ?sub2 ?off2 (by exact rfl) ?_
    case sub2 => exact fun p hp => List.mem_cons_of_mem _ (List.mem_cons_of_mem _ (List.mem_cons_of_mem _ (sub p hp)))
    case off2 => exact fun p hp => (off p (sub p hp)).2
    intro f1 c1 oc1 vs1 t1 ctv1 qs1 h2 tk2 F2 N3 tq3 hd1 hv1 lf1 lcf1 kin1
    (try dsimp only at N3)
    have lg1 : @LT.lt Nat _ L' f1 := Nat.lt_trans (Nat.lt_succ_self L') (lf1 (L' + 1, o1) (by k_mem))
    have kc1 : @LT.lt Nat _ L' c1 ∨ (c1, oc1) ∈ imm := kin1.imp (fun h => Nat.lt_trans (Nat.lt_succ_self L') (h (L' + 1, o1) (by k_mem))) id
    have oo1 : c1 ≠ 226 ∧ c1 ≠ 447 := by
      rcases kc1 with h | h
      · exact ⟨neN (by omega), neN (by omega)⟩
      · exact off _ (sub _ h)
    clear lf1 lcf1 kin1
    (try dsimp only)
    (focus ((iterate 4 walk1)))
    refine kla_eval (by exact rfl) ?_
    refine kla_any (c := 451) ((c1, oc1) :: imm) (by k_asm) (by k_asm) (by k_asm) C2 (by exact rfl) (Upd1.tail (neN (by dsimp only; omega)) (Upd1.tail oo1.2 (Upd1.head z4))) tq3 ?sub3 ?off3 (by exact rfl) ?_
    case sub3 => exact List.forall_mem_cons.mpr ⟨by k_mem, fun p hp => List.mem_cons_of_mem _ (List.mem_cons_of_mem _ (List.mem_cons_of_mem _ (List.mem_cons_of_mem _ (List.mem_cons_of_mem _ (sub p hp)))))⟩
    case off3 => exact List.forall_mem_cons.mpr ⟨oo1.2, fun p hp => (off p (sub p hp)).2⟩
    intro f2 c2 oc2 vs2 t2 ctv2 qs2 h3 tk3 F3 N4 tq4 hd2 hv2 lf2 lcf2 kin2
    (try dsimp only at N4)
    have lg2 : @LT.lt Nat _ L' f2 := Nat.lt_trans (Nat.lt_succ_self L') (lf2 (L' + 1, o1) (by k_mem))
    have kc2 : @LT.lt Nat _ L' c2 ∨ (c2, oc2) ∈ imm := by
      rcases kin2 with h | h
      · exact .inl (Nat.lt_trans (Nat.lt_succ_self L') (h (L' + 1, o1) (by k_mem)))
      · rcases List.mem_cons.mp h with e | h
        · obtain ⟨e1, e2⟩ := Prod.mk.inj e; rw [e1, e2]; exact kc1
        · exact .inr h
    have oo2 : c2 ≠ 226 ∧ c2 ≠ 447 := by
      rcases kc2 with h | h
      · exact ⟨neN (by omega), neN (by omega)⟩
      · exact off _ (sub _ h)
    clear lf2 lcf2 kin2
    have N5 := news_6f N4
    clear N4
    (try dsimp only)
    have z0 : ∀ p ∈ (f2, kla_obj "<lambda>" (qLam "_law_new") lInto.params lInto.body lInto.scope [("mark", L' + 1)] ((mg "__name__").getD .none) c2 ctv2) :: (c2, oc2) :: (f1, kla_obj "<lambda>" (qLam "_law_new") lOut.params lOut.body lOut.scope [("mark", L' + 1)] ((mg "__name__").getD .none) c1 ctv1) :: (c1, oc1) :: (447, tabObj qs2) :: (L' + 1, o1) :: news, p.1 ≠ 226 := by
      refine List.forall_mem_cons.mpr ⟨neN (by dsimp only; omega), List.forall_mem_cons.mpr ⟨oo2.1, List.forall_mem_cons.mpr ⟨neN (by dsimp only; omega), List.forall_mem_cons.mpr ⟨oo1.1, List.forall_mem_cons.mpr ⟨neN (by dsimp only; decide), List.forall_mem_cons.mpr ⟨neN (by dsimp only; omega), fun p hp => (off p hp).1⟩⟩⟩⟩⟩⟩
    (focus ((iterate 15 walk1)))
    refine ite_both (fun _ => ?_) (fun _ => ?_)
    focus (
      (focus ((iterate 14 walk1)))
      first
        | refine spec_newC4 (imm := imm) (ov := 343) (om := false) (fb := false) (pv := false) (dv := true) (ua := false) (uf := .ref f1) (sf := .ref f2) (by rfl) (by rfl) (Nat.le_of_ble_eq_true (by rfl)) (Nat.le_of_ble_eq_true (by rfl)) (by rfl) (by rfl) (by k_asm) (by k_asm) (by k_asm) (by k_asm) ?hb (by k_asm) tq1 (fun p hp => List.mem_cons_of_mem _ (List.mem_cons_of_mem _ (List.mem_cons_of_mem _ (List.mem_cons_of_mem _ (List.mem_cons_of_mem _ (List.mem_cons_of_mem _ (sub p hp))))))) ovAt_343 z0 ?_
        | refine spec_newB4 (imm := imm) (pv := false) (dv := true) (uf := .ref f1) (sf := .ref f2) (by rfl) (by rfl) (Nat.le_of_ble_eq_true (by rfl)) (Nat.le_of_ble_eq_true (by rfl)) (by rfl) (by rfl) (by k_asm) (by k_asm) (by k_asm) (by k_asm) ?hb (by k_asm) tq1 (fun p hp => List.mem_cons_of_mem _ (List.mem_cons_of_mem _ (List.mem_cons_of_mem _ (List.mem_cons_of_mem _ (List.mem_cons_of_mem _ (List.mem_cons_of_mem _ (sub p hp))))))) z0 ?_
      case hb => exact fun x s' X => ⟨_, _, by k_is, rfl, binds_K X rfl (by k_is) rfl rfl rfl⟩
      intro C odO odI ps' own h4 tk4 k1 k2 k3 F4 N6 hC' tq' hdO hdI fr
      generalize htl : own ++ (f2, kla_obj "<lambda>" (qLam "_law_new") lInto.params lInto.body lInto.scope [("mark", L' + 1)] ((mg "__name__").getD .none) c2 ctv2) :: (c2, oc2) :: (f1, kla_obj "<lambda>" (qLam "_law_new") lOut.params lOut.body lOut.scope [("mark", L' + 1)] ((mg "__name__").getD .none) c1 ctv1) :: (c1, oc1) :: (447, tabObj qs2) :: (L' + 1, o1) :: news = tl at N6
      (try dsimp only)
      (focus ((iterate 3 walk1)))
      k_dflt (refine' kup_newTuple ?F ?N ?_ ?z)
      (case F => k_asm); (case N => k_asm); (case z => kmk_size)
      intro tp h5 F5 N7 lt4
      have l9 : ∀ p ∈ tl, @LT.lt Nat _ p.1 tp := fun p hp => lt4 p (by walk_at "MY:tail")
      have la1 : @LT.lt Nat _ C.O.hp tp := lt4 (C.O.hp, _) (by k_mem)
      have la2 : @LT.lt Nat _ C.O.dd tp := lt4 (C.O.dd, _) (by k_mem)
      have la3 : @LT.lt Nat _ C.I.hp tp := lt4 (C.I.hp, _) (by k_mem)
      have la4 : @LT.lt Nat _ C.I.dd tp := lt4 (C.I.dd, _) (by k_mem)
      have la5 : @LT.lt Nat _ 226 tp := lt4 (226, _) (by k_mem)
      clear lt4
      have la6 : @LT.lt Nat _ 447 tp := l9 (447, tabObj qs2) (by subst htl; exact List.mem_append_right _ (by k_mem))
      have la7 : @LT.lt Nat _ L' tp := Nat.lt_trans (Nat.lt_succ_self L') (l9 (L' + 1, o1) (by subst htl; exact List.mem_append_right _ (by k_mem)))
      have big : ∀ q : Addr × Obj, q ∈ ((226, tabObj ps) :: (f2, kla_obj "<lambda>" (qLam "_law_new") lInto.params lInto.body lInto.scope [("mark", L' + 1)] ((mg "__name__").getD .none) c2 ctv2) :: (c2, oc2) :: (f1, kla_obj "<lambda>" (qLam "_law_new") lOut.params lOut.body lOut.scope [("mark", L' + 1)] ((mg "__name__").getD .none) c1 ctv1) :: (c1, oc1) :: (447, tabObj qs2) :: (L' + 1, o1) :: news) → q.1 ≠ C.O.hp ∧ q.1 ≠ C.O.dd ∧ q.1 ≠ C.I.hp ∧ q.1 ≠ C.I.dd := fun q hq =>
        ⟨Nat.ne_of_lt (fr.lo1 q hq), Nat.ne_of_lt (fr.lo2 q hq), Nat.ne_of_lt (fr.lo3 q hq), Nat.ne_of_lt (fr.lo4 q hq)⟩
      have b447 := fr.lo1 (447, tabObj qs2) (by k_mem)
      (try dsimp only)
      (focus (walk1))
      rename News h₀ L _ _ => NN
      subst htl
      have km : ∀ p ∈ own, p ∈ (tp, tupObj [.ref C.x, .bool true]) :: (f2, kla_obj "<lambda>" (qLam "_law_new") lInto.params lInto.body lInto.scope [("mark", L' + 1)] ((mg "__name__").getD .none) c2 ctv2) :: (c2, oc2) :: (f1, kla_obj "<lambda>" (qLam "_law_new") lOut.params lOut.body lOut.scope [("mark", L' + 1)] ((mg "__name__").getD .none) c1 ctv1) :: (c1, oc1) :: (L' + 1, o1) :: own := fun p hp => List.mem_cons_of_mem _ (List.mem_cons_of_mem _ (List.mem_cons_of_mem _ (List.mem_cons_of_mem _ (List.mem_cons_of_mem _ (List.mem_cons_of_mem _ hp)))))
      have old : ∀ p : Addr × Obj, @LT.lt Nat _ L' p.1 → ∀ q ∈ (226, tabObj ps) :: (447, tabObj qs) :: news, @LT.lt Nat _ q.1 p.1 := fun p h =>
        List.forall_mem_cons.mpr ⟨Nat.lt_trans la h, List.forall_mem_cons.mpr ⟨Nat.lt_trans lb h, fun q hq => Nat.lt_trans (ln q hq) h⟩⟩
      refine hQ C true tp odO odI 1 2 ps' qs2 ((tp, tupObj [.ref C.x, .bool true]) :: (f2, kla_obj "<lambda>" (qLam "_law_new") lInto.params lInto.body lInto.scope [("mark", L' + 1)] ((mg "__name__").getD .none) c2 ctv2) :: (c2, oc2) :: (f1, kla_obj "<lambda>" (qLam "_law_new") lOut.params lOut.body lOut.scope [("mark", L' + 1)] ((mg "__name__").getD .none) c1 ctv1) :: (c1, oc1) :: (L' + 1, o1) :: own) _ _ (by k_asm) (nSub NN ?_) List.mem_cons_self (hC'.mono km)
        (.inr ⟨rfl, f1, f2, L' + 1, k2, k3, ⟨_, c1, ctv1, oc1, vs1, t1, by k_mem, by k_mem, hd1, hv1⟩, ⟨_, c2, ctv2, oc2, vs2, t2, by k_mem, by k_mem, hd2, hv2⟩, ⟨o1, by k_mem, d1⟩⟩)
        (tq'.mono fun p hp => (List.mem_append.mp hp).elim (fun h => List.mem_append_left _ (km p h)) fun h => List.mem_append_right _ h) (tq4.mono ?_) hdO hdI ?_ ?_
      · intro p hp
        simp only [List.mem_cons, List.mem_append, List.cons_append] at hp ⊢
        rcases hp with h | h | h | h | h | h | h | h | h | h | h | h | h | h <;> simp only [h, true_or, or_true]
      · exact List.forall_mem_cons.mpr ⟨List.mem_append_left _ (by k_mem), List.forall_mem_cons.mpr ⟨List.mem_append_left _ (by k_mem), fun p hp => List.mem_append_right _ hp⟩⟩
      · have fr2 : Fresh4 ((226, tabObj ps) :: (447, tabObj qs) :: news) own imm C := ⟨?_, ?_, ?_, ?_, fr.n1, fr.n2, fr.n3, fr.n4, fr.n5, fr.n6, fr.s1, fr.s2, ?_⟩
        rotate_left
        · exact List.forall_mem_cons.mpr ⟨fr.lo1 _ List.mem_cons_self, List.forall_mem_cons.mpr ⟨fr.lo1 (447, tabObj qs2) (by k_mem), fun q hq => fr.lo1 q (by walk_at "MY:tail")⟩⟩
        · exact List.forall_mem_cons.mpr ⟨fr.lo2 _ List.mem_cons_self, List.forall_mem_cons.mpr ⟨fr.lo2 (447, tabObj qs2) (by k_mem), fun q hq => fr.lo2 q (by walk_at "MY:tail")⟩⟩
        · exact List.forall_mem_cons.mpr ⟨fr.lo3 _ List.mem_cons_self, List.forall_mem_cons.mpr ⟨fr.lo3 (447, tabObj qs2) (by k_mem), fun q hq => fr.lo3 q (by walk_at "MY:tail")⟩⟩
        · exact List.forall_mem_cons.mpr ⟨fr.lo4 _ List.mem_cons_self, List.forall_mem_cons.mpr ⟨fr.lo4 (447, tabObj qs2) (by k_mem), fun q hq => fr.lo4 q (by walk_at "MY:tail")⟩⟩
        · intro p hp
          obtain ⟨x1, x2, x3, x4, x5⟩ := fr.own p hp
          exact ⟨x1, x2, x3, x4, x5.imp (fun h => List.forall_mem_cons.mpr ⟨h _ List.mem_cons_self, List.forall_mem_cons.mpr ⟨h (447, tabObj qs2) (by k_mem), fun q hq => h q (by walk_at "MY:tail")⟩⟩) id⟩
        have four : ∀ q, q ∈ ((226, tabObj ps) :: (f2, kla_obj "<lambda>" (qLam "_law_new") lInto.params lInto.body lInto.scope [("mark", L' + 1)] ((mg "__name__").getD .none) c2 ctv2) :: (c2, oc2) :: (f1, kla_obj "<lambda>" (qLam "_law_new") lOut.params lOut.body lOut.scope [("mark", L' + 1)] ((mg "__name__").getD .none) c1 ctv1) :: (c1, oc1) :: (447, tabObj qs2) :: (L' + 1, o1) :: news) → (@LT.lt Nat _ L' q.1 ∨ q ∈ imm) →
            q.1 ≠ C.O.hp ∧ q.1 ≠ C.O.dd ∧ q.1 ≠ C.I.hp ∧ q.1 ≠ C.I.dd ∧ ((∀ r ∈ (226, tabObj ps) :: (447, tabObj qs) :: news, @LT.lt Nat _ r.1 q.1) ∨ q ∈ imm) := fun q hq h =>
          let ⟨a, b, c, d⟩ := big q hq; ⟨a, b, c, d, h.imp (old q) id⟩
        refine (((((fr2.cons (four (L' + 1, o1) (by k_mem) (.inl (Nat.lt_succ_self L')))).cons (four (c1, oc1) (by k_mem) kc1)).cons (four (f1, _) (by k_mem) (.inl lg1))).cons (four (c2, oc2) (by k_mem) kc2)).cons (four (f2, _) (by k_mem) (.inl lg2))).cons ?_
        exact ⟨neN (by dsimp only; omega), neN (by dsimp only; omega), neN (by dsimp only; omega), neN (by dsimp only; omega), .inl (old _ la7)⟩
      · have far : ∀ a : Addr, @LT.lt Nat _ L' a → a ≠ 226 ∧ a ≠ 447 := fun a h => ⟨neN (by omega), neN (by omega)⟩
        refine List.forall_mem_cons.mpr ⟨far _ la7, List.forall_mem_cons.mpr ⟨far _ lg2, List.forall_mem_cons.mpr ⟨oo2, List.forall_mem_cons.mpr ⟨far _ lg1, List.forall_mem_cons.mpr ⟨oo1, List.forall_mem_cons.mpr ⟨far _ (Nat.lt_succ_self L'), fun p hp => ?_⟩⟩⟩⟩⟩⟩
        rcases (fr.own p hp).2.2.2.2 with h | h
        · have e1 := h (226, tabObj ps) List.mem_cons_self
          have e2 := h (447, tabObj qs2) (by k_mem)
          exact ⟨neN (by dsimp only at e1; omega), neN (by dsimp only at e2; omega)⟩
        · exact off p (sub p h))
    focus (
      (focus ((iterate 15 walk1)))
      first
        | refine spec_newC4 (imm := imm) (ov := 343) (om := false) (fb := false) (pv := false) (dv := true) (ua := false) (uf := .ref f1) (sf := .ref f2) (by rfl) (by rfl) (Nat.le_of_ble_eq_true (by rfl)) (Nat.le_of_ble_eq_true (by rfl)) (by rfl) (by rfl) (by k_asm) (by k_asm) (by k_asm) (by k_asm) ?hb (by k_asm) tq1 (fun p hp => List.mem_cons_of_mem _ (List.mem_cons_of_mem _ (List.mem_cons_of_mem _ (List.mem_cons_of_mem _ (List.mem_cons_of_mem _ (List.mem_cons_of_mem _ (sub p hp))))))) ovAt_343 z0 ?_
        | refine spec_newB4 (imm := imm) (pv := false) (dv := true) (uf := .ref f1) (sf := .ref f2) (by rfl) (by rfl) (Nat.le_of_ble_eq_true (by rfl)) (Nat.le_of_ble_eq_true (by rfl)) (by rfl) (by rfl) (by k_asm) (by k_asm) (by k_asm) (by k_asm) ?hb (by k_asm) tq1 (fun p hp => List.mem_cons_of_mem _ (List.mem_cons_of_mem _ (List.mem_cons_of_mem _ (List.mem_cons_of_mem _ (List.mem_cons_of_mem _ (List.mem_cons_of_mem _ (sub p hp))))))) z0 ?_
      case hb => exact fun x s' X => ⟨_, _, by k_is, rfl, binds_K X rfl (by k_is) rfl rfl rfl⟩
      intro C odO odI ps' own h4 tk4 k1 k2 k3 F4 N6 hC' tq' hdO hdI fr
      generalize htl : own ++ (f2, kla_obj "<lambda>" (qLam "_law_new") lInto.params lInto.body lInto.scope [("mark", L' + 1)] ((mg "__name__").getD .none) c2 ctv2) :: (c2, oc2) :: (f1, kla_obj "<lambda>" (qLam "_law_new") lOut.params lOut.body lOut.scope [("mark", L' + 1)] ((mg "__name__").getD .none) c1 ctv1) :: (c1, oc1) :: (447, tabObj qs2) :: (L' + 1, o1) :: news = tl at N6
      (try dsimp only)
      (focus ((iterate 3 walk1)))
      k_dflt (refine' kup_newTuple ?F ?N ?_ ?z)
      (case F => k_asm); (case N => k_asm); (case z => kmk_size)
      intro tp h5 F5 N7 lt4
      have l9 : ∀ p ∈ tl, @LT.lt Nat _ p.1 tp := fun p hp => lt4 p (by walk_at "MY:tail")
      have la1 : @LT.lt Nat _ C.O.hp tp := lt4 (C.O.hp, _) (by k_mem)
      have la2 : @LT.lt Nat _ C.O.dd tp := lt4 (C.O.dd, _) (by k_mem)
      have la3 : @LT.lt Nat _ C.I.hp tp := lt4 (C.I.hp, _) (by k_mem)
      have la4 : @LT.lt Nat _ C.I.dd tp := lt4 (C.I.dd, _) (by k_mem)
      have la5 : @LT.lt Nat _ 226 tp := lt4 (226, _) (by k_mem)
      clear lt4
      have la6 : @LT.lt Nat _ 447 tp := l9 (447, tabObj qs2) (by subst htl; exact List.mem_append_right _ (by k_mem))
      have la7 : @LT.lt Nat _ L' tp := Nat.lt_trans (Nat.lt_succ_self L') (l9 (L' + 1, o1) (by subst htl; exact List.mem_append_right _ (by k_mem)))
      have big : ∀ q : Addr × Obj, q ∈ ((226, tabObj ps) :: (f2, kla_obj "<lambda>" (qLam "_law_new") lInto.params lInto.body lInto.scope [("mark", L' + 1)] ((mg "__name__").getD .none) c2 ctv2) :: (c2, oc2) :: (f1, kla_obj "<lambda>" (qLam "_law_new") lOut.params lOut.body lOut.scope [("mark", L' + 1)] ((mg "__name__").getD .none) c1 ctv1) :: (c1, oc1) :: (447, tabObj qs2) :: (L' + 1, o1) :: news) → q.1 ≠ C.O.hp ∧ q.1 ≠ C.O.dd ∧ q.1 ≠ C.I.hp ∧ q.1 ≠ C.I.dd := fun q hq =>
        ⟨Nat.ne_of_lt (fr.lo1 q hq), Nat.ne_of_lt (fr.lo2 q hq), Nat.ne_of_lt (fr.lo3 q hq), Nat.ne_of_lt (fr.lo4 q hq)⟩
      have b447 := fr.lo1 (447, tabObj qs2) (by k_mem)
      (try dsimp only)
      (focus (walk1))
      rename News h₀ L _ _ => NN
      subst htl
      have km : ∀ p ∈ own, p ∈ (tp, tupObj [.ref C.x, .bool true]) :: (f2, kla_obj "<lambda>" (qLam "_law_new") lInto.params lInto.body lInto.scope [("mark", L' + 1)] ((mg "__name__").getD .none) c2 ctv2) :: (c2, oc2) :: (f1, kla_obj "<lambda>" (qLam "_law_new") lOut.params lOut.body lOut.scope [("mark", L' + 1)] ((mg "__name__").getD .none) c1 ctv1) :: (c1, oc1) :: (L' + 1, o1) :: own := fun p hp => List.mem_cons_of_mem _ (List.mem_cons_of_mem _ (List.mem_cons_of_mem _ (List.mem_cons_of_mem _ (List.mem_cons_of_mem _ (List.mem_cons_of_mem _ hp)))))
      have old : ∀ p : Addr × Obj, @LT.lt Nat _ L' p.1 → ∀ q ∈ (226, tabObj ps) :: (447, tabObj qs) :: news, @LT.lt Nat _ q.1 p.1 := fun p h =>
        List.forall_mem_cons.mpr ⟨Nat.lt_trans la h, List.forall_mem_cons.mpr ⟨Nat.lt_trans lb h, fun q hq => Nat.lt_trans (ln q hq) h⟩⟩
      refine hQ C true tp odO odI 1 2 ps' qs2 ((tp, tupObj [.ref C.x, .bool true]) :: (f2, kla_obj "<lambda>" (qLam "_law_new") lInto.params lInto.body lInto.scope [("mark", L' + 1)] ((mg "__name__").getD .none) c2 ctv2) :: (c2, oc2) :: (f1, kla_obj "<lambda>" (qLam "_law_new") lOut.params lOut.body lOut.scope [("mark", L' + 1)] ((mg "__name__").getD .none) c1 ctv1) :: (c1, oc1) :: (L' + 1, o1) :: own) _ _ (by k_asm) (nSub NN ?_) List.mem_cons_self (hC'.mono km)
        (.inr ⟨rfl, f1, f2, L' + 1, k2, k3, ⟨_, c1, ctv1, oc1, vs1, t1, by k_mem, by k_mem, hd1, hv1⟩, ⟨_, c2, ctv2, oc2, vs2, t2, by k_mem, by k_mem, hd2, hv2⟩, ⟨o1, by k_mem, d1⟩⟩)
        (tq'.mono fun p hp => (List.mem_append.mp hp).elim (fun h => List.mem_append_left _ (km p h)) fun h => List.mem_append_right _ h) (tq4.mono ?_) hdO hdI ?_ ?_
      · intro p hp
        simp only [List.mem_cons, List.mem_append, List.cons_append] at hp ⊢
        rcases hp with h | h | h | h | h | h | h | h | h | h | h | h | h | h <;> simp only [h, true_or, or_true]
      · exact List.forall_mem_cons.mpr ⟨List.mem_append_left _ (by k_mem), List.forall_mem_cons.mpr ⟨List.mem_append_left _ (by k_mem), fun p hp => List.mem_append_right _ hp⟩⟩
      · have fr2 : Fresh4 ((226, tabObj ps) :: (447, tabObj qs) :: news) own imm C := ⟨?_, ?_, ?_, ?_, fr.n1, fr.n2, fr.n3, fr.n4, fr.n5, fr.n6, fr.s1, fr.s2, ?_⟩
        rotate_left
        · exact List.forall_mem_cons.mpr ⟨fr.lo1 _ List.mem_cons_self, List.forall_mem_cons.mpr ⟨fr.lo1 (447, tabObj qs2) (by k_mem), fun q hq => fr.lo1 q (by walk_at "MY:tail")⟩⟩
        · exact List.forall_mem_cons.mpr ⟨fr.lo2 _ List.mem_cons_self, List.forall_mem_cons.mpr ⟨fr.lo2 (447, tabObj qs2) (by k_mem), fun q hq => fr.lo2 q (by walk_at "MY:tail")⟩⟩
        · exact List.forall_mem_cons.mpr ⟨fr.lo3 _ List.mem_cons_self, List.forall_mem_cons.mpr ⟨fr.lo3 (447, tabObj qs2) (by k_mem), fun q hq => fr.lo3 q (by walk_at "MY:tail")⟩⟩
        · exact List.forall_mem_cons.mpr ⟨fr.lo4 _ List.mem_cons_self, List.forall_mem_cons.mpr ⟨fr.lo4 (447, tabObj qs2) (by k_mem), fun q hq => fr.lo4 q (by walk_at "MY:tail")⟩⟩
        · intro p hp
          obtain ⟨x1, x2, x3, x4, x5⟩ := fr.own p hp
          exact ⟨x1, x2, x3, x4, x5.imp (fun h => List.forall_mem_cons.mpr ⟨h _ List.mem_cons_self, List.forall_mem_cons.mpr ⟨h (447, tabObj qs2) (by k_mem), fun q hq => h q (by walk_at "MY:tail")⟩⟩) id⟩
        have four : ∀ q, q ∈ ((226, tabObj ps) :: (f2, kla_obj "<lambda>" (qLam "_law_new") lInto.params lInto.body lInto.scope [("mark", L' + 1)] ((mg "__name__").getD .none) c2 ctv2) :: (c2, oc2) :: (f1, kla_obj "<lambda>" (qLam "_law_new") lOut.params lOut.body lOut.scope [("mark", L' + 1)] ((mg "__name__").getD .none) c1 ctv1) :: (c1, oc1) :: (447, tabObj qs2) :: (L' + 1, o1) :: news) → (@LT.lt Nat _ L' q.1 ∨ q ∈ imm) →
            q.1 ≠ C.O.hp ∧ q.1 ≠ C.O.dd ∧ q.1 ≠ C.I.hp ∧ q.1 ≠ C.I.dd ∧ ((∀ r ∈ (226, tabObj ps) :: (447, tabObj qs) :: news, @LT.lt Nat _ r.1 q.1) ∨ q ∈ imm) := fun q hq h =>
          let ⟨a, b, c, d⟩ := big q hq; ⟨a, b, c, d, h.imp (old q) id⟩
        refine (((((fr2.cons (four (L' + 1, o1) (by k_mem) (.inl (Nat.lt_succ_self L')))).cons (four (c1, oc1) (by k_mem) kc1)).cons (four (f1, _) (by k_mem) (.inl lg1))).cons (four (c2, oc2) (by k_mem) kc2)).cons (four (f2, _) (by k_mem) (.inl lg2))).cons ?_
        exact ⟨neN (by dsimp only; omega), neN (by dsimp only; omega), neN (by dsimp only; omega), neN (by dsimp only; omega), .inl (old _ la7)⟩
      · have far : ∀ a : Addr, @LT.lt Nat _ L' a → a ≠ 226 ∧ a ≠ 447 := fun a h => ⟨neN (by omega), neN (by omega)⟩
        refine List.forall_mem_cons.mpr ⟨far _ la7, List.forall_mem_cons.mpr ⟨far _ lg2, List.forall_mem_cons.mpr ⟨oo2, List.forall_mem_cons.mpr ⟨far _ lg1, List.forall_mem_cons.mpr ⟨oo1, List.forall_mem_cons.mpr ⟨far _ (Nat.lt_succ_self L'), fun p hp => ?_⟩⟩⟩⟩⟩⟩
        rcases (fr.own p hp).2.2.2.2 with h | h
        · have e1 := h (226, tabObj ps) List.mem_cons_self
          have e2 := h (447, tabObj qs2) (by k_mem)
          exact ⟨neN (by dsimp only at e1; omega), neN (by dsimp only at e2; omega)⟩
        · exact off p (sub p h))
end
end
example {M : Model} {A : Around} {E Q : Value → Shared → Prop} {s : Shared} (h : wpAny M A (pure .none) Q E s) : wpAny M A (pure .none) Q E s := by
  w_top off
  first
    | (walk1; fail)
    | exact h
section
open PySem.Spec PySem.SeqAt PyProof.V
local macro_rules | `(tactic| walk_at "MY:mem") => `(tactic| first | exact List.mem_cons_self | (refine' List.mem_cons_of_mem _ ?_; walk_at "MY:mem") | assumption | ktr_member)
local macro_rules | `(tactic| walk_at "MY:lam") => `(tactic| (
  refine wpAny_call ?_
  k_dflt (refine' kla_code ?k1 ?k2 ?k3 ?k4 ?k5 ?kA ?kF ?kK ?k6 ?k7 ?k8 ?k9 ?kB ?_ ?c2 ?c3 ?c4 ?c5)
  (case kA => exact rfl); (case kF => first | exact rfl | assumption); (case kK => first | exact rfl | assumption); (case k1 => k_asm); (case k2 => k_asm); (case k3 => k_asm); (case k4 => k_asm); (case k5 => k_asm)
  (case k6 => k_mem); (case k7 => exact codeRec_news (by k_asm) (by k_mem) (by assumption) (by assumption)); (case k8 => k_room)
  (case k9 => exact rfl); (case kB => exact locs rfl); (case c2 => exact rfl); (case c3 => exact rfl); (case c4 => exact rfl); (case c5 => decide)))
/-- the six kinds of type -/
inductive Kd | n | e | s | w | any | non
  deriving DecidableEq
def kdV : Kd → Tok → Value
  | .n, t => .str "north" t
  | .e, t => .str "east" t
  | .s, t => .str "south" t
  | .w, t => .str "west" t
  | .any, t => .str "Any" t
  | .non, _ => .none
def kdD : Kd → PyData
  | .n => .str "north"
  | .e => .str "east"
  | .s => .str "south"
  | .w => .str "west"
  | .any => .str "Any"
  | .non => .none
theorem kd_reads (h : Heap) (k : Kd) (t : Tok) : Reads h (kdV k t) (kdD k) [] := by
  cases k <;> first | exact Reads.str _ _ | exact Reads.none
theorem kd_lay (k : Kd) : PyData.canLay0 (kdD k) = true := by cases k <;> decide +kernel
theorem kd_depth (k : Kd) : PyData.depth (kdD k) = 0 := by cases k <;> rfl
theorem kd_shaped (k : Kd) : shaped (kdD k) = true := by cases k <;> decide +kernel
theorem kd_mix (j k : Kd) : noMix (kdD j) (kdD k) = true := by cases j <;> cases k <;> rfl
theorem kd_same (j k : Kd) : PySem.Spec.same (kdD j) (kdD k) = decide (j = k) := by cases j <;> cases k <;> decide +kernel
theorem kd_eqv (j k : Kd) : PyData.eqv (kdD j) (kdD k) = decide (j = k) := by cases j <;> cases k <;> decide +kernel
theorem kd_handed (k : Kd) (t : Tok) : handedIn (kdV k t) = true := by cases k <;> rfl
def anyB : Kd → Bool
  | .any => true
  | _ => false
def anyNB : Kd → Bool
  | .any => true
  | .non => true
  | _ => false
section
variable {w : World} {A : Around} {E : Value → Shared → Prop} {s : Shared} {Q : Value → Shared → Prop}
theorem kd_eq {j k : Kd} {t u : Tok} (hu : A.units + 64 < cLine) (h : Q (.bool (decide (j = k))) s) : wpAny (model PROG w) A (compareOp .Eq (kdV j t) (kdV k u)) Q E s :=
  eq_dataH_same (kd_reads _ _ _) (kd_reads _ _ _) (kd_shaped _) (kd_shaped _) hu (kd_mix _ _) (by rw [kd_same]; exact h)
theorem kd_in22 {h₀ : Heap} {L : Addr} {m : Str → Option Value} {j : Kd} {t : Tok} (F : Fr h₀ L s.heap m) (X : (Mine.hd.heap_39 w.params).In h₀) (hu : A.units + 1 < cLine) (h : Q (.bool (anyB j)) s) : wpAny (model PROG w) A (compareOp .In (kdV j t) (.ref 22)) Q E s := by
  refine SeqAt.in_tuple_reads (xs := [kdD .any]) (d := kdD j) (Reads.tuple (F.keep _ _ (X 22 _ rfl)) rfl rfl (ReadsAll.cons (Reads.str _ _) ReadsAll.nil)) (kd_reads _ _ _) (by decide +kernel) (kd_lay j) (by rw [kd_depth, Nat.min_zero]; exact hu) ?_
  have e : ([kdD .any].any fun y => PyData.eqv y (kdD j)) = anyB j := by cases j <;> decide +kernel
  rw [e]; exact h
theorem kd_in23 {h₀ : Heap} {L : Addr} {m : Str → Option Value} {j : Kd} {t : Tok} (F : Fr h₀ L s.heap m) (X : (Mine.hd.heap_39 w.params).In h₀) (hu : A.units + 1 < cLine) (h : Q (.bool false) s) : wpAny (model PROG w) A (compareOp .In (kdV j t) (.ref 23)) Q E s := by
  refine SeqAt.in_tuple_reads (xs := [.str "str", .str "bytes", .str "int", .str "float"]) (d := kdD j) (Reads.tuple (F.keep _ _ (X 23 _ rfl)) rfl rfl (ReadsAll.cons (Reads.str _ _) (ReadsAll.cons (Reads.str _ _) (ReadsAll.cons (Reads.str _ _) (ReadsAll.cons (Reads.str _ _) ReadsAll.nil))))) (kd_reads _ _ _) (by decide +kernel) (kd_lay j) (by rw [kd_depth, Nat.min_zero]; exact hu) ?_
  have e : ([PyData.str "str", .str "bytes", .str "int", .str "float"].any fun y => PyData.eqv y (kdD j)) = false := by cases j <;> decide +kernel
  rw [e]; exact h
end
section
variable {w : World} {A₀ A : Around} {base h₀ : Heap} {env : Env} {outer : List Env} {L : Addr} {m mg mb : Str → Option Value} {p : Program} {loose : List Str} {mean : ExcName → Option Value} {s : Shared} {Q E : Value → Shared → Prop} {news l : List (Addr × Obj)}
theorem spec_lIs {f : Addr} {c : Addr} {j k : Kd} {t tk : Tok}
    (hA : A.frames = some (env :: outer)) (hh : A.handled = none) (hd : A.depth ≤ 345) (hu : A.units ≤ 850) (hf : env.frame = some L) (hke : env.scope.kind = .function)
    (B : Below A₀ base outer h₀) (F : Fr h₀ L s.heap m) (X : (Mine.hd.heap_39 w.params).In h₀) (T : Top p loose mean mg mb h₀)
    (N : News h₀ L s.heap news) (hF : LamAt news f (qLam "_law_is") lIs [("kind", c)]) (hc0 : CellAt news c (kdV k tk))
    (hQ : ∀ h' tk, Fr h₀ L h' m → News h₀ L h' news → Q (.bool (decide (j = k))) { s with heap := h', toks := tk }) :
    wpAny (model PROG w) A (call (.ref f) [kdV j t] []) Q E s := by
  refine wp_le 345 850 hA hh hd hu ?_
  obtain ⟨pm, c', ctv, oc, vs, tt, mf, mc, hd1, hv1⟩ := hF
  obtain ⟨o0, mo0, hd_0⟩ := hc0
  walk_at "MY:lam"
  intro g' L' h' FG' F' N' B' X' T'
  (try dsimp only)
  dsimp only [lIs, lIs']
  (focus ((iterate 2 walk1)))
  k_dflt (refine nameX_F (by k_asm) (by exact rfl) mo0 hd_0 ?_)
  k_dflt (refine kd_eq (Nat.le_of_ble_eq_true (by rfl)) ?_)
  (focus (walk1))
  exact hQ _ _ (by k_asm) (by k_asm)
theorem spec_lPA {f : Addr} {j : Kd} {t : Tok}
    (hA : A.frames = some (env :: outer)) (hh : A.handled = none) (hd : A.depth ≤ 345) (hu : A.units ≤ 850) (hf : env.frame = some L) (hke : env.scope.kind = .function)
    (B : Below A₀ base outer h₀) (F : Fr h₀ L s.heap m) (X : (Mine.hd.heap_39 w.params).In h₀) (T : Top p loose mean mg mb h₀)
    (N : News h₀ L s.heap news) (hF : LamAt news f (qLam "BaseConverter.__init__") lPA [])
    (hQ : ∀ h' tk, Fr h₀ L h' m → News h₀ L h' news → Q (.bool (anyB j)) { s with heap := h', toks := tk }) :
    wpAny (model PROG w) A (call (.ref f) [kdV j t] []) Q E s := by
  refine wp_le 345 850 hA hh hd hu ?_
  obtain ⟨pm, c', ctv, oc, vs, tt, mf, mc, hd1, hv1⟩ := hF
  walk_at "MY:lam"
  intro g' L' h' FG' F' N' B' X' T'
  (try dsimp only)
  dsimp only [lPA, lPA']
  (focus ((iterate 3 walk1)))
  k_dflt (refine kd_in22 (by k_asm) (by k_asm) (Nat.le_of_ble_eq_true (by rfl)) ?_)
  (focus (walk1))
  exact hQ _ _ (by k_asm) (by k_asm)
theorem spec_lPC {f : Addr} {j : Kd} {t : Tok}
    (hA : A.frames = some (env :: outer)) (hh : A.handled = none) (hd : A.depth ≤ 345) (hu : A.units ≤ 850) (hf : env.frame = some L) (hke : env.scope.kind = .function)
    (B : Below A₀ base outer h₀) (F : Fr h₀ L s.heap m) (X : (Mine.hd.heap_39 w.params).In h₀) (T : Top p loose mean mg mb h₀)
    (N : News h₀ L s.heap news) (hF : LamAt news f (qLam "BaseConverter.__init__") lPC [])
    (hQ : ∀ h' tk, Fr h₀ L h' m → News h₀ L h' news → Q (.bool false) { s with heap := h', toks := tk }) :
    wpAny (model PROG w) A (call (.ref f) [kdV j t] []) Q E s := by
  refine wp_le 345 850 hA hh hd hu ?_
  obtain ⟨pm, c', ctv, oc, vs, tt, mf, mc, hd1, hv1⟩ := hF
  walk_at "MY:lam"
  intro g' L' h' FG' F' N' B' X' T'
  (try dsimp only)
  dsimp only [lPC, lPC']
  (focus ((iterate 3 walk1)))
  k_dflt (refine kd_in23 (by k_asm) (by k_asm) (Nat.le_of_ble_eq_true (by rfl)) ?_)
  (focus (walk1))
  exact hQ _ _ (by k_asm) (by k_asm)
theorem spec_lPB {f : Addr} {j : Kd} {t : Tok}
    (hA : A.frames = some (env :: outer)) (hh : A.handled = none) (hd : A.depth ≤ 345) (hu : A.units ≤ 850) (hf : env.frame = some L) (hke : env.scope.kind = .function)
    (B : Below A₀ base outer h₀) (F : Fr h₀ L s.heap m) (X : (Mine.hd.heap_39 w.params).In h₀) (T : Top p loose mean mg mb h₀)
    (N : News h₀ L s.heap news) (hF : LamAt news f (qLam "BaseConverter.__init__") lPB [])
    (hQ : ∀ h' tk, Fr h₀ L h' m → News h₀ L h' news → Q (.bool (anyNB j)) { s with heap := h', toks := tk }) :
    wpAny (model PROG w) A (call (.ref f) [kdV j t] []) Q E s := by
  refine wp_le 345 850 hA hh hd hu ?_
  obtain ⟨pm, c', ctv, oc, vs, tt, mf, mc, hd1, hv1⟩ := hF
  walk_at "MY:lam"
  intro g' L' h' FG' F' N' B' X' T'
  (try dsimp only)
  dsimp only [lPB, lPB']
  (focus ((iterate 4 walk1)))
  k_dflt (refine kd_in22 (by k_asm) (by k_asm) (Nat.le_of_ble_eq_true (by rfl)) ?_)
  cases j
  all_goals (
    (try dsimp only [anyB, kdV] at F' ⊢)
    (first | (focus ((iterate 8 walk1))) | (focus ((iterate 3 walk1))))
    exact hQ _ _ (by k_asm) (by k_asm))
theorem spec_lHB {f : Addr} {v t : Value}
    (hA : A.frames = some (env :: outer)) (hh : A.handled = none) (hd : A.depth ≤ 345) (hu : A.units ≤ 850) (hf : env.frame = some L) (hke : env.scope.kind = .function)
    (B : Below A₀ base outer h₀) (F : Fr h₀ L s.heap m) (X : (Mine.hd.heap_39 w.params).In h₀) (T : Top p loose mean mg mb h₀)
    (N : News h₀ L s.heap news) (hF : LamAt news f (qLam "BaseConverter.__init__") lHB [])
    (hQ : ∀ h' tk, Fr h₀ L h' m → News h₀ L h' news → Q (v) { s with heap := h', toks := tk }) :
    wpAny (model PROG w) A (call (.ref f) [v, t] []) Q E s := by
  refine wp_le 345 850 hA hh hd hu ?_
  obtain ⟨pm, c', ctv, oc, vs, tt, mf, mc, hd1, hv1⟩ := hF
  walk_at "MY:lam"
  intro g' L' h' FG' F' N' B' X' T'
  (try dsimp only)
  dsimp only [lHB, lHB']
  (focus ((iterate 2 walk1)))
  exact hQ _ _ (by k_asm) (by k_asm)
theorem spec_lR0 {f : Addr} {c : Addr} {mk v t : Value}
    (hA : A.frames = some (env :: outer)) (hh : A.handled = none) (hd : A.depth ≤ 345) (hu : A.units ≤ 850) (hf : env.frame = some L) (hke : env.scope.kind = .function)
    (B : Below A₀ base outer h₀) (F : Fr h₀ L s.heap m) (X : (Mine.hd.heap_39 w.params).In h₀) (T : Top p loose mean mg mb h₀)
    (N : News h₀ L s.heap news) (hF : LamAt news f (qLam "_law_register") lR0 [("mark", c)]) (hc0 : CellAt news c mk)
    (hQ : ∀ a T0 h' tk, Fr h₀ L h' m → News h₀ L h' ((a, tupObj [.str "hook" T0, mk, t, v]) :: news) → (∀ q ∈ news, @LT.lt Nat _ q.1 a) → Q (.ref a) { s with heap := h', toks := tk }) :
    wpAny (model PROG w) A (call (.ref f) [v, t] []) Q E s := by
  refine wp_le 345 850 hA hh hd hu ?_
  obtain ⟨pm, c', ctv, oc, vs, tt, mf, mc, hd1, hv1⟩ := hF
  obtain ⟨o0, mo0, hd_0⟩ := hc0
  walk_at "MY:lam"
  intro g' L' h' FG' F' N' B' X' T'
  (try dsimp only)
  dsimp only [lR0, lR0']
  (focus ((iterate 4 walk1)))
  k_dflt (refine nameX_F (by k_asm) (by exact rfl) mo0 hd_0 ?_)
  (focus ((iterate 5 walk1)))
  k_dflt (refine' kup_newTuple ?F ?N ?_ ?z)
  (case F => k_asm); (case N => k_asm); (case z => kmk_size)
  intro a h2 F2 N2 lt2
  (focus (walk1))
  exact hQ a _ _ _ (by k_asm) (by k_asm) lt2
theorem spec_lR1 {f : Addr} {c : Addr} {mk v : Value}
    (hA : A.frames = some (env :: outer)) (hh : A.handled = none) (hd : A.depth ≤ 345) (hu : A.units ≤ 850) (hf : env.frame = some L) (hke : env.scope.kind = .function)
    (B : Below A₀ base outer h₀) (F : Fr h₀ L s.heap m) (X : (Mine.hd.heap_39 w.params).In h₀) (T : Top p loose mean mg mb h₀)
    (N : News h₀ L s.heap news) (hF : LamAt news f (qLam "_law_register") lR1 [("mark", c)]) (hc0 : CellAt news c mk)
    (hQ : ∀ a T0 h' tk, Fr h₀ L h' m → News h₀ L h' ((a, tupObj [.str "hook" T0, mk, v]) :: news) → (∀ q ∈ news, @LT.lt Nat _ q.1 a) → Q (.ref a) { s with heap := h', toks := tk }) :
    wpAny (model PROG w) A (call (.ref f) [v] []) Q E s := by
  refine wp_le 345 850 hA hh hd hu ?_
  obtain ⟨pm, c', ctv, oc, vs, tt, mf, mc, hd1, hv1⟩ := hF
  obtain ⟨o0, mo0, hd_0⟩ := hc0
  walk_at "MY:lam"
  intro g' L' h' FG' F' N' B' X' T'
  (try dsimp only)
  dsimp only [lR1, lR1']
  (focus ((iterate 4 walk1)))
  k_dflt (refine nameX_F (by k_asm) (by exact rfl) mo0 hd_0 ?_)
  (focus ((iterate 3 walk1)))
  k_dflt (refine' kup_newTuple ?F ?N ?_ ?z)
  (case F => k_asm); (case N => k_asm); (case z => kmk_size)
  intro a h2 F2 N2 lt2
  (focus (walk1))
  exact hQ a _ _ _ (by k_asm) (by k_asm) lt2
theorem spec_lMadeIn {f : Addr} {c c2 : Addr} {mk kv v t : Value}
    (hA : A.frames = some (env :: outer)) (hh : A.handled = none) (hd : A.depth ≤ 345) (hu : A.units ≤ 850) (hf : env.frame = some L) (hke : env.scope.kind = .function)
    (B : Below A₀ base outer h₀) (F : Fr h₀ L s.heap m) (X : (Mine.hd.heap_39 w.params).In h₀) (T : Top p loose mean mg mb h₀)
    (N : News h₀ L s.heap news) (hF : LamAt news f (qLam "_law_made_in") lMadeIn [("of", c2), ("mark", c)]) (hc0 : CellAt news c mk) (hc1 : CellAt news c2 kv)
    (hQ : ∀ a T0 h' tk, Fr h₀ L h' m → News h₀ L h' ((a, tupObj [.str "made" T0, mk, kv, t, v]) :: news) → (∀ q ∈ news, @LT.lt Nat _ q.1 a) → Q (.ref a) { s with heap := h', toks := tk }) :
    wpAny (model PROG w) A (call (.ref f) [v, t] []) Q E s := by
  refine wp_le 345 850 hA hh hd hu ?_
  obtain ⟨pm, c', ctv, oc, vs, tt, mf, mc, hd1, hv1⟩ := hF
  obtain ⟨o0, mo0, hd_0⟩ := hc0
  obtain ⟨o1, mo1, hd_1⟩ := hc1
  walk_at "MY:lam"
  intro g' L' h' FG' F' N' B' X' T'
  (try dsimp only)
  dsimp only [lMadeIn, lMadeIn']
  (focus ((iterate 4 walk1)))
  k_dflt (refine nameX_F (by k_asm) (by exact rfl) mo0 hd_0 ?_)
  (focus (walk1))
  k_dflt (refine nameX_F (by k_asm) (by exact rfl) mo1 hd_1 ?_)
  (focus ((iterate 5 walk1)))
  k_dflt (refine' kup_newTuple ?F ?N ?_ ?z)
  (case F => k_asm); (case N => k_asm); (case z => kmk_size)
  intro a h2 F2 N2 lt2
  (focus (walk1))
  exact hQ a _ _ _ (by k_asm) (by k_asm) lt2
theorem spec_lMadeOut {f : Addr} {c c2 : Addr} {mk kv v : Value}
    (hA : A.frames = some (env :: outer)) (hh : A.handled = none) (hd : A.depth ≤ 345) (hu : A.units ≤ 850) (hf : env.frame = some L) (hke : env.scope.kind = .function)
    (B : Below A₀ base outer h₀) (F : Fr h₀ L s.heap m) (X : (Mine.hd.heap_39 w.params).In h₀) (T : Top p loose mean mg mb h₀)
    (N : News h₀ L s.heap news) (hF : LamAt news f (qLam "_law_made_out") lMadeOut [("of", c2), ("mark", c)]) (hc0 : CellAt news c mk) (hc1 : CellAt news c2 kv)
    (hQ : ∀ a T0 h' tk, Fr h₀ L h' m → News h₀ L h' ((a, tupObj [.str "made" T0, mk, kv, v]) :: news) → (∀ q ∈ news, @LT.lt Nat _ q.1 a) → Q (.ref a) { s with heap := h', toks := tk }) :
    wpAny (model PROG w) A (call (.ref f) [v] []) Q E s := by
  refine wp_le 345 850 hA hh hd hu ?_
  obtain ⟨pm, c', ctv, oc, vs, tt, mf, mc, hd1, hv1⟩ := hF
  obtain ⟨o0, mo0, hd_0⟩ := hc0
  obtain ⟨o1, mo1, hd_1⟩ := hc1
  walk_at "MY:lam"
  intro g' L' h' FG' F' N' B' X' T'
  (try dsimp only)
  dsimp only [lMadeOut, lMadeOut']
  (focus ((iterate 4 walk1)))
  k_dflt (refine nameX_F (by k_asm) (by exact rfl) mo0 hd_0 ?_)
  (focus (walk1))
  k_dflt (refine nameX_F (by k_asm) (by exact rfl) mo1 hd_1 ?_)
  (focus ((iterate 3 walk1)))
  k_dflt (refine' kup_newTuple ?F ?N ?_ ?z)
  (case F => k_asm); (case N => k_asm); (case z => kmk_size)
  intro a h2 F2 N2 lt2
  (focus (walk1))
  exact hQ a _ _ _ (by k_asm) (by k_asm) lt2
theorem spec_lLastIn {f : Addr} {c c2 : Addr} {mk kv v t : Value}
    (hA : A.frames = some (env :: outer)) (hh : A.handled = none) (hd : A.depth ≤ 345) (hu : A.units ≤ 850) (hf : env.frame = some L) (hke : env.scope.kind = .function)
    (B : Below A₀ base outer h₀) (F : Fr h₀ L s.heap m) (X : (Mine.hd.heap_39 w.params).In h₀) (T : Top p loose mean mg mb h₀)
    (N : News h₀ L s.heap news) (hF : LamAt news f (qLam "_law_last_in") lLastIn [("mark", c), ("kind", c2)]) (hc0 : CellAt news c mk) (hc1 : CellAt news c2 kv)
    (hQ : ∀ a T0 h' tk, Fr h₀ L h' m → News h₀ L h' ((a, tupObj [.str "last" T0, mk, kv, t, v]) :: news) → (∀ q ∈ news, @LT.lt Nat _ q.1 a) → Q (.ref a) { s with heap := h', toks := tk }) :
    wpAny (model PROG w) A (call (.ref f) [v, t] []) Q E s := by
  refine wp_le 345 850 hA hh hd hu ?_
  obtain ⟨pm, c', ctv, oc, vs, tt, mf, mc, hd1, hv1⟩ := hF
  obtain ⟨o0, mo0, hd_0⟩ := hc0
  obtain ⟨o1, mo1, hd_1⟩ := hc1
  walk_at "MY:lam"
  intro g' L' h' FG' F' N' B' X' T'
  (try dsimp only)
  dsimp only [lLastIn, lLastIn']
  (focus ((iterate 4 walk1)))
  k_dflt (refine nameX_F (by k_asm) (by exact rfl) mo0 hd_0 ?_)
  (focus (walk1))
  k_dflt (refine nameX_F (by k_asm) (by exact rfl) mo1 hd_1 ?_)
  (focus ((iterate 5 walk1)))
  k_dflt (refine' kup_newTuple ?F ?N ?_ ?z)
  (case F => k_asm); (case N => k_asm); (case z => kmk_size)
  intro a h2 F2 N2 lt2
  (focus (walk1))
  exact hQ a _ _ _ (by k_asm) (by k_asm) lt2
theorem spec_lLastOut {f : Addr} {c c2 : Addr} {mk kv v : Value}
    (hA : A.frames = some (env :: outer)) (hh : A.handled = none) (hd : A.depth ≤ 345) (hu : A.units ≤ 850) (hf : env.frame = some L) (hke : env.scope.kind = .function)
    (B : Below A₀ base outer h₀) (F : Fr h₀ L s.heap m) (X : (Mine.hd.heap_39 w.params).In h₀) (T : Top p loose mean mg mb h₀)
    (N : News h₀ L s.heap news) (hF : LamAt news f (qLam "_law_last_out") lLastOut [("mark", c), ("kind", c2)]) (hc0 : CellAt news c mk) (hc1 : CellAt news c2 kv)
    (hQ : ∀ a T0 h' tk, Fr h₀ L h' m → News h₀ L h' ((a, tupObj [.str "last" T0, mk, kv, v]) :: news) → (∀ q ∈ news, @LT.lt Nat _ q.1 a) → Q (.ref a) { s with heap := h', toks := tk }) :
    wpAny (model PROG w) A (call (.ref f) [v] []) Q E s := by
  refine wp_le 345 850 hA hh hd hu ?_
  obtain ⟨pm, c', ctv, oc, vs, tt, mf, mc, hd1, hv1⟩ := hF
  obtain ⟨o0, mo0, hd_0⟩ := hc0
  obtain ⟨o1, mo1, hd_1⟩ := hc1
  walk_at "MY:lam"
  intro g' L' h' FG' F' N' B' X' T'
  (try dsimp only)
  dsimp only [lLastOut, lLastOut']
  (focus ((iterate 4 walk1)))
  k_dflt (refine nameX_F (by k_asm) (by exact rfl) mo0 hd_0 ?_)
  (focus (walk1))
  k_dflt (refine nameX_F (by k_asm) (by exact rfl) mo1 hd_1 ?_)
  (focus ((iterate 3 walk1)))
  k_dflt (refine' kup_newTuple ?F ?N ?_ ?z)
  (case F => k_asm); (case N => k_asm); (case z => kmk_size)
  intro a h2 F2 N2 lt2
  (focus (walk1))
  exact hQ a _ _ _ (by k_asm) (by k_asm) lt2
end
end
example {M : Model} {A : Around} {E Q : Value → Shared → Prop} {s : Shared} (h : wpAny M A (pure .none) Q E s) : wpAny M A (pure .none) Q E s := by
  w_top off
  first
    | (walk1; fail)
    | exact h
section
open PySem.Spec PySem.SeqAt PyProof.V
local macro_rules | `(tactic| walk_at "MY:mem") => `(tactic| first | exact List.mem_cons_self | (refine' List.mem_cons_of_mem _ ?_; walk_at "MY:mem") | assumption | ktr_member)
local macro_rules | `(tactic| walk_at "MY:lam") => `(tactic| (
  refine wpAny_call ?_
  k_dflt (refine' kla_code ?k1 ?k2 ?k3 ?k4 ?k5 ?kA ?kF ?kK ?k6 ?k7 ?k8 ?k9 ?kB ?_ ?c2 ?c3 ?c4 ?c5)
  (case kA => exact rfl); (case kF => first | exact rfl | assumption); (case kK => first | exact rfl | assumption); (case k1 => k_asm); (case k2 => k_asm); (case k3 => k_asm); (case k4 => k_asm); (case k5 => k_asm)
  (case k6 => k_mem); (case k7 => exact codeRec_news (by k_asm) (by k_mem) (by assumption) (by assumption)); (case k8 => k_room)
  (case k9 => exact rfl); (case kB => exact locs rfl); (case c2 => exact rfl); (case c3 => exact rfl); (case c4 => exact rfl); (case c5 => decide)))
/-- the four tables that the answers change, and all else, which stands -/
def TN (h₀ h : Heap) (L : Addr) (news : List (Addr × Obj)) : Prop :=
  ∃ ta tb tc td, News h₀ L h ((433, tabObj ta) :: (440, tabObj tb) :: (468, tabObj tc) :: (475, tabObj td) :: news) ∧ TabQ (qLam "_law_last_out") ta news ∧ TabQ (qLam "_law_last_in") tb news ∧ TabQ (qLam "_law_made_in") tc news ∧ TabQ (qLam "_law_made_out") td news ∧
    ∀ p ∈ news, p.1 ≠ 433 ∧ p.1 ≠ 440 ∧ p.1 ≠ 468 ∧ p.1 ≠ 475
theorem TN.news {h₀ h : Heap} {L : Addr} {news : List (Addr × Obj)} (t : TN h₀ h L news) : News h₀ L h news := by
  obtain ⟨_, _, _, _, N, _⟩ := t
  exact nSub N fun p hp => List.mem_cons_of_mem _ (List.mem_cons_of_mem _ (List.mem_cons_of_mem _ (List.mem_cons_of_mem _ hp)))
section
variable {w : World} {A₀ A : Around} {base h₀ : Heap} {env : Env} {outer : List Env} {L : Addr} {m mg mb : Str → Option Value} {p : Program} {loose : List Str} {mean : ExcName → Option Value} {s : Shared} {Q E : Value → Shared → Prop} {news l : List (Addr × Obj)}
theorem spec_lR2 {f c : Addr} {mk kv : Value}
    (hA : A.frames = some (env :: outer)) (hh : A.handled = none) (hd : A.depth ≤ 340) (hu : A.units ≤ 800) (hf : env.frame = some L) (hke : env.scope.kind = .function)
    (B : Below A₀ base outer h₀) (F : Fr h₀ L s.heap m) (X : (Mine.hd.heap_39 w.params).In h₀) (T : Top p loose mean mg mb h₀)
    (N : TN h₀ s.heap L news) (hF : LamAt news f (qLam "_law_register") lR2 [("mark", c)]) (hc0 : CellAt news c mk)
    (hQ : ∀ g c1 c2 news' h' tk, Fr h₀ L h' m → TN h₀ h' L news' → (∀ p ∈ news, p ∈ news') → LamAt news' g (qLam "_law_made_in") lMadeIn [("of", c2), ("mark", c1)] → CellAt news' c1 mk → CellAt news' c2 kv → Q (.ref g) { s with heap := h', toks := tk }) :
    wpAny (model PROG w) A (call (.ref f) [kv] []) Q E s := by
  refine wp_le 340 800 hA hh hd hu ?_
  obtain ⟨ta, tb, tc, td, N, q1, q2, q3, q4, off⟩ := N
  obtain ⟨pm, c', ctv, oc, vs, tt, mf, mc, hd1, hv1⟩ := hF
  obtain ⟨o0, mo0, hd_0⟩ := hc0
  walk_at "MY:lam"
  intro g' L' h' FG' F' N' B' X' T'
  (try dsimp only)
  dsimp only [lR2, lR2']
  (focus ((iterate 2 walk1)))
  (focus (walk1))
  (focus (walk1))
  k_dflt (refine nameX_F (by k_asm) (by exact rfl) (o := o0) (by k_mem) hd_0 ?_)
  (focus ((iterate 4 walk1)))
  have N2 : News g' L' h' ((468, tabObj tc) :: (433, tabObj ta) :: (440, tabObj tb) :: (475, tabObj td) :: news) := nSub N' (by walk_at "MY:sub")
  clear N'
  refine spec_madeIn (imm := news) (s := { s with heap := h', toks := _ }) (by rfl) (by rfl) (Nat.le_of_ble_eq_true (by rfl)) (Nat.le_of_ble_eq_true (by rfl)) (by rfl) (by rfl) (by k_asm) (by k_asm) (by k_asm) (by k_asm) N2 q3 (fun p hp => List.mem_cons_of_mem _ (List.mem_cons_of_mem _ (List.mem_cons_of_mem _ hp))) ?ne0 ?_
  case ne0 => exact List.forall_mem_cons.mpr ⟨neN (by dsimp only; decide), List.forall_mem_cons.mpr ⟨neN (by dsimp only; decide), List.forall_mem_cons.mpr ⟨neN (by dsimp only; decide), fun p hp => (off p hp).2.2.1⟩⟩⟩
  intro g2 c1 c2 tc' own h2 tk2 F2 N3 lamA cm ck tq' offA
  (focus (walk1))
  rename News h₀ L _ _ => NN
  refine hQ g2 c1 c2 (own ++ news) _ _ (by k_asm) ⟨ta, tb, tc', td, nSub NN ?_, q1.mono (fun p hp => List.mem_append_right _ hp), q2.mono (fun p hp => List.mem_append_right _ hp), tq', q4.mono (fun p hp => List.mem_append_right _ hp), ?_⟩ (fun p hp => List.mem_append_right _ hp) (lamA.mono fun p hp => List.mem_append_left _ hp) (cm.mono fun p hp => List.mem_append_left _ hp) (ck.mono fun p hp => List.mem_append_left _ hp)
  · intro p hp
    simp only [List.mem_cons, List.mem_append] at hp ⊢
    rcases hp with h | h | h | h | h | h <;> simp only [h, true_or, or_true]
  · intro p hp
    rcases List.mem_append.mp hp with hp | hp
    · rcases (offA p hp).2 with h | h
      · have e1 := h (433, tabObj ta) (by k_mem)
        have e2 := h (440, tabObj tb) (by k_mem)
        have e3 := h (468, tabObj tc) (by k_mem)
        have e4 := h (475, tabObj td) (by k_mem)
        dsimp only at e1 e2 e3 e4
        exact ⟨neN (by omega), neN (by omega), neN (by omega), neN (by omega)⟩
      · exact off p h
    · exact off p hp
theorem spec_lR3 {f c : Addr} {mk kv : Value}
    (hA : A.frames = some (env :: outer)) (hh : A.handled = none) (hd : A.depth ≤ 340) (hu : A.units ≤ 800) (hf : env.frame = some L) (hke : env.scope.kind = .function)
    (B : Below A₀ base outer h₀) (F : Fr h₀ L s.heap m) (X : (Mine.hd.heap_39 w.params).In h₀) (T : Top p loose mean mg mb h₀)
    (N : TN h₀ s.heap L news) (hF : LamAt news f (qLam "_law_register") lR3 [("mark", c)]) (hc0 : CellAt news c mk)
    (hQ : ∀ g c1 c2 news' h' tk, Fr h₀ L h' m → TN h₀ h' L news' → (∀ p ∈ news, p ∈ news') → LamAt news' g (qLam "_law_made_out") lMadeOut [("of", c2), ("mark", c1)] → CellAt news' c1 mk → CellAt news' c2 kv → Q (.ref g) { s with heap := h', toks := tk }) :
    wpAny (model PROG w) A (call (.ref f) [kv] []) Q E s := by
  refine wp_le 340 800 hA hh hd hu ?_
  obtain ⟨ta, tb, tc, td, N, q1, q2, q3, q4, off⟩ := N
  obtain ⟨pm, c', ctv, oc, vs, tt, mf, mc, hd1, hv1⟩ := hF
  obtain ⟨o0, mo0, hd_0⟩ := hc0
  walk_at "MY:lam"
  intro g' L' h' FG' F' N' B' X' T'
  (try dsimp only)
  dsimp only [lR3, lR3']
  (focus ((iterate 2 walk1)))
  (focus (walk1))
  (focus (walk1))
  k_dflt (refine nameX_F (by k_asm) (by exact rfl) (o := o0) (by k_mem) hd_0 ?_)
  (focus ((iterate 4 walk1)))
  have N2 : News g' L' h' ((475, tabObj td) :: (433, tabObj ta) :: (440, tabObj tb) :: (468, tabObj tc) :: news) := nSub N' (by walk_at "MY:sub")
  clear N'
  refine spec_madeOut (imm := news) (s := { s with heap := h', toks := _ }) (by rfl) (by rfl) (Nat.le_of_ble_eq_true (by rfl)) (Nat.le_of_ble_eq_true (by rfl)) (by rfl) (by rfl) (by k_asm) (by k_asm) (by k_asm) (by k_asm) N2 q4 (fun p hp => List.mem_cons_of_mem _ (List.mem_cons_of_mem _ (List.mem_cons_of_mem _ hp))) ?ne0 ?_
  case ne0 => exact List.forall_mem_cons.mpr ⟨neN (by dsimp only; decide), List.forall_mem_cons.mpr ⟨neN (by dsimp only; decide), List.forall_mem_cons.mpr ⟨neN (by dsimp only; decide), fun p hp => (off p hp).2.2.2⟩⟩⟩
  intro g2 c1 c2 td' own h2 tk2 F2 N3 lamA cm ck tq' offA
  (focus (walk1))
  rename News h₀ L _ _ => NN
  refine hQ g2 c1 c2 (own ++ news) _ _ (by k_asm) ⟨ta, tb, tc, td', nSub NN ?_, q1.mono (fun p hp => List.mem_append_right _ hp), q2.mono (fun p hp => List.mem_append_right _ hp), q3.mono (fun p hp => List.mem_append_right _ hp), tq', ?_⟩ (fun p hp => List.mem_append_right _ hp) (lamA.mono fun p hp => List.mem_append_left _ hp) (cm.mono fun p hp => List.mem_append_left _ hp) (ck.mono fun p hp => List.mem_append_left _ hp)
  · intro p hp
    simp only [List.mem_cons, List.mem_append] at hp ⊢
    rcases hp with h | h | h | h | h | h <;> simp only [h, true_or, or_true]
  · intro p hp
    rcases List.mem_append.mp hp with hp | hp
    · rcases (offA p hp).2 with h | h
      · have e1 := h (433, tabObj ta) (by k_mem)
        have e2 := h (440, tabObj tb) (by k_mem)
        have e3 := h (468, tabObj tc) (by k_mem)
        have e4 := h (475, tabObj td) (by k_mem)
        dsimp only at e1 e2 e3 e4
        exact ⟨neN (by omega), neN (by omega), neN (by omega), neN (by omega)⟩
      · exact off p h
    · exact off p hp
theorem spec_lOut {f c : Addr} {mk kv : Value}
    (hA : A.frames = some (env :: outer)) (hh : A.handled = none) (hd : A.depth ≤ 340) (hu : A.units ≤ 800) (hf : env.frame = some L) (hke : env.scope.kind = .function)
    (B : Below A₀ base outer h₀) (F : Fr h₀ L s.heap m) (X : (Mine.hd.heap_39 w.params).In h₀) (T : Top p loose mean mg mb h₀)
    (N : TN h₀ s.heap L news) (hF : LamAt news f (qLam "_law_new") lOut [("mark", c)]) (hc0 : CellAt news c mk)
    (hQ : ∀ g c1 c2 news' h' tk, Fr h₀ L h' m → TN h₀ h' L news' → (∀ p ∈ news, p ∈ news') → LamAt news' g (qLam "_law_last_out") lLastOut [("mark", c1), ("kind", c2)] → CellAt news' c1 mk → CellAt news' c2 kv → Q (.ref g) { s with heap := h', toks := tk }) :
    wpAny (model PROG w) A (call (.ref f) [kv] []) Q E s := by
  refine wp_le 340 800 hA hh hd hu ?_
  obtain ⟨ta, tb, tc, td, N, q1, q2, q3, q4, off⟩ := N
  obtain ⟨pm, c', ctv, oc, vs, tt, mf, mc, hd1, hv1⟩ := hF
  obtain ⟨o0, mo0, hd_0⟩ := hc0
  walk_at "MY:lam"
  intro g' L' h' FG' F' N' B' X' T'
  (try dsimp only)
  dsimp only [lOut, lOut']
  (focus ((iterate 2 walk1)))
  (focus (walk1))
  (focus (walk1))
  k_dflt (refine nameX_F (by k_asm) (by exact rfl) (o := o0) (by k_mem) hd_0 ?_)
  (focus ((iterate 4 walk1)))
  have N2 : News g' L' h' ((433, tabObj ta) :: (440, tabObj tb) :: (468, tabObj tc) :: (475, tabObj td) :: news) := nSub N' (by walk_at "MY:sub")
  clear N'
  refine spec_lastOut (imm := news) (s := { s with heap := h', toks := _ }) (by rfl) (by rfl) (Nat.le_of_ble_eq_true (by rfl)) (Nat.le_of_ble_eq_true (by rfl)) (by rfl) (by rfl) (by k_asm) (by k_asm) (by k_asm) (by k_asm) N2 q1 (fun p hp => List.mem_cons_of_mem _ (List.mem_cons_of_mem _ (List.mem_cons_of_mem _ hp))) ?ne0 ?_
  case ne0 => exact List.forall_mem_cons.mpr ⟨neN (by dsimp only; decide), List.forall_mem_cons.mpr ⟨neN (by dsimp only; decide), List.forall_mem_cons.mpr ⟨neN (by dsimp only; decide), fun p hp => (off p hp).1⟩⟩⟩
  intro g2 c1 c2 ta' own h2 tk2 F2 N3 lamA cm ck tq' offA
  (focus (walk1))
  rename News h₀ L _ _ => NN
  refine hQ g2 c1 c2 (own ++ news) _ _ (by k_asm) ⟨ta', tb, tc, td, nSub NN ?_, tq', q2.mono (fun p hp => List.mem_append_right _ hp), q3.mono (fun p hp => List.mem_append_right _ hp), q4.mono (fun p hp => List.mem_append_right _ hp), ?_⟩ (fun p hp => List.mem_append_right _ hp) (lamA.mono fun p hp => List.mem_append_left _ hp) (cm.mono fun p hp => List.mem_append_left _ hp) (ck.mono fun p hp => List.mem_append_left _ hp)
  · intro p hp
    simp only [List.mem_cons, List.mem_append] at hp ⊢
    rcases hp with h | h | h | h | h | h <;> simp only [h, true_or, or_true]
  · intro p hp
    rcases List.mem_append.mp hp with hp | hp
    · rcases (offA p hp).2 with h | h
      · have e1 := h (433, tabObj ta) (by k_mem)
        have e2 := h (440, tabObj tb) (by k_mem)
        have e3 := h (468, tabObj tc) (by k_mem)
        have e4 := h (475, tabObj td) (by k_mem)
        dsimp only at e1 e2 e3 e4
        exact ⟨neN (by omega), neN (by omega), neN (by omega), neN (by omega)⟩
      · exact off p h
    · exact off p hp
theorem spec_lInto {f c : Addr} {mk kv : Value}
    (hA : A.frames = some (env :: outer)) (hh : A.handled = none) (hd : A.depth ≤ 340) (hu : A.units ≤ 800) (hf : env.frame = some L) (hke : env.scope.kind = .function)
    (B : Below A₀ base outer h₀) (F : Fr h₀ L s.heap m) (X : (Mine.hd.heap_39 w.params).In h₀) (T : Top p loose mean mg mb h₀)
    (N : TN h₀ s.heap L news) (hF : LamAt news f (qLam "_law_new") lInto [("mark", c)]) (hc0 : CellAt news c mk)
    (hQ : ∀ g c1 c2 news' h' tk, Fr h₀ L h' m → TN h₀ h' L news' → (∀ p ∈ news, p ∈ news') → LamAt news' g (qLam "_law_last_in") lLastIn [("mark", c1), ("kind", c2)] → CellAt news' c1 mk → CellAt news' c2 kv → Q (.ref g) { s with heap := h', toks := tk }) :
    wpAny (model PROG w) A (call (.ref f) [kv] []) Q E s := by
  refine wp_le 340 800 hA hh hd hu ?_
  obtain ⟨ta, tb, tc, td, N, q1, q2, q3, q4, off⟩ := N
  obtain ⟨pm, c', ctv, oc, vs, tt, mf, mc, hd1, hv1⟩ := hF
  obtain ⟨o0, mo0, hd_0⟩ := hc0
  walk_at "MY:lam"
  intro g' L' h' FG' F' N' B' X' T'
  (try dsimp only)
  dsimp only [lInto, lInto']
  (focus ((iterate 2 walk1)))
  (focus (walk1))
  (focus (walk1))
  k_dflt (refine nameX_F (by k_asm) (by exact rfl) (o := o0) (by k_mem) hd_0 ?_)
  (focus ((iterate 4 walk1)))
  have N2 : News g' L' h' ((440, tabObj tb) :: (433, tabObj ta) :: (468, tabObj tc) :: (475, tabObj td) :: news) := nSub N' (by walk_at "MY:sub")
  clear N'
  refine spec_lastIn (imm := news) (s := { s with heap := h', toks := _ }) (by rfl) (by rfl) (Nat.le_of_ble_eq_true (by rfl)) (Nat.le_of_ble_eq_true (by rfl)) (by rfl) (by rfl) (by k_asm) (by k_asm) (by k_asm) (by k_asm) N2 q2 (fun p hp => List.mem_cons_of_mem _ (List.mem_cons_of_mem _ (List.mem_cons_of_mem _ hp))) ?ne0 ?_
  case ne0 => exact List.forall_mem_cons.mpr ⟨neN (by dsimp only; decide), List.forall_mem_cons.mpr ⟨neN (by dsimp only; decide), List.forall_mem_cons.mpr ⟨neN (by dsimp only; decide), fun p hp => (off p hp).2.1⟩⟩⟩
  intro g2 c1 c2 tb' own h2 tk2 F2 N3 lamA cm ck tq' offA
  (focus (walk1))
  rename News h₀ L _ _ => NN
  refine hQ g2 c1 c2 (own ++ news) _ _ (by k_asm) ⟨ta, tb', tc, td, nSub NN ?_, q1.mono (fun p hp => List.mem_append_right _ hp), tq', q3.mono (fun p hp => List.mem_append_right _ hp), q4.mono (fun p hp => List.mem_append_right _ hp), ?_⟩ (fun p hp => List.mem_append_right _ hp) (lamA.mono fun p hp => List.mem_append_left _ hp) (cm.mono fun p hp => List.mem_append_left _ hp) (ck.mono fun p hp => List.mem_append_left _ hp)
  · intro p hp
    simp only [List.mem_cons, List.mem_append] at hp ⊢
    rcases hp with h | h | h | h | h | h <;> simp only [h, true_or, or_true]
  · intro p hp
    rcases List.mem_append.mp hp with hp | hp
    · rcases (offA p hp).2 with h | h
      · have e1 := h (433, tabObj ta) (by k_mem)
        have e2 := h (440, tabObj tb) (by k_mem)
        have e3 := h (468, tabObj tc) (by k_mem)
        have e4 := h (475, tabObj td) (by k_mem)
        dsimp only at e1 e2 e3 e4
        exact ⟨neN (by omega), neN (by omega), neN (by omega), neN (by omega)⟩
      · exact off p h
    · exact off p hp
end
end
example {M : Model} {A : Around} {E Q : Value → Shared → Prop} {s : Shared} (h : wpAny M A (pure .none) Q E s) : wpAny M A (pure .none) Q E s := by
  w_top off
  first
    | (walk1; fail)
    | exact h
section
local macro_rules | `(tactic| walk_at "MY:mem") => `(tactic| first | exact List.mem_cons_self | (refine' List.mem_cons_of_mem _ ?_; walk_at "MY:mem") | assumption | ktr_member)
local macro_rules | `(tactic| walk_at "eval Name") => `(tactic| (k_here; k_dflt (refine' ld ?k1 ?k2 ?_; (case k1 => k_asm); (case k2 => first | exact rfl | assumption))))
local macro_rules | `(tactic| walk_at "callWith ref") => `(tactic| (k_here; k_dflt (refine' callWith_F ?k1 ?_; (case k1 => exact FnAt.of (by k_asm) (by k_mem)))))
/-- an entry of a list of handlers -/
inductive Ent
  | hook (way : Nat) (k : Kd) (mk : Int)
  | tO | tB | tC
def Ent.gen : Ent → Bool
  | .hook way _ _ => Nat.ble 2 way
  | _ => false
def Ent.hits : Ent → Kd → Bool
  | .hook _ k _, j => decide (j = k)
  | .tO, j => anyB j
  | .tB, j => anyNB j
  | .tC, _ => false
def PredAt (l : List (Addr × Obj)) (f : Addr) : Ent → Prop
  | .hook _ k _ => ∃ cl tk, LamAt l f (qLam "_law_is") lIs [("kind", cl)] ∧ CellAt l cl (kdV k tk)
  | .tO => LamAt l f (qLam "BaseConverter.__init__") lPA []
  | .tB => LamAt l f (qLam "BaseConverter.__init__") lPB []
  | .tC => LamAt l f (qLam "BaseConverter.__init__") lPC []
def HandAt (l : List (Addr × Obj)) (x g : Addr) : Ent → Prop
  | .hook way _ mk => ∃ cm tm, LamAt l g (qLam "_law_register") (lR way) [("mark", cm)] ∧ CellAt l cm (.int mk tm)
  | .tO => (g, methodObj (.ref 239) (.ref x)) ∈ l
  | .tB => LamAt l g (qLam "BaseConverter.__init__") lHB []
  | .tC => g = 299
def EntAt (l : List (Addr × Obj)) (x t : Addr) (e : Ent) : Prop :=
  ∃ f g, (t, tupObj [.ref f, .ref g, .bool e.gen, .bool false]) ∈ l ∧ PredAt l f e ∧ HandAt l x g e
theorem LamAt.fn {l : List (Addr × Obj)} {f : Addr} {q : Str} {u : Lam} {clos : List (Str × Addr)} (h : LamAt l f q u clos) : ∃ oc od fd sl, (f, (⟨oc, od, .func fd, sl⟩ : Obj)) ∈ l := by
  obtain ⟨pm, c', ctv, oc, vs, t, a, _⟩ := h
  exact ⟨_, _, _, _, a⟩
theorem PredAt.fn {l : List (Addr × Obj)} {f : Addr} {e : Ent} (h : PredAt l f e) : ∃ oc od fd sl, (f, (⟨oc, od, .func fd, sl⟩ : Obj)) ∈ l := by
  cases e with
  | hook _ _ _ => obtain ⟨_, _, a, _⟩ := h; exact a.fn
  | tO => exact LamAt.fn h
  | tB => exact LamAt.fn h
  | tC => exact LamAt.fn h
theorem PredAt.mono {l l' : List (Addr × Obj)} {f : Addr} {e : Ent} (h : PredAt l f e) (k : ∀ p ∈ l, p ∈ l') : PredAt l' f e := by
  cases e with
  | hook _ _ _ => obtain ⟨a, b, c, d⟩ := h; exact ⟨a, b, c.mono k, d.mono k⟩
  | tO => exact LamAt.mono h k
  | tB => exact LamAt.mono h k
  | tC => exact LamAt.mono h k
theorem HandAt.mono {l l' : List (Addr × Obj)} {x g : Addr} {e : Ent} (h : HandAt l x g e) (k : ∀ p ∈ l, p ∈ l') : HandAt l' x g e := by
  cases e with
  | hook _ _ _ => obtain ⟨a, b, c, d⟩ := h; exact ⟨a, b, c.mono k, d.mono k⟩
  | tO => exact k _ h
  | tB => exact LamAt.mono h k
  | tC => exact h
theorem EntAt.mono {l l' : List (Addr × Obj)} {x t : Addr} {e : Ent} (h : EntAt l x t e) (k : ∀ p ∈ l, p ∈ l') : EntAt l' x t e :=
  let ⟨f, g, a, b, c⟩ := h; ⟨f, g, k _ a, b.mono k, c.mono k⟩
/-- a handler that the dispatcher hands out -/
def Found (l : List (Addr × Obj)) (x : Addr) (e : Ent) (j : Kd) (hv : Value) : Prop := match e with
  | .hook way _ mk => ∃ g cm tm, hv = .ref g ∧ CellAt l cm (.int mk tm) ∧
      (match way with
        | 0 => LamAt l g (qLam "_law_register") lR0 [("mark", cm)]
        | 1 => LamAt l g (qLam "_law_register") lR1 [("mark", cm)]
        | 2 => ∃ c2 t2, LamAt l g (qLam "_law_made_in") lMadeIn [("of", c2), ("mark", cm)] ∧ CellAt l c2 (kdV j t2)
        | _ => ∃ c2 t2, LamAt l g (qLam "_law_made_out") lMadeOut [("of", c2), ("mark", cm)] ∧ CellAt l c2 (kdV j t2))
  | .tO => ∃ g, hv = .ref g ∧ (g, methodObj (.ref 239) (.ref x)) ∈ l
  | .tB => ∃ g, hv = .ref g ∧ LamAt l g (qLam "BaseConverter.__init__") lHB []
  | .tC => False
theorem HandAt.fn {l : List (Addr × Obj)} {x g : Addr} {e : Ent} (h : HandAt l x g e) (hg : e.gen = true) : ∃ oc od fd sl, (g, (⟨oc, od, .func fd, sl⟩ : Obj)) ∈ l := by
  cases e with
  | hook _ _ _ => obtain ⟨_, _, a, _⟩ := h; exact a.fn
  | tO => cases hg
  | tB => cases hg
  | tC => cases hg
theorem found_of {l : List (Addr × Obj)} {x g : Addr} {e : Ent} {j : Kd} (h : HandAt l x g e) (hg : e.gen = false) (hb : e.hits j = true) : Found l x e j (.ref g) := by
  cases e with
  | hook way k mk =>
    obtain ⟨cm, tm, a, b⟩ := h
    rcases way with _ | _ | w
    · exact ⟨g, cm, tm, rfl, b, a⟩
    · exact ⟨g, cm, tm, rfl, b, a⟩
    · exact absurd (show true = false from hg) (by decide)
  | tO => exact ⟨g, rfl, h⟩
  | tB => exact ⟨g, rfl, h⟩
  | tC => exact absurd (show false = true from hb) Bool.false_ne_true
theorem find_first {es : List Ent} {i : Nat} {e : Ent} {p : Ent → Bool} (hi : i < es.length) (he : es[i]? = some e) (hb : p e = true) (hpre : ∀ i' : Nat, i' < i → ∀ e, es[i']? = some e → p e = false) : es.find? p = some e := by
  induction es generalizing i with
  | nil => cases he
  | cons a r ih =>
    cases i with
    | zero =>
      have : a = e := by simpa using he
      subst this
      rw [List.find?_cons, hb]
    | succ i =>
      have ha : p a = false := hpre 0 (Nat.succ_pos _) a rfl
      rw [List.find?_cons, ha]
      exact ih (by simpa using hi) (by simpa using he) fun i' h e' h' => hpre (i' + 1) (Nat.succ_lt_succ h) e' (by simpa using h')
theorem find_none {es : List Ent} {p : Ent → Bool} (hpre : ∀ i' : Nat, i' < es.length → ∀ e, es[i']? = some e → p e = false) : es.find? p = none := by
  rw [List.find?_eq_none]
  intro e he
  obtain ⟨i, hi⟩ := List.getElem?_of_mem he
  have h1 : i < es.length := (List.getElem?_eq_some_iff.mp hi).1
  rw [hpre i h1 e hi]
  exact Bool.false_ne_true
section
variable {w : World} {A₀ A : Around} {base h₀ : Heap} {env : Env} {outer : List Env} {L : Addr} {m mg mb : Str → Option Value} {p : Program} {loose : List Str} {mean : ExcName → Option Value} {s : Shared} {Q E : Value → Shared → Prop} {news l : List (Addr × Obj)}
theorem pred_call {f : Addr} {e : Ent} {j : Kd} {t : Tok}
    (hA : A.frames = some (env :: outer)) (hh : A.handled = none) (hd : A.depth ≤ 345) (hu : A.units ≤ 850) (hf : env.frame = some L) (hke : env.scope.kind = .function)
    (B : Below A₀ base outer h₀) (F : Fr h₀ L s.heap m) (X : (Mine.hd.heap_39 w.params).In h₀) (T : Top p loose mean mg mb h₀)
    (N : News h₀ L s.heap news) (hp : PredAt news f e)
    (hQ : ∀ h' tk, Fr h₀ L h' m → News h₀ L h' news → Q (.bool (e.hits j)) { s with heap := h', toks := tk }) :
    wpAny (model PROG w) A (call (.ref f) [kdV j t] []) Q E s := by
  cases e with
  | hook way k mk =>
    obtain ⟨cl, tk, a, b⟩ := hp
    exact spec_lIs hA hh hd hu hf hke B F X T N a b hQ
  | tO => exact spec_lPA hA hh hd hu hf hke B F X T N hp hQ
  | tB => exact spec_lPB hA hh hd hu hf hke B F X T N hp hQ
  | tC => exact spec_lPC hA hh hd hu hf hke B F X T N hp hQ
theorem gen_call {g x : Addr} {e : Ent} {j : Kd} {t : Tok}
    (hA : A.frames = some (env :: outer)) (hh : A.handled = none) (hd : A.depth ≤ 340) (hu : A.units ≤ 800) (hf : env.frame = some L) (hke : env.scope.kind = .function)
    (B : Below A₀ base outer h₀) (F : Fr h₀ L s.heap m) (X : (Mine.hd.heap_39 w.params).In h₀) (T : Top p loose mean mg mb h₀)
    (N : TN h₀ s.heap L news) (hp : HandAt news x g e) (hg : e.gen = true)
    (hQ : ∀ hv news' h' tk, Fr h₀ L h' m → TN h₀ h' L news' → (∀ p ∈ news, p ∈ news') → Found news' x e j hv → Q hv { s with heap := h', toks := tk }) :
    wpAny (model PROG w) A (call (.ref g) [kdV j t] []) Q E s := by
  cases e with
  | hook way k mk =>
    obtain ⟨cm, tm, a, b⟩ := hp
    rcases way with _ | _ | _ | w'
    · exact absurd (show false = true from hg) Bool.false_ne_true
    · exact absurd (show false = true from hg) Bool.false_ne_true
    · have a' : LamAt news g (qLam "_law_register") lR2 [("mark", cm)] := a
      refine spec_lR2 hA hh hd hu hf hke B F X T N a' b ?_
      intro g' c1 c2 news' h' tk F' N' sub lam ce1 ce2
      refine hQ _ news' h' tk F' N' sub ?_
      exact ⟨g', c1, tm, rfl, ce1, c2, t, lam, ce2⟩
    · have a' : LamAt news g (qLam "_law_register") lR3 [("mark", cm)] := a
      refine spec_lR3 hA hh hd hu hf hke B F X T N a' b ?_
      intro g' c1 c2 news' h' tk F' N' sub lam ce1 ce2
      refine hQ _ news' h' tk F' N' sub ?_
      exact ⟨g', c1, tm, rfl, ce1, c2, t, lam, ce2⟩
  | tO => cases hg
  | tB => cases hg
  | tC => cases hg
theorem spec_dispatch {fd dfd hp x : Addr} {cv : Value} {t1 t2 t : Tok} {vs : List Value} {n : Nat} {es : List Ent} {j : Kd}
    (hA : A.frames = some (env :: outer)) (hh : A.handled = none) (hd : A.depth ≤ 336) (hu : A.units ≤ 760) (hf : env.frame = some L) (hke : env.scope.kind = .function)
    (B : Below A₀ base outer h₀) (F : Fr h₀ L s.heap m) (X : (Mine.hd.heap_39 w.params).In h₀) (T : Top p loose mean mg mb h₀)
    (N : TN h₀ s.heap L news) (m1 : (fd, fdObj dfd) ∈ news) (m2 : (dfd, fdDict w t1 t2 cv hp) ∈ news) (m3 : (hp, W.listOf vs.toArray n) ∈ news)
    (hlen : vs.length = es.length) (hvs : ∀ (i : Nat) v e, vs[i]? = some v → es[i]? = some e → ∃ a, v = Value.ref a ∧ EntAt news x a e)
    (hN : es.find? (·.hits j) = none → ∀ h' tk, Fr h₀ L h' m → TN h₀ h' L news → Q .none { s with heap := h', toks := tk })
    (hS : ∀ e, es.find? (·.hits j) = some e → ∀ hv news' h' tk, Fr h₀ L h' m → TN h₀ h' L news' → (∀ p ∈ news, p ∈ news') → Found news' x e j hv → Q hv { s with heap := h', toks := tk }) :
    wpAny (model PROG w) A (call (.ref 52) [.ref fd, kdV j t] []) Q E s := by
  refine wp_le 336 760 hA hh hd hu ?_
  obtain ⟨ta, tb, tc, td, N, q1, q2, q3, q4, off⟩ := N
  walk_at "MY:enter"
  (focus ((iterate 2 walk1)))
  refine wpAny_For ?_
  (focus ((iterate 3 walk1)))
  refine for_list (vs := vs) (nn := n) (fun i m' nw => m' "self" = some (.ref fd) ∧ m' "typ" = some (kdV j t) ∧ nw = (433, tabObj ta) :: (440, tabObj tb) :: (468, tabObj tc) :: (475, tabObj td) :: news ∧ ∀ i' : Nat, i' < i → ∀ e, es[i']? = some e → e.hits j = false) rfl (by k_asm) (by k_asm) ⟨rfl, rfl, rfl, fun i' h => absurd h (Nat.not_lt_zero _)⟩ ?_ ?_ ?_
  · rintro i m' nw ⟨_, _, rfl, _⟩
    k_mem
  · rintro I i v m₁ news₁ hx tkx it hv ⟨hself, htyp, rfl, hpre⟩ hI hoff hc F1 N1
    have hi : i < es.length := by rw [← hlen]; exact (List.getElem?_eq_some_iff.mp hv).1
    obtain ⟨e, he⟩ : ∃ e, es[i]? = some e := ⟨es[i], by simp [hi]⟩
    obtain ⟨a, rfl, f, g, mt, pa, ha⟩ := hvs i v e hv he
    obtain ⟨oc, od, fdd, sl, mf⟩ := pa.fn
    clear hv hI
    (try k_fold)
    (focus ((iterate 27 walk1)))
    refine pred_call (e := e) (j := j) (by rfl) (by rfl) (Nat.le_of_ble_eq_true (by rfl)) (Nat.le_of_ble_eq_true (by rfl)) (by rfl) (by rfl) (by k_asm) (by k_asm) (by k_asm) (by k_asm) (by k_asm) (pa.mono (by walk_at "MY:sub")) ?_
    intro h2 tk2 F2 N2
    cases hb : e.hits j with
    | false =>
      (focus ((iterate 12 walk1)))
      rename Fr _ _ _ _ => FF
      rename News _ _ _ _ => NN
      refine ⟨_, _, _, _, rfl, FF, NN, hoff, hself, htyp, rfl, fun i' hi' e' he' => ?_⟩
      rcases Nat.lt_succ_iff_lt_or_eq.mp hi' with h | h
      · exact hpre i' h e' he'
      · subst h
        rw [he] at he'
        cases he'
        exact hb
    | true =>
      have hfind : es.find? (·.hits j) = some e := find_first hi he hb hpre
      cases hg : e.gen with
      | false =>
        rw [hg] at mt
        (focus ((iterate 20 walk1)))
        dsimp only [LPost]
        (focus (walk1))
        refine hS e hfind _ news _ _ (by k_asm) ⟨ta, tb, tc, td, ?_, q1, q2, q3, q4, off⟩ (fun p hp => hp) (found_of ha hg hb)
        rename News h₀ L _ _ => NN
        exact nSub NN (by walk_at "MY:sub")
      | true =>
        rw [hg] at mt
        obtain ⟨oc2, od2, fdd2, sl2, mg2⟩ := ha.fn hg
        (focus ((iterate 33 walk1)))
        refine gen_call (e := e) (g := g) (x := x) (news := (I, it) :: news) (by rfl) (by rfl) (Nat.le_of_ble_eq_true (by rfl)) (Nat.le_of_ble_eq_true (by rfl)) (by rfl) (by rfl) (by k_asm) (by k_asm) (by k_asm) (by k_asm) ?N (ha.mono fun p hp => List.mem_cons_of_mem _ hp) hg ?_
        case N =>
          refine ⟨ta, tb, tc, td, nSub (by assumption) (by walk_at "MY:sub"), q1.mono (fun p hp => List.mem_cons_of_mem _ hp), q2.mono (fun p hp => List.mem_cons_of_mem _ hp), q3.mono (fun p hp => List.mem_cons_of_mem _ hp), q4.mono (fun p hp => List.mem_cons_of_mem _ hp), List.forall_mem_cons.mpr ⟨?_, off⟩⟩
          exact ⟨Ne.symm (hoff (433, _) (by k_mem)), Ne.symm (hoff (440, _) (by k_mem)), Ne.symm (hoff (468, _) (by k_mem)), Ne.symm (hoff (475, _) (by k_mem))⟩
        intro hv' news' h5 tk5 F5 N5 sub5 fnd
        dsimp only [LPost]
        obtain ⟨ta', tb', tc', td', N6, r1, r2, r3, r4, off'⟩ := N5
        (focus (walk1))
        rename News h₀ L _ _ => NN
        exact hS e hfind _ news' _ _ (by k_asm) ⟨ta', tb', tc', td', NN, r1, r2, r3, r4, off'⟩ (fun p hp => sub5 p (List.mem_cons_of_mem _ hp)) fnd
  · rintro m₁ news₁ h3 tk3 ⟨hself, htyp, rfl, hpre⟩ F3 N3
    (try k_fold)
    (focus ((iterate 4 walk1)))
    rename News h₀ L _ _ => NN
    exact hN (find_none fun i' h e he => hpre i' (by rw [hlen]; exact h) e he) _ _ (by k_asm) ⟨ta, tb, tc, td, NN, q1, q2, q3, q4, off⟩
end
end
example {M : Model} {A : Around} {E Q : Value → Shared → Prop} {s : Shared} (h : wpAny M A (pure .none) Q E s) : wpAny M A (pure .none) Q E s := by
  w_top off
  first
    | (walk1; fail)
    | exact h
section
def isNoneV : Unit → Value → Bool
  | _, .none => true
  | _, _ => false
theorem isNoneV_shape {u : Unit} {v : Value} (h : isNoneV u v = true) : v = .none := by cases v <;> first | rfl | exact absurd h (by simp [isNoneV])
theorem wpAny_pyHash_none {prog : Program} {w : World} {A : Around} {E : Value → Shared → Prop} {s : Shared} {Q : Int → Shared → Prop} (h : Q 0xFCA86420 { s with toks := s.toks + 1 }) : wpAny (model prog w) A (pyHash .none) Q E s := by
  have hT : s.TypeIs .none "NoneType" := rfl
  show wpAny _ _ (pyHashByItsType .none) Q E s
  unfold pyHashByItsType
  refine wpAny_bind ?_
  rw [cRoomFor, if_neg (by exact Bool.false_ne_true)]; refine wpAny_pure ?_
  refine wpAny_bind (wpAny_specialOf hT F.slot_NoneType_hash.lookup ?_)
  show wpAny _ _ (if (some (Value.builtin "NoneType.__hash__") == some Value.none) = true then _ else _) Q E s
  rw [if_neg (by rw [beq_builtin_none]; exact Bool.false_ne_true)]
  refine wpAny_bind (wpAny_specialOf hT F.slot_NoneType_hash.lookup ?_)
  show wpAny _ _ (callSpecialIfBoundUnlessNone? .none "__hash__" _ >>= _) Q E s
  refine wpAny_bind (wpAny_callSpecialIfBoundUnlessNone?_slot hT F.slot_NoneType_hash
    (wpAny_call_entry F.slot_NoneType_hash hT F.entry_NoneType_hash
      (show wpAny _ _ (do ret (← mkInt 0xFCA86420)) _ _ s from wpAny_ret_mkInt ?_) (F.args_NoneType_hash_1 _)))
  show wpAny _ _ (if (decide (-(2 : Int) ^ 63 ≤ 0xFCA86420) && decide ((0xFCA86420 : Int) < 2 ^ 63)) = true then _ else _) Q E _
  rw [if_pos (by decide)]
  exact wpAny_pure h
def noneKind (prog : Program) (w : World) : KeyKind prog w Unit where
  is := isNoneV
  hash := fun _ => 0xFCA86420
  inj := fun _ _ _ _ _ => rfl
  byValue := fun k v h => by rw [isNoneV_shape h]; rfl
  pyHash := fun hv h => by rw [isNoneV_shape hv]; exact wpAny_pyHash_none h
  eqBool := fun hu hv h => by
    rw [isNoneV_shape hu, isNoneV_shape hv]
    unfold eqBool
    simp only [show (Value.none == Value.none) = true from rfl, if_true]
    exact wpAny_bind (wpAny_rule (wpAny_pure h))
  «strs» := fun k x t v h => by exact absurd h (by simp [isNoneV])
theorem empty_none {w : World} {o : Obj} (h : o.IsDictOf (strKind PROG w) []) : o.IsDictOf (noneKind PROG w) [] := by
  obtain ⟨es, ep, a, b, c, d, e⟩ := h
  have : es = #[] := by
    have := d.length
    simpa using this
  subst this
  exact ⟨#[], ep, a, b, fun _ he => by simp at he, Pairs.nil, List.nodup_nil⟩
section
variable {w : World} {A : Around} {E : Value → Shared → Prop} {s : Shared} {h₀ : Heap} {L d : Addr} {news : List (Addr × Obj)} {o : Obj}
/-- d.get(k) of an empty dict -/
theorem get_empty {j : Kd} {t : Tok} {Q : Value → Shared → Prop} (N : News h₀ L s.heap news) (hp : (d, o) ∈ news) (hd : o.IsDictOf (strKind PROG w) []) (lo : (d == sysModules) = false) (h : Q .none { s with toks := s.toks + 1 }) :
    wpAny (model PROG w) A (call (.builtin "dict.get") [.ref d, kdV j t]) Q E s := by
  cases j
  case non => exact kdg_get1 (knd := noneKind PROG w) (k := ()) (kvs := []) N hp (empty_none hd) lo rfl none rfl h
  all_goals exact kdg_get1 (knd := strKind PROG w) (kvs := []) N hp hd lo (strKind_is _ _ _ _) none rfl h
end
end
example {M : Model} {A : Around} {E Q : Value → Shared → Prop} {s : Shared} (h : wpAny M A (pure .none) Q E s) : wpAny M A (pure .none) Q E s := by
  w_top off
  first
    | (walk1; fail)
    | exact h
section
/-- the exception at e has its newest traceback entry, with that flight mark; P is what is known of the object -/
def TrP (h base : Heap) (e : Addr) (P : Obj → Prop) (fl : Value) : Prop :=
  ∃ oe vs T oT ts, h.get? e = some oe ∧ P oe ∧ oe.data = .fields vs ∧ vs[1]? = some (.ref T) ∧ base.get? T = none ∧ T ≠ e ∧ h.get? T = some oT ∧ oT.data = .fields ts ∧ ts[3]? = some fl
/-- P does not look at the traceback -/
def Blind (P : Obj → Prop) : Prop := ∀ o x, P o → P (Obj.mapFields (·.setIfInBounds 1 x) o)
section
variable {M : Model} {A : Around} {E : Value → Shared → Prop} {s : Shared} {base : Heap} {env : Env} {outer l : List Env} {L e : Addr} {P : Obj → Prop} {Q : Unit → Shared → Prop}
theorem not_fields {h : Heap} {a : Addr} {oa : Obj} {vs : Array Value} (ha : h.get? a = some oa) (hd : oa.data = .fields vs) {b : Addr} {o : Obj} (hb : h.get? b = some o) (hn : ∀ us, o.data ≠ .fields us) : b ≠ a := fun q => by
  rw [q, ha] at hb
  exact hn vs (Option.some.inj hb ▸ hd)
theorem entryP {oe : Obj} {vs : Array Value} {head : Value} {hadNext : Bool} (hst : Blind P)
    (hfr : A.frames = some (env :: outer)) (hl : s.heap.FunFrames base (env :: outer)) (hf : env.frame = some L)
    (he : s.heap.get? e = some oe) (hP : P oe) (hkb : base.StaysIn s.heap) (hen : base.get? e = none) (hd : oe.data = .fields vs) (hsz : 1 < vs.size)
    (h : ∀ h', base.StaysIn h' → h'.FunFrames base (env :: outer) → TrP h' base e P (rawInt L) → s.heap.UpToSlots h' → Q () { s with heap := h' }) :
    wpAny M A (do let a ← frameOf env; let pl ← entryPlaceOf L hadNext; let b ← EntryCells.newEntry head a .none (rawInt L) .none pl; setField (.ref e) 1 b) Q E s := by
  have out : e ∉ (env :: outer).filterMap (·.frame) := fun hm => by
    obtain ⟨_, o, ho, hnf⟩ := hl.mem hm
    exact hnf vs ((Option.some.inj (he.symm.trans ho)) ▸ hd)
  refine wpAny_bind (wpAny_frameOf_fun hfr hl hf fun h₁ only => ?_)
  refine wpAny_bind (wpAny_entryPlaceOf fun pl hpl => ?_)
  unfold EntryCells.newEntry newFields
  refine wpAny_bind (wpAny_newObj_type ?_ (hpl.sizeOk5 _ _ _ _ _))
  have e1 : h₁.get? e = some oe := (only.2.1 e out).trans he
  have k1 : base.StaysIn h₁ := fun b o hb => (only.2.1 b fun hm => by rw [(hl.mem hm).1] at hb; cases hb).trans (hkb b o hb)
  generalize ht : ({ cls := .type "traceback", dict := none, data := .fields ([head, .ref L, .none, rawInt L, .none] ++ (if pl.isEmpty then List.replicate 6 Value.none else pl)).toArray } : Obj) = tb
  have e2 := Heap.get?_push_of_some (h := h₁) tb e1
  have ne : h₁.objs.size ≠ e := Nat.ne_of_gt (Heap.lt_size e1)
  have d3 := Obj.data_mapFields hd (·.setIfInBounds 1 (Value.ref h₁.objs.size))
  have e3 := Heap.get?_update_self (Obj.mapFields (·.setIfInBounds 1 (Value.ref h₁.objs.size))) e2 (Obj.isFreed_of_fields d3)
  have frd : tb.isFreed = false := by subst ht; rfl
  have t3 := (Heap.get?_update_other (h₁.push tb) (Obj.mapFields (·.setIfInBounds 1 (Value.ref h₁.objs.size))) (Ne.symm ne)).trans (Heap.get?_push_size h₁ frd)
  have stay : ∀ b o, b ≠ e → h₁.get? b = some o → ((h₁.push tb).update e (Obj.mapFields (·.setIfInBounds 1 (Value.ref h₁.objs.size)))).get? b = some o := fun b o hb q => by
    rw [Heap.get?_update_other _ _ (Ne.symm hb)]
    exact Heap.get?_push_of_some _ q
  refine wpAny_setField e2 hd hsz (h _ (fun b o q => stay b o (fun z => by rw [z, hen] at q; cases q) (k1 b o q)) (hl.of_keeps fun b o q hn => ?_) ?_ fun b o q hn => ?_)
  · obtain ⟨sl, z⟩ := only.2.2 b o q
    exact ⟨_, stay b _ (not_fields he hd q hn) z, rfl⟩
  · refine ⟨_, _, h₁.objs.size, _, _, e3, hst _ _ hP, d3, by simp [hsz], k1.fresh, ne, t3, by rw [← ht], ?_⟩
    rcases hpl with rfl | ⟨_, _, _, _, _, _, _, rfl⟩ <;> simp
  · obtain ⟨sl, z⟩ := only.2.2 b o q
    exact ⟨sl, stay b _ (not_fields he hd q hn) z⟩
theorem noteP0 {oe : Obj} {vs : Array Value} (hst : Blind P)
    (hfr : A.frames = some (env :: outer)) (hl : s.heap.FunFrames base (env :: outer)) (hf : env.frame = some L)
    (he : s.heap.get? e = some oe) (hP : P oe) (hkb : base.StaysIn s.heap) (hen : base.get? e = none) (hd : oe.data = .fields vs) (h1 : vs[1]? = some .none)
    (h : ∀ h', base.StaysIn h' → h'.FunFrames base (env :: outer) → TrP h' base e P (rawInt L) → s.heap.UpToSlots h' → Q () { s with heap := h' }) : wpAny M A (noteFrame (.ref e) env) Q E s := by
  unfold noteFrame
  simp only [hf]
  refine wpAny_bind (wpAny_field he hd h1 ?_)
  rw [if_neg (by decide)]
  exact entryP hst hfr hl hf he hP hkb hen hd (Array.getElem?_eq_some_iff.mp h1).1 h
theorem noteP (hst : Blind P) (hfr : A.frames = some (env :: outer)) (hl : s.heap.FunFrames base (env :: outer)) (hf : env.frame = some L) (ht : TrP s.heap base e P .none) (hkb : base.StaysIn s.heap) (hen : base.get? e = none)
    (h : ∀ h', base.StaysIn h' → h'.FunFrames base (env :: outer) → TrP h' base e P (rawInt L) → s.heap.UpToSlots h' → Q () { s with heap := h' }) : wpAny M A (noteFrame (.ref e) env) Q E s := by
  obtain ⟨oe, vs, T, oT, ts, he, hP, hd, h1, hnT, hTe, hT, hdT, h3⟩ := ht
  unfold noteFrame
  simp only [hf]
  refine wpAny_bind (wpAny_field he hd h1 ?_)
  rw [if_pos (show (Value.ref T != Value.none) = true from by simp)]
  refine wpAny_bind (wpAny_field hT hdT h3 ?_)
  rw [if_neg (show ¬ ((Value.none == rawInt L) = true) from by simp [rawInt])]
  refine wpAny_bind (wpAny_setField hT hdT (Array.getElem?_eq_some_iff.mp h3).1 ?_)
  have oth : ∀ b, b ≠ T → (s.heap.update T (Obj.mapFields (·.setIfInBounds 3 Value.none))).get? b = s.heap.get? b := fun b hb => Heap.get?_update_other _ _ (Ne.symm hb)
  refine entryP hst hfr (hl.of_keeps fun b o q hn => ⟨o, (oth b (not_fields hT hdT q hn)).trans q, rfl⟩) hf ((oth e (Ne.symm hTe)).trans he) hP
    (fun b o q => (oth b fun z => by rw [z, hnT] at q; cases q).trans (hkb b o q)) hen hd (Array.getElem?_eq_some_iff.mp h1).1
    fun h' x1 x2 x3 x4 => h h' x1 x2 x3 fun b o q hn => x4 b o ((oth b (not_fields hT hdT q hn)).trans q) hn
theorem flightP {fl : Value} (hkb : base.StaysIn s.heap) (hl : s.heap.FunFrames base l) (ht : TrP s.heap base e P fl)
    (h : ∀ h', base.StaysIn h' → h'.FunFrames base l → TrP h' base e P .none → s.heap.UpToSlots h' → Q () { s with heap := h' }) : wpAny M A (setFlight (.ref e) none) Q E s := by
  obtain ⟨oe, vs, T, oT, ts, he, hP, hd, h1, hnT, hTe, hT, hdT, h3⟩ := ht
  have z3 : 3 < ts.size := (Array.getElem?_eq_some_iff.mp h3).1
  have oth : ∀ b, b ≠ T → (s.heap.update T (Obj.mapFields (·.setIfInBounds 3 ((none : Option Addr).elim Value.none fun f => rawInt f)))).get? b = s.heap.get? b := fun b hb => Heap.get?_update_other _ _ (Ne.symm hb)
  unfold setFlight
  refine wpAny_bind (wpAny_field he hd h1 ?_)
  rw [if_pos (show (Value.ref T != Value.none) = true from by simp)]
  refine wpAny_setField hT hdT z3 (h _ (fun b o q => (oth b fun z => by rw [z, hnT] at q; cases q).trans (hkb b o q)) (hl.of_keeps fun b o q hn => ⟨o, (oth b (not_fields hT hdT q hn)).trans q, rfl⟩) ?_
    fun b o q hn => ⟨o.slots, (oth b (not_fields hT hdT q hn)).trans q⟩)
  exact ⟨oe, vs, T, _, _, (oth e (Ne.symm hTe)).trans he, hP, hd, h1, hnT, hTe, Heap.get?_update_self _ hT (Obj.isFreed_of_fields (Obj.data_mapFields hdT _)), Obj.data_mapFields hdT _, by simp [z3]⟩
/-- in flight, the newest entry told -/
def FlyP (base : Heap) (l : List Env) (e : Addr) (P : Obj → Prop) (h : Heap) : Prop := base.StaysIn h ∧ base.get? e = none ∧ h.FunFrames base l ∧ TrP h base e P .none
theorem leaveP0 {oe : Obj} {vs : Array Value} (hst : Blind P)
    (hfr : A.frames = some (env :: outer)) (hl : s.heap.FunFrames base (env :: outer)) (hf : env.frame = some L)
    (he : s.heap.get? e = some oe) (hP : P oe) (hkb : base.StaysIn s.heap) (hen : base.get? e = none) (hd : oe.data = .fields vs) (h1 : vs[1]? = some .none)
    (h : ∀ h', FlyP base outer e P h' → s.heap.UpToSlots h' → Q () { s with heap := h' }) : wpAny M A (leaving env (.ref e)) Q E s := by
  unfold leaving
  refine wpAny_bind (noteP0 hst hfr hl hf he hP hkb hen hd h1 fun h' a b c d => ?_)
  refine flightP (s := { s with heap := h' }) a b c fun h2 a2 b2 c2 d2 => ?_
  obtain ⟨_, _, b3⟩ := b2
  exact h h2 ⟨a2, hen, b3, c2⟩ (d.trans d2)
theorem leaveP (hst : Blind P) (hfr : A.frames = some (env :: outer)) (hf : env.frame = some L) (x : FlyP base (env :: outer) e P s.heap)
    (h : ∀ h', FlyP base outer e P h' → s.heap.UpToSlots h' → Q () { s with heap := h' }) : wpAny M A (leaving env (.ref e)) Q E s := by
  obtain ⟨k, hen, hl, ht⟩ := x
  unfold leaving
  refine wpAny_bind (noteP hst hfr hl hf ht k hen fun h' a b c d => ?_)
  refine flightP (s := { s with heap := h' }) a b c fun h2 a2 b2 c2 d2 => ?_
  obtain ⟨_, _, b3⟩ := b2
  exact h h2 ⟨a2, hen, b3, c2⟩ (d.trans d2)
end
end
example {M : Model} {A : Around} {E Q : Value → Shared → Prop} {s : Shared} (h : wpAny M A (pure .none) Q E s) : wpAny M A (pure .none) Q E s := by
  w_top off
  first
    | (walk1; fail)
    | exact h
section
/-- an exception of the program's own class 185 with its dict d -/
def ExcP (d : Addr) (o : Obj) : Prop := o.cls = .ref 185 ∧ o.dict = some d ∧ ∃ vs, o.data = .fields vs
theorem ExcP.blind (d : Addr) : Blind (ExcP d) := fun o x ⟨a, b, vs, c⟩ => by
  obtain ⟨cls, dict, data, sl⟩ := o
  dsimp only at a b c
  subst a b c
  exact ⟨rfl, rfl, _, rfl⟩
def RaisedX (base G : Heap) (l : List Env) (e : Addr) (P : Obj → Prop) (news : List (Addr × Obj)) (h : Heap) : Prop :=
  ∃ B, base.StaysIn B ∧ (∀ b o, G.get? b = some o → b ∉ l.filterMap (·.frame) → B.get? b = some o) ∧ (∀ q ∈ news, B.get? q.1 = some q.2 ∧ G.get? q.1 = none ∧ base.get? q.1 = none) ∧ FlyP B l e P h
section
variable {M : Model} {A : Around} {E : Value → Shared → Prop} {s' : Shared} {base g G h : Heap} {outer : List Env} {L e : Addr} {m : Str → Option Value} {env : Env} {Q : Unit → Shared → Prop} {news : List (Addr × Obj)} {P : Obj → Prop}
theorem mem_frames {b : Addr} (hf : env.frame = some L) (hm : b ∈ (env :: outer).filterMap (·.frame)) : b = L ∨ b ∈ outer.filterMap (·.frame) := by
  obtain ⟨v, he, hv⟩ := List.mem_filterMap.mp hm
  rcases List.mem_cons.mp he with rfl | he
  · exact .inl (Option.some.inj (hv.symm.trans hf))
  · exact .inr (List.mem_filterMap.mpr ⟨v, he, hv⟩)
theorem leaveX0 (hst : Blind P) (K : Below A base outer g) (hf : env.frame = some L) (hk : env.scope.kind = .function) (F : Fr g L s'.heap m) {oe : Obj} {vs : Array Value}
    (N : News g L s'.heap ((e, oe) :: news)) (off : ∀ p ∈ news, p.1 ≠ e) (hP : P oe) (hd : oe.data = .fields vs) (h1 : vs[1]? = some .none)
    (hQ : ∀ h', RaisedX base g outer e P news h' → g.UpToSlots h' → Q () { s' with heap := h' }) :
    wpAny M (A.deeper env) (leaving env (.ref e)) Q E s' := by
  have K' := pushX K F hf hk
  have he := N (e, oe) List.mem_cons_self
  have out : e ∉ (env :: outer).filterMap (·.frame) := fun hm => by
    obtain ⟨_, o, ho, hnf⟩ := K'.frames.mem hm
    exact hnf vs ((Option.some.inj (he.1.symm.trans ho)) ▸ hd)
  have hbe : base.get? e = none := fresh_of_stays K.stays he.2.2
  have hB : ∀ b o, s'.heap.get? b = some o → b ≠ e → b ∉ (env :: outer).filterMap (·.frame) → (hideAll s'.heap (e :: (env :: outer).filterMap (·.frame))).get? b = some o := fun b o q ne nm => hideAll_get _ q fun hm => by
    rcases List.mem_cons.mp hm with z | z
    · exact ne z
    · exact nm z
  have sB : base.StaysIn (hideAll s'.heap (e :: (env :: outer).filterMap (·.frame))) := fun b o q => hB b o (K'.stays b o q) (fun z => by rw [z, hbe] at q; cases q) fun hm => by
    rw [(K'.frames.mem hm).1] at q; cases q
  refine leaveP0 (base := hideAll s'.heap (e :: (env :: outer).filterMap (·.frame))) hst K'.stack (funFrames_hide K'.frames fun v hv b hb => List.mem_cons_of_mem _ (List.mem_filterMap.mpr ⟨v, hv, hb⟩)) hf he.1 hP (fun b o q => of_hideAll _ q) (hideAll_none _ List.mem_cons_self) hd h1 fun h' x sm => ?_
  refine hQ h' ⟨_, sB, fun b o q nm => hB b o (F.keep b o q) (fun z => by rw [z, he.2.2] at q; cases q) (fun hm => ?_), fun q hq => ⟨hB _ _ (N q (List.mem_cons_of_mem _ hq)).1 (off q hq) fun hm => ?_, (N q (List.mem_cons_of_mem _ hq)).2.2, fresh_of_stays K.stays (N q (List.mem_cons_of_mem _ hq)).2.2⟩, x⟩ ((Heap.UpToSlots.of_keeps F.keep).trans sm)
  · rcases mem_frames hf hm with z | z
    · rw [z, kts_self F] at q; cases q
    · exact nm z
  · rcases mem_frames hf hm with z | z
    · exact (N q (List.mem_cons_of_mem _ hq)).2.1 z
    · obtain ⟨_, o, ho, _⟩ := K.frames.mem z
      rw [(N q (List.mem_cons_of_mem _ hq)).2.2] at ho; cases ho
theorem leaveX (hst : Blind P) (K : Below A base outer g) (hf : env.frame = some L) (F : Fr g L G m) (R : RaisedX base G (env :: outer) e P news s'.heap) (hsm : G.UpToSlots s'.heap)
    (hQ : ∀ h', RaisedX base g outer e P news h' → g.UpToSlots h' → Q () { s' with heap := h' }) :
    wpAny M (A.deeper env) (leaving env (.ref e)) Q E s' := by
  obtain ⟨B, hB, hBG, hl, hfl⟩ := R
  refine leaveP hst (Around.frames_deeper K.stack) hf hfl fun h' x sm => hQ h' ⟨B, hB, fun b o q nm => hBG b o (F.keep b o q) (fun hm => ?_), fun q hq => ⟨(hl q hq).1, kts_none F.keep (hl q hq).2.1, (hl q hq).2.2⟩, x⟩ ((Heap.UpToSlots.of_keeps F.keep).trans (hsm.trans sm))
  rcases mem_frames hf hm with z | z
  · rw [z, kts_self F] at q; cases q
  · exact nm z
end
section
variable {prog : Program} {w : World} {A₀ : Around} {E : Value → Shared → Prop} {s' : Shared} {base g g₀ G : Heap} {outer : List Env} {L a e : Addr} {m : Str → Option Value} {name : Str} {scope : Scope} {cd : Value}
  {n : Str} {b₀ : Stmt} {suite : List Stmt} {pos np : Pos} {rest : List ExceptHandler} {Q : Flow → Shared → Prop} {news : List (Addr × Obj)} {KF : Frag}
  {p : Program} {loose : List Str} {mean : ExcName → Option Value} {mg mb : Str → Option Value} {x : Str} {d : Addr}
/-- what stands when the exception has landed in the frame -/
theorem landX (F : Fr g L G m) (K : Below A₀ base outer g) (hsm : G.UpToSlots s'.heap) (D : KtsDicts (outer.filterMap (·.frame)) g) {B : Heap} {h : Heap}
    (hBG : ∀ b o, G.get? b = some o → b ∉ (envOf name scope L a cd :: outer).filterMap (·.frame) → B.get? b = some o) (hl : ∀ q ∈ news, B.get? q.1 = some q.2 ∧ G.get? q.1 = none ∧ base.get? q.1 = none)
    (hfl : FlyP B (envOf name scope L a cd :: outer) e (ExcP d) h) (sm : s'.heap.UpToSlots h) :
    ∃ g' oe, KtsTurn (outer.filterMap (·.frame)) g g' ∧ Fr g' L h m ∧ Below A₀ base outer g' ∧ News g' L h ((e, oe) :: news) ∧ ExcP d oe ∧ (∀ p ∈ news, p.1 ≠ e) ∧ KtsDicts (outer.filterMap (·.frame)) g' := by
  obtain ⟨g', T, F', K'⟩ := kts_ground K F hBG hfl.1 (hsm.trans sm)
  have hL : B.get? L = none := by
    obtain ⟨_, ⟨L', _, hf, hn', _⟩, _⟩ := hfl.2.2.1
    obtain rfl : L = L' := Option.some.inj hf
    exact hn'
  obtain ⟨oe, ws, _, _, _, hoe, hP, hoed, _⟩ := hfl.2.2.2
  have ne : g'.get? e = none := T.none_ _ (kts_fresh F hBG hfl.2.1 fun o ho mm => by
    obtain ⟨_, o', ho', hd⟩ := K.frames.mem mm
    rw [ho] at ho'
    cases ho'
    obtain ⟨sl, hs⟩ := (hsm.trans sm) _ _ (F.keep _ _ ho) hd
    rw [hoe] at hs
    cases hs
    exact hd _ hoed)
  have Nl : News g' L h news := fun q hq => ⟨hfl.1 _ _ (hl q hq).1, (fun z => by have := (hl q hq).1; rw [z, hL] at this; cases this), T.none_ _ (kts_none F.keep (hl q hq).2.1)⟩
  refine ⟨g', oe, T, F', K', News.more F' Nl hoe (fun es n q => by rw [hoed] at q; cases q) ne, hP, fun p hp z => ?_, D.turn T⟩
  have := (hl p hp).1
  rw [z, hfl.2.1] at this
  cases this
theorem caughtX0 (R : RaisedX base G (envOf name scope L a cd :: outer) e (ExcP d) news s'.heap) (F : Fr g L G m) (K : Below A₀ base outer g) (hsm : G.UpToSlots s'.heap) (XB : KF.In base) (TB : Top p loose mean mg mb base)
    (D : KtsDicts (outer.filterMap (·.frame)) g) (T0 : KtsTurn (outer.filterMap (·.frame)) g₀ g)
    (ex : nsIn KF mainGlobals x = some (some (.ref 185))) (q : ktsIn KF 185 "BaseException" = true)
    (k : ∀ h' g' oe, KtsTurn (outer.filterMap (·.frame)) g₀ g' → Fr g' L h' m → News g' L h' ((e, oe) :: news) → ExcP d oe → (∀ p ∈ news, p.1 ≠ e) → Below A₀ base outer g' → KF.In g' → Top p loose mean mg mb g' → KtsDicts (outer.filterMap (·.frame)) g' →
      wpAny (model prog w) ((A₀.deeper (envOf name scope L a cd)).mark (some (.ref e))) (execs (b₀ :: suite) (envOf name scope L a cd)) Q E { s' with heap := h' })
    (hk : scope.kind = .function := by rfl) (hx : (envOf name scope L a cd).kindOf x = some .globalImplicit := by rfl) (hd : (x == ("__debug__" : Str)) = false := by decide)
    (hE : PassesOwnAt (model prog w) ((A₀.deeper (envOf name scope L a cd)).mark (some (.ref e))) (A₀.deeper (envOf name scope L a cd)) (envOf name scope L a cd) E := by passes_own) :
    wpAny (model prog w) (A₀.deeper (envOf name scope L a cd)) (noteFrame (.ref e) (envOf name scope L a cd))
      (fun _ s₂ => wpAny (model prog w) (A₀.deeper (envOf name scope L a cd)) (setFlight (.ref e) none) (fun _ s₃ =>
        wpAny (model prog w) (A₀.deeper (envOf name scope L a cd)) (handleBy (.ref e) (envOf name scope L a cd) (.ExceptHandler (some (.Name x np)) none (b₀ :: suite) pos :: rest)) Q E s₃) E s₂) E s' := by
  obtain ⟨B, hB, hBG, hl, k0, k1, k2, k3⟩ := R
  refine noteP (ExcP.blind d) (Around.frames_deeper K.stack) k2 rfl k3 k0 k1 fun h₁ a1 b1 c1 d1 => ?_
  refine flightP (s := { s' with heap := h₁ }) a1 b1 c1 fun h₂ a2 b2 c2 d2 => ?_
  obtain ⟨g₂, oe₂, T₂, F₂, K₂, N₂, P₂, _, _⟩ := landX (s' := s') F K hsm D hBG hl ⟨a2, k1, b2, c2⟩ (d1.trans d2)
  have X₂ : KF.In g₂ := XB.keeps K₂.stays
  obtain ⟨nm, q', N, bs, bm, hdct, sn, sub, ab, col, dd, z0, z1, z2, z3, z5, newId, hC, hbase, _⟩ := kts_cls X₂ q
  refine wpAny_handleBy_cons (codeAny_handlers_test (name_K F₂ X₂ (topRead_of (TB.keeps K₂.stays)) ex ?_ hk hx hd)) (by intro q; cases q)
  refine wpAny_excMatches_sub_self (F₂.keep _ _ hC) (N₂ _ List.mem_cons_self).1 P₂.1 hbase (codeAny_handlers_suite ?_)
  refine flightP (s := { s' with heap := h₂ }) a2 b2 c2 fun h₃ a3 b3 c3 d3 => ?_
  obtain ⟨g₃, oe₃, T₃, F₃, K₃, N₃, P₃, off, D₃⟩ := landX (s' := s') F K hsm D hBG hl ⟨a3, k1, b3, c3⟩ ((d1.trans d2).trans d3)
  exact wpAny_passesOwnAt hE (k h₃ g₃ oe₃ (T0.trans T₃) F₃ N₃ P₃ off K₃ (XB.keeps K₃.stays) (TB.keeps K₃.stays) D₃)
theorem caughtXB (R : RaisedX base G (envOf name scope L a cd :: outer) e (ExcP d) news s'.heap) (F : Fr g L G m) (K : Below A₀ base outer g) (hsm : G.UpToSlots s'.heap) (XB : KF.In base) (TB : Top p loose mean mg mb base)
    (D : KtsDicts (outer.filterMap (·.frame)) g) (T0 : KtsTurn (outer.filterMap (·.frame)) g₀ g)
    (ex : nsIn KF mainGlobals x = some (some (.ref 185))) (q : ktsIn KF 185 "BaseException" = true)
    (k : ∀ h' g' oe tk, KtsTurn (outer.filterMap (·.frame)) g₀ g' → Fr g' L h' (fun y => if y = n then some (.ref e) else m y) → News g' L h' ((e, oe) :: news) → ExcP d oe → (∀ p ∈ news, p.1 ≠ e) → Below A₀ base outer g' → KF.In g' → Top p loose mean mg mb g' → KtsDicts (outer.filterMap (·.frame)) g' →
      wpAny (model prog w) ((A₀.deeper (envOf name scope L a cd)).mark (some (.ref e))) (execs (b₀ :: suite) (envOf name scope L a cd))
        (fun f s₄ => wpAny (model prog w) (A₀.deeper (envOf name scope L a cd)) (do bindName (envOf name scope L a cd) n .none; unbindBehindTheSuite (envOf name scope L a cd) n pos) (fun _ s₅ => Q f s₅) E s₄)
        (AsSuiteRaised (model prog w) ((A₀.deeper (envOf name scope L a cd)).mark (some (.ref e))) (envOf name scope L a cd) n pos (notedBy (model prog w) ((A₀.deeper (envOf name scope L a cd)).mark (some (.ref e))) (envOf name scope L a cd) (cameBackBy (model prog w) (A₀.deeper (envOf name scope L a cd)) (envOf name scope L a cd) E)))
        { s' with heap := h', toks := tk })
    (hk : scope.kind = .function := by rfl) (hlo : (envOf name scope L a cd).kindOf n = some .local := by rfl) (hx : (envOf name scope L a cd).kindOf x = some .globalImplicit := by rfl) (hd : (x == ("__debug__" : Str)) = false := by decide) :
    wpAny (model prog w) (A₀.deeper (envOf name scope L a cd)) (noteFrame (.ref e) (envOf name scope L a cd))
      (fun _ s₂ => wpAny (model prog w) (A₀.deeper (envOf name scope L a cd)) (setFlight (.ref e) none) (fun _ s₃ =>
        wpAny (model prog w) (A₀.deeper (envOf name scope L a cd)) (handleBy (.ref e) (envOf name scope L a cd) (.ExceptHandler (some (.Name x np)) (some n) (b₀ :: suite) pos :: rest)) Q E s₃) E s₂) E s' := by
  obtain ⟨B, hB, hBG, hl, k0, k1, k2, k3⟩ := R
  refine noteP (ExcP.blind d) (Around.frames_deeper K.stack) k2 rfl k3 k0 k1 fun h₁ a1 b1 c1 d1 => ?_
  refine flightP (s := { s' with heap := h₁ }) a1 b1 c1 fun h₂ a2 b2 c2 d2 => ?_
  obtain ⟨g₂, oe₂, T₂, F₂, K₂, N₂, P₂, _, _⟩ := landX (s' := s') F K hsm D hBG hl ⟨a2, k1, b2, c2⟩ (d1.trans d2)
  have X₂ : KF.In g₂ := XB.keeps K₂.stays
  obtain ⟨nm, q', N, bs, bm, hdct, sn, sub, ab, col, dd, z0, z1, z2, z3, z5, newId, hC, hbase, _⟩ := kts_cls X₂ q
  refine wpAny_handleBy_cons (codeAny_handlers_test (name_K F₂ X₂ (topRead_of (TB.keeps K₂.stays)) ex ?_ hk hx hd)) (by intro q; cases q)
  refine wpAny_excMatches_sub_self (F₂.keep _ _ hC) (N₂ _ List.mem_cons_self).1 P₂.1 hbase (codeAny_handlers_suite_as ?_)
  refine flightP (s := { s' with heap := h₂ }) a2 b2 c2 fun h₃ a3 b3 c3 d3 => ?_
  obtain ⟨g₃, oe₃, T₃, F₃, K₃, N₃, P₃, off, D₃⟩ := landX (s' := s') F K hsm D hBG hl ⟨a3, k1, b3, c3⟩ ((d1.trans d2).trans d3)
  refine stN F₃ N₃ (fun h₄ F₄ N₄ => ?_) hk hlo
  exact k h₄ g₃ oe₃ _ (T0.trans T₃) F₄ N₄ P₃ off K₃ (XB.keeps K₃.stays) (TB.keeps K₃.stays) D₃
end
end
example {M : Model} {A : Around} {E Q : Value → Shared → Prop} {s : Shared} (h : wpAny M A (pure .none) Q E s) : wpAny M A (pure .none) Q E s := by
  w_top off
  first
    | (walk1; fail)
    | exact h
section
open Builtin Builtin.ObjectAttr
section
variable {prog : Program} {w : World} {A : Around} {E : Value → Shared → Prop} {s : Shared} {K : Frag} {x C : Addr} {ox : Obj} {od : Option Obj} {name : Str} {expr : Bool} {Q : Value → Shared → Prop}
/-- x.name of an object of an own exception class -/
theorem exc_value {v : Value} (X : K.In s.heap) (I : InstAt s.heap x ox C od) (hga : findIn K (.ref C) "__getattribute__" = some (some (.builtin "BaseException.__getattribute__"))) (hgx : findIn K (.ref C) "__getattr__" = some none)
    (hm : mroIn K C (.type "BaseException") = some true) (hf : findObj K C od name = some (.value v)) (hh : handedIn v = true) (h : Q v { s with toks := s.toks + 1 }) : wpAny (model prog w) A (getAttr (.ref x) name expr) Q E s := by
  obtain ⟨hp, g, d, t, os⟩ := s
  have L0 := I.type (M := model prog w)
  have L1 := looks_findIn (M := model prog w) X hga
  have L2 := looks_findIn (M := model prog w) X hgx
  have L3 := looks_find (M := model prog w) X I hf
  have L4 : Looks (model prog w) hp (isInstance (.ref x) (.type "BaseException")) true := L0.andThen (looks_mroIn X hm)
  have hk : builtinKind "BaseException.__getattribute__" = some .slot := by decide +kernel
  have hsplit : splitId "BaseException.__getattribute__" = some ("BaseException", "__getattribute__") := by decide +kernel
  unfold getAttr getAttrBy
  refine wpAny_bind (wpAny_mkText (wpAny_holding (wpAny_bind (L0.at (wpAny_bind (L1.at ?_))))))
  show wpAny _ _ (getAttrByItsOwn (.ref x) (.str name t) (.ref C) (.builtin "BaseException.__getattribute__") true expr) _ _ _
  unfold getAttrByItsOwn
  refine wpAny_bind (L2.at (wpAny_bind (wpAny_attempt (wpAny_holding ?_))))
  have e1 : (expr && onTheHeap (Value.builtin "BaseException.__getattribute__")) = false := by cases expr <;> rfl
  unfold callGetattribute
  rw [e1]
  show wpAny _ _ (boundAndCalled (.builtin "BaseException.__getattribute__") (.ref x) (.str name t)) _ _ _
  unfold boundAndCalled
  refine wpAny_bind (wpAny_of_eq (show bindSpecial (.builtin "BaseException.__getattribute__") (.ref x) = pure (.builtin "BaseException.__getattribute__", [.ref x]) from PySem.F.attr_Exception.ga.bind (.ref x)) ?_)
  refine wpAny_call (codeAny_call_builtin PySem.F.attr_Exception.ga.plain F.entry_bexc_ga (@check_slot (model prog w) _ _ ⟨hp, g, d, t + 1, os⟩ "BaseException.__getattribute__" "BaseException" "__getattribute__" (.ref x) [.str name t] [] _ hk hsplit L4 (F.args_bexc_ga (.ref x) (.str name t)) ?_))
  refine wpAny_bind (wpAny_pure (wpAny_bind (wpAny_pure (wpAny_bind (L0.at (wpAny_bind (L3.at ?_)))))))
  refine wpAny_pure ?_
  show wpAny _ _ (handedOut v) _ _ _
  rw [handedOut_of hh]; exact wpAny_pure h
end
/-- the object is a namespace of these values -/
def DictNs (o : Obj) (m : Str → Option Value) : Prop := ∃ es ep, o.data = .dict es ep ∧ StrKeys es ∧ UniqKeys es ∧ ∀ name, nsFind es name = m name
theorem DictNs.at {o : Obj} {m : Str → Option Value} (d : DictNs o m) {h : Heap} {a : Addr} (e : h.get? a = some o) : h.Ns1 a m := let ⟨es, ep, r⟩ := d; ⟨o, es, ep, e, r⟩
theorem DictNs.of {h : Heap} {a : Addr} {m : Str → Option Value} (x : h.Ns1 a m) : ∃ o, h.get? a = some o ∧ DictNs o m := let ⟨o, es, ep, e, r⟩ := x; ⟨o, e, es, ep, r⟩
theorem DictNs.look {o : Obj} {m : Str → Option Value} (d : DictNs o m) {name : Str} {v : Value} (h : m name = some v) : lookIn name o = some (some v) := by
  obtain ⟨es, ep, hd, _, _, hf⟩ := d
  have hv := (hf name).trans h
  unfold nsFind findBy at hv
  unfold lookIn
  rw [hd]
  dsimp only
  rw [← Array.find?_toList] at hv
  cases q : es.toList.find? (fun x => x.key.isStr name) with
  | none => rw [q] at hv; cases hv
  | some e => rw [q] at hv; cases hv; rfl
section
variable {prog : Program} {w : World} {A : Around} {E : Value → Shared → Prop} {hp : Heap} {g : Array GenState} {d : Drawn} {tk : Nat} {os : OsState} {e : Addr} {oe : Obj} {name : Str} {v : Value} {Q : Unit → Shared → Prop} {vs : Array Value}
theorem exc_setP (X : (Mine.hd.heap_39 w.params).In hp) (he : hp.get? e = some oe) (hc : oe.cls = .ref 185) (hd : oe.data = .fields vs) (hod : ∀ dx, oe.dict = some dx → ∃ o, hp.get? dx = some o)
    (hn : findIn (Mine.hd.heap_39 w.params) (.ref 185) name = some none)
    (h : wpAny (model prog w) A.in1 (storeInOwnDict (.ref e) (.ref 185) (.str name tk) name v false)
      (fun fin s' => fin = .done (.ret .none) ∧ Q () s') (fun e s' => E e s') ⟨hp, g, d, tk + 1, os⟩) :
    wpAny (model prog w) A (setAttr (.ref e) name v) Q E ⟨hp, g, d, tk, os⟩ := by
  have I : ∃ od, InstAt hp e oe 185 od := by
    cases q : oe.dict with
    | none => exact ⟨none, he, hc, by unfold notCls; rw [hd], by rw [q]; trivial⟩
    | some dx =>
      obtain ⟨o, ho⟩ := hod dx q
      exact ⟨some o, he, hc, by unfold notCls; rw [hd], by rw [q]; exact ho⟩
  obtain ⟨od, I⟩ := I
  have SF := PySem.F.store_Exception
  have L0 := I.type (M := model prog w)
  have sub : Looks (model prog w) hp (isInstance (.ref e) (.type "object")) true := L0.andThen (looks_mroIn X rfl)
  have L2 := looks_findIn (M := model prog w) X hn
  refine set_plain (s := ⟨hp, g, d, tk, os⟩) X I rfl ?_
  refine codeAny_call_builtin SF.slot.plain SF.entry (@check_slot (model prog w) _ _ ⟨hp, g, d, tk + 1, os⟩ "object.__setattr__" "object" "__setattr__" (.ref e) [.str name tk, v] [] _ SF.kind SF.split sub (SF.args (.ref e) (.str name tk) v) ?_)
  rw [osa_eq, refuse_eq]
  have hm : Looks (model prog w) hp (mroOf (.ref 185)) [.ref 185, .ref 156, .type "Exception", .type "BaseException", .type "object"] := (looks_clsIn X rfl).andThen .now
  refine wpAny_bind (wpAny_bind (L0.at (wpAny_bind (hm.at ?_))))
  rw [refuseLoop_ref, refuseLoop_ref, SF.passes]
  refine wpAny_pure (wpAny_bind (L0.at (wpAny_bind (L2.at (wpAny_bind (wpAny_pure ?_))))))
  refine wpAny_mono h (fun fin s' hf => ?_) fun _ _ x => x
  obtain ⟨rfl, hq⟩ := hf
  exact hq
theorem exc_set0 (X : (Mine.hd.heap_39 w.params).In hp) (he : hp.get? e = some oe) (hc : oe.cls = .ref 185) (hd : oe.data = .fields vs) (ho : oe.dict = none) (hn : findIn (Mine.hd.heap_39 w.params) (.ref 185) name = some none)
    (h : ∀ h' oD, h'.get? e = some { oe with dict := some hp.objs.size } → h'.get? hp.objs.size = some oD → DictNs oD (fun y => if y = name then some v else none) → (∀ b o, b ≠ e → hp.get? b = some o → h'.get? b = some o) → Q () ⟨h', g, d, tk + 2, os⟩) :
    wpAny (model prog w) A (setAttr (.ref e) name v) Q E ⟨hp, g, d, tk, os⟩ := by
  refine exc_setP X he hc hd (fun dx q => by rw [ho] at q; cases q) hn ?_
  obtain ⟨oc, od, oda, osl⟩ := oe
  dsimp only at hc hd ho
  subst hc hd ho
  refine wpAny_bind (wpAny_pure (wpAny_bind (wpAny_bind (wpAny_loadPart he (wpAny_bind ((looks_clsIn X rfl).at ?_))))))
  refine wpAny_bind (wpAny_alloc' ?_)
  have h1 := Heap.get?_push_of_some { cls := .type "dict", data := .dict #[] } he
  have ne : e ≠ hp.objs.size := Nat.ne_of_lt (Heap.lt_size he)
  refine wpAny_bind (wpAny_update' h1 ?_)
  refine wpAny_bind (wpAny_pure (wpAny_pure ?_))
  have hD : ((hp.push { cls := .type "dict", data := .dict #[] }).update e fun o => { o with dict := some hp.objs.size }).get? hp.objs.size = some { cls := .type "dict", data := .dict #[] } :=
    (Heap.get?_update_ne _ _ _ _ ne.symm).trans (Heap.get?_push_at rfl rfl)
  have hE : ((hp.push { cls := .type "dict", data := .dict #[] }).update e fun o => { o with dict := some hp.objs.size }).get? e = some ⟨.ref 185, some hp.objs.size, .fields vs, osl⟩ := Heap.get?_update_self _ h1 rfl
  have hnd : ((hp.push { cls := .type "dict", data := .dict #[] }).update e fun o => { o with dict := some hp.objs.size }).Ns1 hp.objs.size (fun _ => none) :=
    Heap.Ns1.of_empty ⟨_, #[], _, hD, rfl, fun e he => absurd he (by simp), fun _ => rfl⟩
  show wpAny _ _ (storeInDict hp.objs.size (.str name tk) name v) _ _ _
  unfold storeInDict newKeyGuard
  refine wpAny_bind (wpAny_pure (wpAny_bind (wpAny_nsSet1 hnd fun h' hn' hs => ?_)))
  obtain ⟨oD, esD, epD, hoD, hdD, hcD⟩ := hn'.count (Within.cons name v Within.nil)
  refine wpAny_bind (wpAny_lookBehind hoD (by rw [hdD]; exact pastItsLine_dict (Nat.le_trans hcD (by rw [List.length_cons, List.length_nil, sizeLine_eq]; omega))) ?_)
  obtain ⟨oD', hoD', dns⟩ := DictNs.of hn'
  refine wpAny_pure ⟨rfl, h h' oD' ((hs.2 e ne).trans hE) hoD' dns fun b o nb q => ?_⟩
  exact (hs.2 b (Nat.ne_of_lt (Heap.lt_size q))).trans ((Heap.get?_update_ne _ _ _ _ nb).trans (Heap.get?_push_of_some _ q))
theorem exc_set1 {D : Addr} {oD : Obj} {mA : Str → Option Value} {ns : List Str} (X : (Mine.hd.heap_39 w.params).In hp) (he : hp.get? e = some oe) (hc : oe.cls = .ref 185) (hd : oe.data = .fields vs) (ho : oe.dict = some D) (hD : hp.get? D = some oD) (dn : DictNs oD mA)
    (hw : Within mA ns) (hsz : ns.length ≤ 100) (hn : findIn (Mine.hd.heap_39 w.params) (.ref 185) name = some none)
    (h : ∀ h' oD', h'.get? D = some oD' → DictNs oD' (fun y => if y = name then some v else mA y) → (∀ b o, b ≠ D → hp.get? b = some o → h'.get? b = some o) → Q () ⟨h', g, d, tk + 2, os⟩) :
    wpAny (model prog w) A (setAttr (.ref e) name v) Q E ⟨hp, g, d, tk, os⟩ := by
  refine exc_setP X he hc hd (fun dx q => by rw [ho] at q; cases q; exact ⟨_, hD⟩) hn ?_
  obtain ⟨oc, od, oda, osl⟩ := oe
  dsimp only at hc hd ho
  subst hc hd ho
  refine wpAny_bind (wpAny_pure (wpAny_bind (wpAny_bind (wpAny_loadPart he (wpAny_bind ((looks_clsIn X rfl).at ?_))))))
  refine wpAny_pure ?_
  show wpAny _ _ (storeInDict D (.str name tk) name v) _ _ _
  unfold storeInDict newKeyGuard
  refine wpAny_bind (wpAny_pure (wpAny_bind (wpAny_nsSet1 (dn.at hD) fun h' hn' hs => ?_)))
  obtain ⟨oD1, esD, epD, hoD, hdD, hcD⟩ := hn'.count (Within.cons name v hw)
  refine wpAny_bind (wpAny_lookBehind hoD (by rw [hdD]; exact pastItsLine_dict (Nat.le_trans hcD (by rw [List.length_cons, sizeLine_eq]; omega))) ?_)
  obtain ⟨oD', hoD', dns⟩ := DictNs.of hn'
  exact wpAny_pure ⟨rfl, h h' oD' hoD' dns fun b o nb q => (hs.2 b nb).trans q⟩
end
end
example {M : Model} {A : Around} {E Q : Value → Shared → Prop} {s : Shared} (h : wpAny M A (pure .none) Q E s) : wpAny M A (pure .none) Q E s := by
  w_top off
  first
    | (walk1; fail)
    | exact h
section
open Builtin
abbrev wrapObj (id : String) (e : Addr) : Obj := { cls := .type "method-wrapper", data := .fields #[.builtin id, .ref e] }
theorem slot_wd_get : Slot "wrapper_descriptor" "__get__" "wrapper_descriptor.__get__" := .of (owner := "wrapper_descriptor") (n := "__get__") (by rw [typeLookup_type, builtinLookup_eq_fast]; kernel_rfl) (by decide +kernel) (by decide +kernel) (by decide +kernel)
  (by first | exact .inl (by decide +kernel) | exact .inr (by decide +kernel)) (by rw [isSubtype_type]; kernel_rfl)
theorem entry_wd_get : entryFor table "wrapper_descriptor.__get__" = some Builtin.«wrapper_descriptor.__get__» := entryFor_of_tree (by kernel_rfl)
theorem args_wd_get (a b c : Value) : argsOk "wrapper_descriptor.__get__" ⟨[a, b, c], []⟩ := by unfold argsOk; kernel_rfl
theorem typeOf_einit : typeOf (.builtin "Exception.__init__") = pure (.type "wrapper_descriptor") := by show builtinType _ = _; rw [builtinType_eq_fast]; kernel_rfl
section
variable {prog : Program} {w : World} {A : Around} {E : Value → Shared → Prop} {h : Heap} {g : Array GenState} {d : Drawn} {t : Nat} {os : OsState}
theorem super_einit {so D x C : Addr} {l₀ l : List Value} {K : Frag} {tk : Tok} {Q : Fin → Shared → Prop}
    (hso : h.get? so = some { cls := .type "super", dict := none, data := .fields #[.ref D, .ref x, .ref C], slots := #[] }) (hno : Looks (model prog w) h (opaqueClassAbove (.ref C)) none)
    (hC : Looks (model prog w) h (mroOf (.ref C)) l₀) (hl : (l₀.dropWhile (· != .ref D)).drop 1 = l) (X : K.In h)
    (hf : alongIn K "__init__" l = some (some (.builtin "Exception.__init__"))) (hI : Looks (model prog w) h (isInstance (.ref x) (.type "Exception")) true) (hxC : x ≠ C)
    (hq : Q (.done (.ret (.ref h.objs.size))) ⟨h.push (wrapObj "Exception.__init__" x), g, d, t, os⟩) :
    wpAny (model prog w) A (Builtin.«super.__getattribute__» ⟨[.ref so, .str "__init__" tk], []⟩) Q E ⟨h, g, d, t, os⟩ := by
  have hlk := slot_wd_get.lookup
  have hne : (Value.ref x == Value.ref C) = false := by simp [hxC]
  have hn : (("__init__" : Str) == ("__class__" : Str)) = false := by decide
  have hTf : (⟨h, g, d, t, os⟩ : Shared).TypeIs (.builtin "Exception.__init__") "wrapper_descriptor" := typeOf_einit
  have hdt : ({ cls := .type "super", dict := none, data := .fields #[.ref D, .ref x, .ref C], slots := #[] } : Obj).data = .fields #[.ref D, .ref x, .ref C] := rfl
  have f0 : (#[.ref D, .ref x, .ref C] : Array Value)[0]? = some (.ref D) := rfl
  have f1 : (#[.ref D, .ref x, .ref C] : Array Value)[1]? = some (.ref x) := rfl
  have f2 : (#[.ref D, .ref x, .ref C] : Array Value)[2]? = some (.ref C) := rfl
  have ho : (".".intercalate ("Exception.__init__".cutAt '.').dropLast) = "Exception" := by
    have e0 : "Exception.__init__".cutAt '.' = ["Exception", "__init__"] := by first | rfl | decide +kernel
    rw [e0]; decide +kernel
  have hI' : Looks (model prog w) h (isInstance (.ref x) (.type (".".intercalate ("Exception.__init__".cutAt '.').dropLast))) true := by rw [ho]; exact hI
  unfold Builtin.«super.__getattribute__»
  repeat (first
    | (with_reducible refine Looks.at hI' ?_)
    | (with_reducible refine wpAny_field hso hdt f0 ?_) | (with_reducible refine wpAny_field hso hdt f1 ?_) | (with_reducible refine wpAny_field hso hdt f2 ?_)
    | (with_reducible refine ks_wpAny_notOpaque hno ?_)
    | (with_reducible refine Looks.at hC ?_; rw [hl])
    | (refine ks_forIn_along X (fun _ _ => rfl) rfl ?_ hf)
    | (with_reducible refine wpAny_typeOf hTf ?_)
    | (with_reducible refine wpAny_call_entry slot_wd_get hTf entry_wd_get ?_ (args_wd_get _ _ _))
    | (with_reducible refine ⟨_, rfl, ?_⟩)
    | (simp only [hn, hne, Bool.or_false, Bool.false_eq_true, if_false])
    | wp_step
    | dsimp only)
  all_goals exact hq
theorem getMethod_super_einit {so D x C : Addr} {l₀ l : List Value} {K : Frag} {pl : Sem Bool} {Q : Value × List Value → Shared → Prop}
    (hso : h.get? so = some { cls := .type "super", dict := none, data := .fields #[.ref D, .ref x, .ref C], slots := #[] }) (hno : Looks (model prog w) h (opaqueClassAbove (.ref C)) none)
    (hC : Looks (model prog w) h (mroOf (.ref C)) l₀) (hl : (l₀.dropWhile (· != .ref D)).drop 1 = l) (X : K.In h)
    (hf : alongIn K "__init__" l = some (some (.builtin "Exception.__init__"))) (hI : Looks (model prog w) h (isInstance (.ref x) (.type "Exception")) true) (hxC : x ≠ C)
    (hq : Q (.ref h.objs.size, []) ⟨h.push (wrapObj "Exception.__init__" x), g, d, t + 1, os⟩) :
    wpAny (model prog w) A (getMethod (.ref so) "__init__" pl) Q E ⟨h, g, d, t, os⟩ := by
  have hlk := F.ks_slot_super_ga.lookup
  have hcan := F.ks_canon_super_ga
  have hT : ∀ t', (⟨h, g, d, t', os⟩ : Shared).TypeIs (.ref so) "super" := fun _ => ⟨_, hso, rfl⟩
  unfold getMethod
  refine wpAny_bind (wpAny_specialOf (hT _) hlk ?_)
  show wpAny _ _ (if (Manifest.canonical "super.__getattribute__" != "object.__getattribute__") = true then _ else _) _ _ _
  rw [if_pos hcan]
  unfold getAttr getAttrBy
  refine wpAny_bind (wpAny_bind (wpAny_mkText (wpAny_holding (wpAny_bind (wpAny_typeOf (hT _) (wpAny_bind (wpAny_of_eq hlk ?_)))))))
  show wpAny _ _ (getAttrByItsOwn (.ref so) (.str "__init__" t) (.type "super") (.builtin "super.__getattribute__") true false) _ _ _
  unfold getAttrByItsOwn hookBefore callGetattribute boundAndCalled
  refine wpAny_bind (wpAny_of_eq (show (if onTheHeap (.type "super") then typeLookup (.type "super") "__getattr__" else pure none) = pure none from rfl) ?_)
  refine wpAny_bind (wpAny_attempt (wpAny_holding ?_))
  show wpAny _ _ (bindSpecial (.builtin "super.__getattribute__") (.ref so) >>= _) _ _ _
  refine wpAny_bind (wpAny_of_eq (F.ks_slot_super_ga.bind _) ?_)
  refine wpAny_mono (Q := fun v s' => v = .ref h.objs.size ∧ s' = ⟨h.push (wrapObj "Exception.__init__" x), g, d, t + 1, os⟩) (E := fun _ _ => False)
    (wpAny_call_entry F.ks_slot_super_ga (hT _) F.ks_entry_super_ga (super_einit hso hno hC hl X hf hI hxC ⟨_, rfl, rfl, rfl⟩) (F.ks_gaArgs_super _ _)) (fun v s' hv => ?_) fun _ _ z => z.elim
  obtain ⟨rfl, rfl⟩ := hv
  exact wpAny_pure (wpAny_pure hq)
end
end
example {M : Model} {A : Around} {E Q : Value → Shared → Prop} {s : Shared} (h : wpAny M A (pure .none) Q E s) : wpAny M A (pure .none) Q E s := by
  w_top off
  first
    | (walk1; fail)
    | exact h
section
open Builtin
section
variable {prog : Program} {w : World} {A : Around} {E : Value → Shared → Prop} {h : Heap} {g : Array GenState} {d : Drawn} {t : Nat} {os : OsState}
theorem check_bound_einit {M : Model} {e : Addr} {oe : Obj} {args : List Value} {nm q : Str} {C N : Addr} {bs bm : List Value} {hdct : Bool} {sn : List Str} {sub : List Value} {ab : Bool} {col : Option Bool} {dd : Option Addr} {k0 k1 k2 k3 k5 : Option Value} {newId : String} {Q : Unit → Shared → Prop}
    (hC : h.get? C = some (excClassObj nm q C N bs bm hdct sn sub ab col dd k0 k1 k2 k3 k5 newId)) (he : h.get? e = some oe) (hcls : oe.cls = .ref C) (hq : Q () ⟨h, g, d, t, os⟩) :
    wpAny M A (checkBoundCall "Exception.__init__" ⟨.ref e :: args, []⟩) Q E ⟨h, g, d, t, os⟩ := by
  have F := PySem.F.excBase_Exception
  have hshort := F.noStar
  simp only [checkBoundCall, F.initKind, F.initRow]
  repeat (first | (with_reducible refine wpAny_loadPart_at he ?_; rw [hcls]) | with_reducible refine wpAny_loadPart_at hC ?_ | wp_step)
  refine wpAny_onRaise ?_
  rw [show ∀ (a b : String) (n : Nat), Bind.check ⟨.positional, "*", "Exception", .self, [⟨"args", .varPos, false⟩]⟩ a b n (List.map (fun x => x.fst) ({ pos := Value.ref e :: args } : Args).kw) = pure () from
    fun a b n => check_star_args _ _ _ _ _ _]
  exact wpAny_pure hq
/-- the base's own __init__, through the bound wrapper: the args of the exception are told anew -/
theorem call_wrap_einit {q e t0 : Addr} {oe : Obj} {vs : Array Value} {args : List Value} {Q : Value → Shared → Prop} (X : (Mine.hd.heap_39 w.params).In h)
    (hw : h.get? q = some (wrapObj "Exception.__init__" e)) (he : h.get? e = some oe) (hc : oe.cls = .ref 185) (hd : oe.data = .fields vs) (h0 : vs[0]? = some (.ref t0)) (hsz : args.length ≤ sizeLine)
    (hq : Q .none ⟨(h.push (tupObj args)).update e (Obj.mapFields (·.setIfInBounds 0 (.ref h.objs.size))), g, d, t, os⟩) :
    wpAny (model prog w) A (call (.ref q) args []) Q E ⟨h, g, d, t, os⟩ := by
  refine wpAny_call (codeAny_of_tree ?_)
  show wpAny _ _ (callAny (.ref q) _) _ _ _
  unfold callAny
  refine wpAny_bind (wpAny_load hw ?_)
  show wpAny _ _ (checkBoundCall "Exception.__init__" ⟨.ref e :: args, []⟩ >>= fun _ => again (.builtin "Exception.__init__" ⟨.ref e :: args, []⟩)) _ _ _
  refine wpAny_bind (check_bound_einit (X 185 _ rfl) he hc ?_)
  refine wpAny_pure ⟨Code.quiet_builtin _ (by decide +kernel), codeAny_builtin PySem.F.excBase_Exception.initEntry ?_⟩
  unfold Builtin.«BaseException.__init__»
  show wpAny _ _ (newTuple args >>= fun tv => BaseException.bexcPut (.ref e) 0 tv >>= fun _ => ret .none) _ _ _
  refine wpAny_bind (wpAny_newTuple ?_ hsz)
  have e1 := Heap.get?_push_of_some (h := h) (tupObj args) he
  unfold BaseException.bexcPut
  refine wpAny_bind (wpAny_bind (wpAny_field e1 hd h0 (wpAny_bind (wpAny_setField e1 hd (Array.getElem?_eq_some_iff.mp h0).1 ?_))))
  refine wpAny_letGo ?_
  exact wpAny_pure hq
end
end
example {M : Model} {A : Around} {E Q : Value → Shared → Prop} {s : Shared} (h : wpAny M A (pure .none) Q E s) : wpAny M A (pure .none) Q E s := by
  w_top off
  first
    | (walk1; fail)
    | exact h
section
open Builtin
section
variable {prog : Program} {w : World} {A : Around} {E : Value → Shared → Prop} {h : Heap} {g : Array GenState} {d : Drawn} {t : Nat} {os : OsState}
variable {nm q : Str} {C N : Addr} {bs bm : List Value} {hdct : Bool} {sn : List Str} {sub : List Value} {ab : Bool} {col : Option Bool} {dd : Option Addr} {k0 k1 k2 k3 k5 : Option Value} {kn : Str} {kv : Value} {rest : List Value}
theorem check_new_kw {M : Model} {Q : Unit → Shared → Prop} (hcont : (Value.ref C :: bm).contains (.type "Exception") = true) (hC : h.get? C = some (excClassObj nm q C N bs bm hdct sn sub ab col dd k0 k1 k2 k3 k5 "Exception.__new__"))
    (hq : Q () ⟨h, g, d, t, os⟩) : wpAny M A (checkBuiltinCall "Exception.__new__" ⟨.ref C :: rest, [(kn, kv)]⟩) Q E ⟨h, g, d, t, os⟩ := by
  have F := PySem.F.excBase_Exception
  have hstar := F.noStar
  simp only [checkBuiltinCall, F.newKind, F.newSplit, F.newRow]
  repeat (first | refine wpAny_loadPart_at hC ?_ | (refine wpAny_isSubtype_exc hC ?_; rw [hcont]) | refine wpAny_staticBase_exc hC ?_ | refine wpAny_madeBy_exc hC ?_ | simp only [bne_self_eq_false, Bool.false_eq_true, if_false] | wp_step)
  exact hq
theorem new_kw {R : Result → Shared → Prop} (hcB : (Value.ref C :: bm).contains (.type "Exception") = true) (hcA : (Value.ref C :: bm).contains (.type "AttributeError") = false) (hcN : (Value.ref C :: bm).contains (.type "NameError") = false)
    (hC : h.get? C = some (excClassObj nm q C N bs bm hdct sn sub ab col dd k0 k1 k2 k3 k5 "Exception.__new__"))
    (hq : R (.ok (.ret (.ref (h.objs.size + 1)))) ⟨(h.push { cls := .type "tuple", data := .seq rest.toArray }).push
      { cls := .ref C, data := .fields #[.ref h.objs.size, .none, .none, .none, .bool false, .none] }, g, d, t, os⟩) (hrest : rest.length ≤ sizeLine) :
    codeAny (model prog w) A (.builtin "Exception.__new__" ⟨.ref C :: rest, [(kn, kv)]⟩) R ⟨h, g, d, t, os⟩ := by
  have F := PySem.F.excBase_Exception
  have hends := F.ends
  refine codeAny_builtinAt F.entry ?_
  unfold Builtin.«BaseException.__new__»
  refine _root_.PySem.wpAt_bind ?_
  show _root_.PySem.wpAt _ _ _ (stack >>= _) _ _ _
  refine _root_.PySem.wpAt_bind (_root_.PySem.wpAt_stack fun p below => _root_.PySem.wpAt_of_wpAny ?_)
  wp_walk
  refine _root_.PySem.wpAt_of_wpAny ?_
  rw [F.owner]
  repeat (first | with_reducible refine wpAny_madeHere_exc F.canon hC ?_ | with_reducible refine wpAny_loadPart_at hC ?_ | (with_reducible refine wpAny_isSubtype_exc hC ?_; first | rw [hcB] | rw [hcA] | rw [hcN]) | wp_step)
  show R _ _
  rw [Heap.size_push]
  exact hq
/-- the class called: made by the base, then the own __init__ -/
theorem type_call_185 {Q : Fin → Shared → Prop} (X : (Mine.hd.heap_39 w.params).In h) (hrest : rest.length ≤ sizeLine)
    (hq : ∀ h', (∀ b o, h.get? b = some o → h'.get? b = some o) → h'.get? (h.objs.size + 1) = some { cls := .ref 185, data := .fields #[.ref h.objs.size, .none, .none, .none, .bool false, .none] } → h'.get? h.objs.size = some (tupObj rest) → h'.objs.size = h.objs.size + 2 →
      wpAny (model prog w) A (call (.ref 175) (.ref (h.objs.size + 1) :: rest) [(kn, kv)]) (fun r s' => r = .none ∧ Q (.done (.ret (.ref (h.objs.size + 1)))) s') E ⟨h', g, d, t, os⟩) :
    wpAny (model prog w) A (Builtin.«type.__call__» ⟨.ref 185 :: rest, [(kn, kv)]⟩) Q E ⟨h, g, d, t, os⟩ := by
  have hC : h.get? 185 = some (excClassObj _ _ 185 _ _ [.ref 156, .type "Exception", .type "BaseException", .type "object"] _ _ _ _ _ _ _ _ _ _ _ _) := X 185 _ rfl
  repeat (first | with_reducible refine wpAny_loadPart_at hC ?_ | with_reducible refine wpAny_madeBy_exc hC ?_ | wp_step)
  refine codeAny_call_builtin_code (Code.quiet_builtin _ PySem.F.excBase_Exception.quiet) (check_new_kw (by decide) hC ?_)
  refine new_kw (by decide) (by decide) (by decide) hC ?_ hrest
  show wpAny _ _ _ _ _ _
  have X1 : (Mine.hd.heap_39 w.params).In ((h.push { cls := .type "tuple", data := .seq rest.toArray }).push { cls := .ref 185, data := .fields #[.ref h.objs.size, .none, .none, .none, .bool false, .none] }) :=
    fun a o e => Heap.get?_push_of_some _ (Heap.get?_push_of_some _ (X a o e))
  have hget : ((h.push { cls := .type "tuple", data := .seq rest.toArray }).push
      { cls := .ref 185, data := .fields #[.ref h.objs.size, .none, .none, .none, .bool false, .none] }).get? (h.objs.size + 1) = some
      { cls := .ref 185, data := .fields #[.ref h.objs.size, .none, .none, .none, .bool false, .none] } := by heap_get
  have hI : Looks (model prog w) ((h.push { cls := .type "tuple", data := .seq rest.toArray }).push { cls := .ref 185, data := .fields #[.ref h.objs.size, .none, .none, .none, .bool false, .none] }) (isInstance (.ref (h.objs.size + 1)) (.ref 185)) true :=
    (show Looks _ _ (typeOf (.ref (h.objs.size + 1))) (.ref 185) from (Looks.ld hget).andThen .now).andThen (looks_mroIn X1 rfl)
  refine wpAny_bind (hI.at ?_)
  have L0 : Looks (model prog w) ((h.push { cls := .type "tuple", data := .seq rest.toArray }).push { cls := .ref 185, data := .fields #[.ref h.objs.size, .none, .none, .none, .bool false, .none] }) (typeOf (.ref (h.objs.size + 1))) (.ref 185) := (Looks.ld hget).andThen .now
  have L1 : Looks (model prog w) ((h.push { cls := .type "tuple", data := .seq rest.toArray }).push { cls := .ref 185, data := .fields #[.ref h.objs.size, .none, .none, .none, .bool false, .none] }) (typeLookup (.ref 185) "__init__") (some (.ref 175)) := looks_findIn X1 rfl
  have L2 := bind_fn (M := model prog w) X1 (f := 175) (.ref (h.objs.size + 1)) rfl
  show wpAny _ _ (holding [Value.ref (h.objs.size + 1)] (callSpecial? (Value.ref (h.objs.size + 1)) (Str.ofString "__init__") rest [(kn, kv)]) >>= _) _ _ _
  refine wpAny_bind (wpAny_holding (wpAny_bind (wpAny_bind (L0.at (L1.at (wpAny_holding (wpAny_bind (L2.at (wpAny_bind ?_)))))))))
  refine wpAny_mono (hq _ (fun b o e => Heap.get?_push_of_some _ (Heap.get?_push_of_some _ e)) hget (Heap.get?_push_of_some _ (Heap.get?_push_at rfl rfl)) (by rw [Heap.size_push, Heap.size_push])) (fun r s' hr => ?_) fun _ _ x => x
  obtain ⟨rfl, hQ⟩ := hr
  exact wpAny_pure (wpAny_pure hQ)
theorem call_185 {Q : Value → Shared → Prop} (X : (Mine.hd.heap_39 w.params).In h) (hrest : rest.length ≤ sizeLine)
    (hq : ∀ h', (∀ b o, h.get? b = some o → h'.get? b = some o) → h'.get? (h.objs.size + 1) = some { cls := .ref 185, data := .fields #[.ref h.objs.size, .none, .none, .none, .bool false, .none] } → h'.get? h.objs.size = some (tupObj rest) → h'.objs.size = h.objs.size + 2 →
      wpAny (model prog w) (A.under (.builtin "type.__call__" ⟨.ref 185 :: rest, [(kn, kv)]⟩)) (call (.ref 175) (.ref (h.objs.size + 1) :: rest) [(kn, kv)]) (fun r s' => r = .none ∧ Q (.ref (h.objs.size + 1)) s') E ⟨h', g, d, t, os⟩) :
    wpAny (model prog w) A (call (.ref 185) rest [(kn, kv)]) Q E ⟨h, g, d, t, os⟩ := by
  have hC : h.get? 185 = some (excClassObj _ _ 185 _ _ [.ref 156, .type "Exception", .type "BaseException", .type "object"] _ _ _ _ _ _ _ _ _ _ _ _) := X 185 _ rfl
  have f1 := tc_lookup
  have f2 := tc_bind (.ref 185)
  have hT : (⟨h, g, d, t, os⟩ : Shared).TypeIs (.ref 185) "type" := ⟨_, hC, rfl⟩
  refine wpAny_call (codeAny_of_tree ?_)
  show wpAny _ _ (callAny (.ref 185) _) _ _ _
  repeat (any_goals (first | assumption | with_reducible refine wpAny_loadPart_at hC ?_ | wp_step))
  refine ⟨rfl, ?_⟩
  have hI : Looks (model prog w) h (isInstance (.ref 185) (.type "type")) true := (show Looks _ _ (typeOf (.ref 185)) (.type "type") from (Looks.ld hC).andThen .now).andThen (Looks.of_pure tc_sub)
  refine codeAny_call_builtin_at (Code.quiet_builtin _ (by decide +kernel)) entry_typeCall (@check_slot (model prog w) _ _ ⟨h, g, d, t, os⟩ "type.__call__" "type" "__call__" (.ref 185) rest [(kn, kv)] _ tc_kind tc_split hI (tc_args _ _ _) ?_)
  exact type_call_185 X hrest hq
end
end
example {M : Model} {A : Around} {E Q : Value → Shared → Prop} {s : Shared} (h : wpAny M A (pure .none) Q E s) : wpAny M A (pure .none) Q E s := by
  w_top off
  first
    | (walk1; fail)
    | exact h
section
open Builtin
theorem frBut {h₀ h h' : Heap} {L e : Addr} {m : Str → Option Value} (F : Fr h₀ L h m) (k : ∀ b o, b ≠ e → h.get? b = some o → h'.get? b = some o) (ne : e ≠ L) (hf : h₀.get? e = none) : Fr h₀ L h' m := by
  obtain ⟨o, es, ep, ho, r⟩ := F.ns
  exact ⟨⟨o, es, ep, k L o ne.symm ho, r⟩, fun b o q => k b o (fun z => by rw [z, hf] at q; cases q) (F.keep b o q), F.above⟩
theorem newsBut {h₀ h h' : Heap} {L e : Addr} {news : List (Addr × Obj)} (N : News h₀ L h news) (k : ∀ b o, b ≠ e → h.get? b = some o → h'.get? b = some o) (off : ∀ p ∈ news, p.1 ≠ e) : News h₀ L h' news :=
  fun p hp => ⟨k _ _ (off p hp) (N p hp).1, (N p hp).2⟩
abbrev excObj (od : Option Addr) (t : Addr) : Obj := { cls := .ref 185, dict := od, data := .fields #[.ref t, .none, .none, .none, .bool false, .none] }
theorem keeper_wrap {M : Model} {q e : Addr} {id : String} (h : Heap) (X : h.get? q = some (wrapObj id e)) : ∃ k, (k = Keeper.frame ∨ k = Keeper.machine ∨ k = Keeper.boundFrame) ∧ Looks M h (keeperOf (.ref q)) k :=
  ⟨.machine, .inr (.inl rfl), (Looks.ld (part := none) X).andThen .now⟩
section
variable {w : World} {A : Around} {E : Value → Shared → Prop} {s : Shared} {h₀ : Heap} {L e : Addr} {m : Str → Option Value} {news : List (Addr × Obj)}
theorem getSuperN {so : Addr} {oe : Obj} {pl : Sem Bool} {Q : Value × List Value → Shared → Prop} (F : Fr h₀ L s.heap m) (X : (Mine.hd.heap_39 w.params).In h₀) (N : News h₀ L s.heap news) (hso : (so, ks_superObj 185 e 185) ∈ news) (he : (e, oe) ∈ news) (hc : oe.cls = .ref 185) (ne : e ≠ 185)
    (h : ∀ q h', Fr h₀ L h' m → News h₀ L h' ((q, wrapObj "Exception.__init__" e) :: news) → (∀ p ∈ news, p.1 < q) → Q (.ref q, []) { s with heap := h', toks := s.toks + 1 }) : wpAny (model PROG w) A (getMethod (.ref so) "__init__" pl) Q E s := by
  have Xs := X.keeps F.keep
  obtain ⟨hp, g, d, t, os⟩ := s
  have L0 : Looks (model PROG w) hp (typeOf (.ref e)) (.ref 185) := hc ▸ (Looks.ld (N _ he).1).andThen .now
  have hm : Looks (model PROG w) hp (mroOf (.ref 185)) [.ref 185, .ref 156, .type "Exception", .type "BaseException", .type "object"] := (looks_clsIn Xs rfl).andThen .now
  exact getMethod_super_einit (N _ hso).1 (looks_opaque Xs rfl) hm rfl Xs rfl (L0.andThen (looks_mroIn Xs rfl)) ne (h hp.objs.size _ (F.push _) (N.push F _) fun p hp => Heap.lt_size (N p hp).1)
theorem callWith_wrap {M : Model} {env : Env} {pos : Pos} {q : Addr} {id : String} {first : List Value} {ex : Expr} {rest : List Expr} {Q : Value → Shared → Prop}
    (h : wpAny M A (spliced (backTo pos (starEach (ex :: rest) env))) (fun vs s₁ => s₁.heap.get? q = some (wrapObj id e) ∧ wpAny M A (call (.ref q) (first ++ vs)) Q E s₁) E s)
    (he : starEach (ex :: rest) env = (false, eval ex env) :: starEach rest env := by rfl) (hplain : (backTo pos (starEach rest env)).any (·.1) = false := by rfl) :
    wpAny M A (callWith pos (.ref q) first (backTo pos (starEach (ex :: rest) env)) []) Q E s := by
  rw [he] at h ⊢
  exact callWith_of (P := fun h => h.get? q = some (wrapObj id e)) (by show ((false || (backTo pos (starEach rest env)).any (·.1)) || false) = false; rw [hplain]; rfl) keeper_wrap (evalArgs_plain h)
theorem callWrapN {q t0 : Addr} {od : Option Addr} {args : List Value} {Q : Value → Shared → Prop} (F : Fr h₀ L s.heap m) (X : (Mine.hd.heap_39 w.params).In h₀) (N : News h₀ L s.heap ((e, excObj od t0) :: news)) (hw : (q, wrapObj "Exception.__init__" e) ∈ news) (ne : ∀ p ∈ news, p.1 ≠ e) (hsz : args.length ≤ sizeLine)
    (h : ∀ t1 h', Fr h₀ L h' m → News h₀ L h' ((e, excObj od t1) :: news) → Q .none { s with heap := h' }) : wpAny (model PROG w) A (call (.ref q) args []) Q E s := by
  have Xs := X.keeps F.keep
  obtain ⟨hp, g, d, t, os⟩ := s
  have he := N _ List.mem_cons_self
  have e1 := Heap.get?_push_of_some (h := hp) (tupObj args) he.1
  refine call_wrap_einit (vs := #[.ref t0, .none, .none, .none, .bool false, .none]) Xs (N _ (List.mem_cons_of_mem _ hw)).1 he.1 rfl rfl rfl hsz ?_
  have k : ∀ b o, b ≠ e → (hp.push (tupObj args)).get? b = some o → ((hp.push (tupObj args)).update e (Obj.mapFields (·.setIfInBounds 0 (.ref hp.objs.size)))).get? b = some o := fun b o nb q => by
    rw [Heap.get?_update_other _ _ (Ne.symm nb)]; exact q
  have he2 := Heap.get?_update_self (Obj.mapFields (·.setIfInBounds 0 (.ref hp.objs.size))) e1 rfl
  refine h hp.objs.size _ (frBut (F.push _) k he.2.1 he.2.2) fun p hp' => ?_
  rcases List.mem_cons.mp hp' with rfl | hp'
  · exact ⟨he2, he.2⟩
  · exact newsBut (fun p hp => (N.push F (tupObj args)) p (List.mem_cons_of_mem _ (List.mem_cons_of_mem _ hp))) k ne p hp'
theorem setExc0 {t0 : Addr} {name : Str} {v : Value} {Q : Unit → Shared → Prop} (F : Fr h₀ L s.heap m) (X : (Mine.hd.heap_39 w.params).In h₀) (N : News h₀ L s.heap ((e, excObj none t0) :: news)) (ne : ∀ p ∈ news, p.1 ≠ e)
    (hn : findIn (Mine.hd.heap_39 w.params) (.ref 185) name = some none)
    (h : ∀ D oD h', Fr h₀ L h' m → News h₀ L h' ((e, excObj (some D) t0) :: (D, oD) :: news) → DictNs oD (fun y => if y = name then some v else none) → D ≠ e → (∀ p ∈ news, @LT.lt Nat _ p.1 D) → Q () { s with heap := h', toks := s.toks + 2 }) :
    wpAny (model PROG w) A (setAttr (.ref e) name v) Q E s := by
  have Xs := X.keeps F.keep
  obtain ⟨hp, g, d, t, os⟩ := s
  have he := N _ List.mem_cons_self
  have lt : e < hp.objs.size := Heap.lt_size he.1
  refine exc_set0 Xs he.1 rfl rfl rfl hn fun h' oD x1 x2 x3 x4 => ?_
  have fresh : h₀.get? hp.objs.size = none := by
    cases q : h₀.get? hp.objs.size with
    | none => rfl
    | some o => exact absurd (Heap.lt_size (F.keep _ _ q)) (Nat.lt_irrefl _)
  refine h hp.objs.size oD h' (frBut F x4 he.2.1 he.2.2) (fun p hp' => ?_) x3 (Nat.ne_of_gt lt) fun p hp' => Heap.lt_size (N p (List.mem_cons_of_mem _ hp')).1
  rcases List.mem_cons.mp hp' with rfl | hp'
  · exact ⟨x1, he.2⟩
  · rcases List.mem_cons.mp hp' with rfl | hp'
    · exact ⟨x2, Nat.ne_of_gt F.ns.lt, fresh⟩
    · exact newsBut (fun p hp => N p (List.mem_cons_of_mem _ hp)) x4 ne p hp'
theorem setExc1 {t0 D : Addr} {oD : Obj} {name : Str} {v : Value} {mA : Str → Option Value} {ns : List Str} {Q : Unit → Shared → Prop} (F : Fr h₀ L s.heap m) (X : (Mine.hd.heap_39 w.params).In h₀) (N : News h₀ L s.heap ((e, excObj (some D) t0) :: (D, oD) :: news)) (dn : DictNs oD mA) (hne : D ≠ e)
    (ne : ∀ p ∈ news, p.1 ≠ D) (hw : Within mA ns) (hsz : ns.length ≤ 100) (hn : findIn (Mine.hd.heap_39 w.params) (.ref 185) name = some none)
    (h : ∀ oD' h', Fr h₀ L h' m → News h₀ L h' ((e, excObj (some D) t0) :: (D, oD') :: news) → DictNs oD' (fun y => if y = name then some v else mA y) → Q () { s with heap := h', toks := s.toks + 2 }) :
    wpAny (model PROG w) A (setAttr (.ref e) name v) Q E s := by
  have Xs := X.keeps F.keep
  obtain ⟨hp, g, d, t, os⟩ := s
  have he := N _ List.mem_cons_self
  have hD := N _ (List.mem_cons_of_mem _ List.mem_cons_self)
  refine exc_set1 Xs he.1 rfl rfl rfl hD.1 dn hw hsz hn fun h' oD' x2 x3 x4 => ?_
  refine h oD' h' (frBut F x4 hD.2.1 hD.2.2) (fun p hp' => ?_) x3
  rcases List.mem_cons.mp hp' with rfl | hp'
  · exact ⟨x4 _ _ (Ne.symm hne) he.1, he.2⟩
  · rcases List.mem_cons.mp hp' with rfl | hp'
    · exact ⟨x2, hD.2⟩
    · exact newsBut (fun p hp => N p (List.mem_cons_of_mem _ (List.mem_cons_of_mem _ hp))) x4 ne p hp'
end
section
variable {w : World} {A₀ A : Around} {base h₀ : Heap} {env : Env} {outer : List Env} {L : Addr} {m mg mb : Str → Option Value} {p : Program} {loose : List Str} {mean : ExcName → Option Value} {s : Shared} {Q E : Value → Shared → Prop} {news l : List (Addr × Obj)}
theorem spec_excInit {e t0 : Addr} {msg typ : Value}
    (hA : A.frames = some (env :: outer)) (hh : A.handled = none) (hd : A.depth ≤ 345) (hu : A.units ≤ 850) (hf : env.frame = some L) (hke : env.scope.kind = .function)
    (B : Below A₀ base outer h₀) (F : Fr h₀ L s.heap m) (X : (Mine.hd.heap_39 w.params).In h₀) (T : Top p loose mean mg mb h₀)
    (N : News h₀ L s.heap ((e, excObj none t0) :: (t0, tupObj [msg]) :: news)) (ne : ∀ p ∈ (t0, tupObj [msg]) :: news, p.1 ≠ e) 
    (hQ : ∀ D oD t1 h' tk, Fr h₀ L h' m → News h₀ L h' ((e, excObj (some D) t1) :: (D, oD) :: news) → DictNs oD (fun y => if y = "type_" then some typ else if y = "message" then some msg else none) → D ≠ e → (∀ q ∈ news, @LT.lt Nat _ q.1 D) → Q .none { s with heap := h', toks := tk }) :
    wpAny (model PROG w) A (call (.ref 175) [.ref e, msg] [("type_", typ)]) Q E s := by
  refine wp_le 345 850 hA hh hd hu ?_
  refine wpAny_call ?_
  k_dflt (refine' ks_code_super (binds := [("self", .ref e), ("message", msg), ("type_", typ)]) ?k1 ?k2 ?k3 ?k4 ?k5 ?kA ?kF ?kK ?k6 ?k7 ?k8 ?k9 ?kB ?_ ?c1 ?c2 ?c3 ?c4)
  (case kA => exact rfl); (case kF => first | exact rfl | assumption); (case kK => first | exact rfl | assumption); (case k1 => k_asm); (case k2 => k_asm); (case k3 => k_asm); (case k4 => k_asm); (case k5 => k_asm); (case k6 => k_is); (case k7 => k_is); (case k8 => k_room)
  (case k9 => first | exact BindsTo.of_eq rfl | exact binds_K (by k_in) rfl (by k_is) rfl rfl rfl)
  (case kB => exact locs rfl); (case c1 => decide); (case c2 => exact rfl); (case c3 => exact rfl); (case c4 => exact rfl)
  intro g' L' h' FG' F' N' B' X' T' l1
  replace l1 := allLt_of l1
  (try dsimp only)
  (focus ((iterate 3 walk1)))
  have he0 := N' _ List.mem_cons_self
  have e185 : e ≠ 185 := fun z => by have := X' 185 _ rfl; rw [← z, he0.2.2] at this; cases this
  k_dflt (refine ks_node (by k_asm) (by k_asm) (by k_asm) (by k_asm) (by k_is) (by rfl) (by rfl) (⟨he0.1, rfl, rfl, trivial⟩ : InstAt _ e (excObj none t0) 185 none) (by k_is) (by rfl) (by first | rfl | decide +kernel) (by k_is) (by k_is) (by k_is) (by k_is) (by decide) (by rfl) (by rfl) (by rfl) (by rfl) (by decide +kernel) (by first | boot_by_name | rfl | kernel_rfl) ?_)
  intro so h1 F1 N1 l2
  k_dflt (refine getSuperN (oe := excObj none t0) (by k_asm) (by k_asm) (by k_asm) List.mem_cons_self (List.mem_cons_of_mem _ List.mem_cons_self) rfl e185 ?_)
  intro q h2 F2 N2 l3
  (try dsimp only)
  refine callWith_wrap (id := "Exception.__init__") (e := e) ?_
  (focus ((iterate 5 walk1)))
  refine ⟨News.get (by k_asm) (by k_mem), ?_⟩
  (try dsimp only)
  have eso : @LT.lt Nat _ e so := l2 (e, _) List.mem_cons_self
  have eq : @LT.lt Nat _ e q := l3 (e, _) (List.mem_cons_of_mem _ List.mem_cons_self)
  have ln : ∀ p ∈ news, @LT.lt Nat _ p.1 q := fun p hp => l3 p (List.mem_cons_of_mem _ (List.mem_cons_of_mem _ (List.mem_cons_of_mem _ hp)))
  have N3 : News g' L' h2 ((e, excObj none t0) :: (q, wrapObj "Exception.__init__" e) :: (so, ks_superObj 185 e 185) :: (t0, tupObj [msg]) :: news) := nSub N2 (by walk_at "MY:sub")
  have off : ∀ p ∈ (q, wrapObj "Exception.__init__" e) :: (so, ks_superObj 185 e 185) :: (t0, tupObj [msg]) :: news, p.1 ≠ e := List.forall_mem_cons.mpr ⟨Nat.ne_of_gt eq, List.forall_mem_cons.mpr ⟨Nat.ne_of_gt eso, ne⟩⟩
  clear N2
  k_dflt (refine callWrapN (q := q) (by k_asm) (by k_asm) N3 List.mem_cons_self off (Nat.le_of_ble_eq_true (by rfl)) ?_)
  intro t1 h3 F3 N4
  (focus ((iterate 5 walk1)))
  k_dflt (refine setExc0 (by k_asm) (by k_asm) N4 off rfl ?_)
  intro D oD h4 F4 N5 dn nD lD
  have offD : ∀ p ∈ (q, wrapObj "Exception.__init__" e) :: (so, ks_superObj 185 e 185) :: (t0, tupObj [msg]) :: news, p.1 ≠ D := fun p hp => Nat.ne_of_lt (lD p hp)
  (focus ((iterate 6 walk1)))
  k_dflt (refine setExc1 (by k_asm) (by k_asm) N5 dn nD offD (Within.cons _ _ Within.nil) (by decide) rfl ?_)
  intro oD' h5 F5 N6 dn2
  (focus ((iterate 2 walk1)))
  rename News h₀ L _ _ => NN
  refine hQ D oD' t1 _ _ (by k_asm) (nSub NN (by walk_at "MY:sub")) dn2 nD fun p hp => lD p (List.mem_cons_of_mem _ (List.mem_cons_of_mem _ (List.mem_cons_of_mem _ hp)))
end
end
example {M : Model} {A : Around} {E Q : Value → Shared → Prop} {s : Shared} (h : wpAny M A (pure .none) Q E s) : wpAny M A (pure .none) Q E s := by
  w_top off
  first
    | (walk1; fail)
    | exact h
section
section
variable {M : Model} {A : Around} {E : Value → Shared → Prop} {s : Shared} {env : Env} {K : Frag}
theorem frAll {h₀ h h' : Heap} {L : Addr} {m : Str → Option Value} (F : Fr h₀ L h m) (k : ∀ b o, h.get? b = some o → h'.get? b = some o) : Fr h₀ L h' m := by
  obtain ⟨o, es, ep, ho, r⟩ := F.ns
  exact ⟨⟨o, es, ep, k L o ho, r⟩, fun b o q => k b o (F.keep b o q), F.above⟩
theorem raiseX {w : World} {x : Sem Value} {Q : Flow → Shared → Prop} (hh : A.handled = none)
    (h : wpAny M A x (fun v s₁ => ∃ e t D, v = .ref e ∧ (Mine.hd.heap_39 w.params).In s₁.heap ∧
      s₁.heap.get? e = some (excObj (some D) t) ∧ E (.ref e) s₁) E s) :
    wpAny M A (raiseStmt env (some x) none) Q E s := by
  unfold raiseStmt
  refine wpAny_bind (wpAny_mono h (fun v s₁ h₁ => ?_) fun _ _ x => x)
  obtain ⟨e, t, D, rfl, X, he, hE⟩ := h₁
  obtain ⟨hp, g, d, tk, os⟩ := s₁
  have hC : hp.get? 185 = some (excClassObj _ _ 185 _ _ [.ref 156, .type "Exception", .type "BaseException", .type "object"] _ _ _ _ _ _ _ _ _ _ _ _) := X 185 _ rfl
  have hcB : (Value.ref 185 :: [.ref 156, .type "Exception", .type "BaseException", .type "object"]).contains (.type "BaseException") = true := by decide
  repeat (first | with_reducible refine wpAny_loadPart_at he ?_ | with_reducible refine wpAny_loadPart_at hC ?_ | (with_reducible refine wpAny_isSubtype_exc hC ?_; rw [hcB]) | wp_step)
  exact wpAny_raiseNew_none hh hE
end
/-- what the refusal says -/
def refText (x : Str) : Str := Str.ofString "Unsupported type: " ++ reprText x ++ Str.ofString ". Register a structure hook for it."
theorem news2 {h₀ h h' : Heap} {L : Addr} {m : Str → Option Value} {news : List (Addr × Obj)} {o1 o2 : Obj} (F : Fr h₀ L h m) (N : News h₀ L h news) (k : ∀ b o, h.get? b = some o → h'.get? b = some o)
    (e1 : h'.get? (h.objs.size + 1) = some o1) (e2 : h'.get? h.objs.size = some o2) : News h₀ L h' ((h.objs.size + 1, o1) :: (h.objs.size, o2) :: news) ∧ ∀ p ∈ (h.objs.size, o2) :: news, p.1 ≠ h.objs.size + 1 := by
  have lt := F.ns.lt
  have fresh : ∀ n, h.objs.size ≤ n → h₀.get? n = none := fun n hn => by
    cases q : h₀.get? n with
    | none => rfl
    | some o => exact absurd (Heap.lt_size (F.keep _ _ q)) (Nat.not_lt.mpr hn)
  refine ⟨fun p hp => ?_, fun p hp => ?_⟩
  · rcases List.mem_cons.mp hp with rfl | hp
    · exact ⟨e1, Nat.ne_of_gt (Nat.lt_succ_of_lt lt), fresh _ (Nat.le_succ _)⟩
    rcases List.mem_cons.mp hp with rfl | hp
    · exact ⟨e2, Nat.ne_of_gt lt, fresh _ (Nat.le_refl _)⟩
    exact ⟨k _ _ (N p hp).1, (N p hp).2⟩
  · rcases List.mem_cons.mp hp with rfl | hp
    · exact Nat.ne_of_lt (Nat.lt_succ_self _)
    · exact Nat.ne_of_lt (Nat.lt_succ_of_lt (Heap.lt_size (N p hp).1))
section
variable {w : World} {A₀ A : Around} {base h₀ : Heap} {env : Env} {outer : List Env} {L : Addr} {m mg mb : Str → Option Value} {p : Program} {loose : List Str} {mean : ExcName → Option Value} {s : Shared} {Q E : Value → Shared → Prop} {news l : List (Addr × Obj)}
theorem spec_raise {x : Str} {t : Tok} (hx : (reprText x).length ≤ 50)
    (hA : A.frames = some (env :: outer)) (hh : A.handled = none) (hd : A.depth ≤ 336) (hu : A.units ≤ 760) (hf : env.frame = some L) (hke : env.scope.kind = .function)
    (B : Below A₀ base outer h₀) (F : Fr h₀ L s.heap m) (X : (Mine.hd.heap_39 w.params).In h₀) (T : Top p loose mean mg mb h₀)
    (N : News h₀ L s.heap news)
    (hE : ∀ e D oD G h' tk, Fr h₀ L G m → G.UpToSlots h' → RaisedX base G (env :: outer) e (ExcP D) ((D, oD) :: news) h' → DictNs oD (fun y => if y = "type_" then some (.str x t) else if y = "message" then some (.str (refText x) tk) else none) →
      (∀ q ∈ news, @LT.lt Nat _ q.1 D) → ∀ tk', E (.ref e) { s with heap := h', toks := tk' }) :
    wpAny (model PROG w) A (call (.ref 201) [.none, .str x t] []) Q E s := by
  refine wp_le 336 760 hA hh hd hu ?_
  walk_at "MY:enter"
  (focus ((iterate 10 walk1)))
  refine pyReprObj_str (hx := Nat.le_trans hx (by decide)) ?_
  (focus ((iterate 5 walk1)))
  refine joinParts_nil ?_
  (focus ((iterate 3 walk1)))
  rw [arm_exec_Raise]
  refine wpAny_bind (wpAny_standAt ?_)
  refine raiseX (w := w) (by first | rfl | assumption) ?_
  refine wpAny_bind ?_
  refine wpAny_mono ?_ (fun v s' hv => wpAny_bind (wpAny_standAt (wpAny_pure hv))) fun _ _ x => x
  (focus ((iterate 10 walk1)))
  show wpAny _ _ (call (.ref 185) [.str (refText x) _] [("type_", .str x t)]) _ _ _
  refine call_185 (by k_in) (Nat.le_of_ble_eq_true (by rfl)) fun h1 k1 e1 e2 e3 => ?_
  rename Fr _ _ _ (fun y => if y = Str.ofString "msg" then _ else _) => F0
  rename News _ _ _ _ => N0
  obtain ⟨N1, o1⟩ := news2 F0 N0 k1 e1 e2
  refine spec_excInit (by rfl) (by rfl) (Nat.le_of_ble_eq_true (by rfl)) (Nat.le_of_ble_eq_true (by rfl)) (by rfl) (by rfl) (by k_asm) (frAll F0 k1) (by k_asm) (by k_asm) N1 o1 ?_
  intro D oD t1 h2 tk2 F2 N2 dn ne lt
  refine ⟨rfl, _, t1, D, rfl, by k_in, (N2 _ List.mem_cons_self).1, ?_⟩
  refine leaveX0 (ExcP.blind D) (by k_asm) (by rfl) (by rfl) F2 N2 ?off ⟨rfl, rfl, _, rfl⟩ rfl (by rfl) ?_
  case off => exact List.forall_mem_cons.mpr ⟨ne, fun p hp => o1 p (List.mem_cons_of_mem _ hp)⟩
  intro h3 R sm
  exact hE _ D oD _ _ _ (by k_asm) sm R dn (fun q hq => lt q hq) _
end
end
example {M : Model} {A : Around} {E Q : Value → Shared → Prop} {s : Shared} (h : wpAny M A (pure .none) Q E s) : wpAny M A (pure .none) Q E s := by
  w_top off
  first
    | (walk1; fail)
    | exact h
section
local macro_rules | `(tactic| walk_at "MY:mem") => `(tactic| first | exact List.mem_cons_self | (refine' List.mem_cons_of_mem _ ?_; walk_at "MY:mem") | assumption | ktr_member)
theorem Found.ref {l : List (Addr × Obj)} {x : Addr} {e : Ent} {j : Kd} {hv : Value} (h : Found l x e j hv) : ∃ g, hv = .ref g := by
  cases e with
  | hook way k mk => obtain ⟨g, _, _, e, _⟩ := h; exact ⟨g, e⟩
  | tO => obtain ⟨g, e, _⟩ := h; exact ⟨g, e⟩
  | tB => obtain ⟨g, e, _⟩ := h; exact ⟨g, e⟩
  | tC => exact h.elim
/-- the own error in flight above these tables and this ledger -/
def RaisedT (base G : Heap) (l : List Env) (news : List (Addr × Obj)) (PE : Obj → Prop) (v : Value) (h : Heap) : Prop :=
  ∃ e D oD ta tb tc td, v = Value.ref e ∧ G.UpToSlots h ∧ RaisedX base G l e (ExcP D) ((D, oD) :: (433, tabObj ta) :: (440, tabObj tb) :: (468, tabObj tc) :: (475, tabObj td) :: news) h ∧ PE oD ∧
    TabQ (qLam "_law_last_out") ta news ∧ TabQ (qLam "_law_last_in") tb news ∧ TabQ (qLam "_law_made_in") tc news ∧ TabQ (qLam "_law_made_out") td news ∧
    ∀ q ∈ (433, tabObj ta) :: (440, tabObj tb) :: (468, tabObj tc) :: (475, tabObj td) :: news, @LT.lt Nat _ q.1 D
theorem RaisedT.leave {M : Model} {A : Around} {E : Value → Shared → Prop} {s' : Shared} {base g G : Heap} {outer : List Env} {L : Addr} {m : Str → Option Value} {env : Env} {Q : Unit → Shared → Prop} {news : List (Addr × Obj)} {PE : Obj → Prop} {v : Value}
    (K : Below A base outer g) (hf : env.frame = some L) (F : Fr g L G m) (R : RaisedT base G (env :: outer) news PE v s'.heap) (hQ : ∀ h', RaisedT base g outer news PE v h' → Q () { s' with heap := h' }) :
    wpAny M (A.deeper env) (leaving env v) Q E s' := by
  obtain ⟨e, D, oD, ta, tb, tc, td, rfl, sm, R, pe, q1, q2, q3, q4, lt⟩ := R
  exact leaveX (ExcP.blind D) K hf F R sm fun h' R' sm' => hQ h' ⟨e, D, oD, ta, tb, tc, td, rfl, sm', R', pe, q1, q2, q3, q4, lt⟩
/-- what a call does, told for any place that it may stand in -/
def CallTo (w : World) (news : List (Addr × Obj)) (dp un : Nat) (f : Value) (args : List Value) (P : List (Addr × Obj) → Value → Prop) (PE : Obj → Prop) : Prop :=
  ∀ {A₀ A : Around} {base h₀ : Heap} {env : Env} {outer : List Env} {L : Addr} {m mg mb : Str → Option Value} {p : Program} {loose : List Str} {mean : ExcName → Option Value} {s : Shared} {Q E : Value → Shared → Prop},
    A.frames = some (env :: outer) → A.handled = none → A.depth ≤ dp → A.units ≤ un → env.frame = some L → env.scope.kind = .function → Below A₀ base outer h₀ → Fr h₀ L s.heap m → (Mine.hd.heap_39 w.params).In h₀ → Top p loose mean mg mb h₀ →
    TN h₀ s.heap L news → (∀ hv news' h' tk, Fr h₀ L h' m → TN h₀ h' L news' → (∀ p ∈ news, p ∈ news') → P news' hv → Q hv { s with heap := h', toks := tk }) →
    (∀ v G h' tk, Fr h₀ L G m → RaisedT base G (env :: outer) news PE v h' → E v { s with heap := h', toks := tk }) → wpAny (model PROG w) A (call f args []) Q E s
/-- a function that stands: in the ledger or in the text -/
def FnOk (w : World) (l : List (Addr × Obj)) (q : Addr) : Prop := ∃ oc od fd sl, (q, (⟨oc, od, .func fd, sl⟩ : Obj)) ∈ l ∨ (Mine.hd.heap_39 w.params).lookup q = some ⟨oc, od, .func fd, sl⟩
theorem FnOk.at {w : World} {l : List (Addr × Obj)} {q : Addr} {h₀ h : Heap} {L : Addr} {m : Str → Option Value} (f : FnOk w l q) (F : Fr h₀ L h m) (X : (Mine.hd.heap_39 w.params).In h₀) (N : News h₀ L h l) : FnAt q h := by
  obtain ⟨oc, od, fd, sl, h | h⟩ := f
  · exact FnAt.of N h
  · exact ⟨oc, od, fd, sl, F.keep _ _ (X _ _ h)⟩
theorem FnOk.mono {w : World} {l l' : List (Addr × Obj)} {q : Addr} (f : FnOk w l q) (k : ∀ p ∈ l, p ∈ l') : FnOk w l' q :=
  let ⟨oc, od, fd, sl, h⟩ := f; ⟨oc, od, fd, sl, h.imp (k _) id⟩
section
variable {w : World} {A₀ A : Around} {base h₀ : Heap} {env : Env} {outer : List Env} {L : Addr} {m mg mb : Str → Option Value} {p : Program} {loose : List Str} {mean : ExcName → Option Value} {s : Shared} {Q E : Value → Shared → Prop} {news l : List (Addr × Obj)}
theorem spec_dwc {D : Disp} {ff x : Addr} {od : Obj} {cv : Value} {t1 t2 t : Tok} {vs : List Value} {n : Nat} {es : List Ent} {j : Kd} {PF : List (Addr × Obj) → Value → Prop} {PE : Obj → Prop} {R : Result → Shared → Prop}
    (hA : A.frames = some (env :: outer)) (hh : A.handled = none) (hd : A.depth ≤ 330) (hu : A.units ≤ 700) (hf : env.frame = some L) (hke : env.scope.kind = .function)
    (B : Below A₀ base outer h₀) (F : Fr h₀ L s.heap m) (X : (Mine.hd.heap_39 w.params).In h₀) (T : Top p loose mean mg mb h₀)
    (N : TN h₀ s.heap L news) (hD : DispAt w news D (.ref ff)) (m2 : (D.dfd, fdDict w t1 t2 cv D.hp) ∈ news) (m3 : (D.hp, W.listOf vs.toArray n) ∈ news) (m4 : (D.dd, od) ∈ news) (hod : od.IsDictOf (strKind PROG w) []) (lo : (D.dd == sysModules) = false)
    (hlen : vs.length = es.length) (hvs : ∀ (i : Nat) v e, vs[i]? = some v → es[i]? = some e → ∃ a, v = Value.ref a ∧ EntAt news x a e)
    (hfn : FnOk w news ff) (hfb : es.find? (·.hits j) = none → CallTo w news 332 720 (.ref ff) [kdV j t] PF PE)
    (hN : es.find? (·.hits j) = none → ∀ hv news' h' tk, Fr h₀ L h' m → TN h₀ h' L news' → (∀ p ∈ news, p ∈ news') → PF news' hv → R (.ok (.ret hv)) { s with heap := h', toks := tk })
    (hE : es.find? (·.hits j) = none → ∀ v G h' tk, Fr h₀ L G m → RaisedT base G (env :: outer) news PE v h' → R (.error v) { s with heap := h', toks := tk })
    (hS : ∀ e, es.find? (·.hits j) = some e → ∀ hv news' h' tk, Fr h₀ L h' m → TN h₀ h' L news' → (∀ p ∈ news, p ∈ news') → Found news' x e j hv → R (.ok (.ret hv)) { s with heap := h', toks := tk }) :
    codeAny (model PROG w) A (.call (.ref 95) ⟨[.ref D.ms, kdV j t], []⟩) R s := by
  refine code_le 330 700 hA hh hd hu ?_
  obtain ⟨ta, tb, tc, td, N, q1, q2, q3, q4, off⟩ := N
  obtain ⟨a1, a2, a3, a4, hdms⟩ := hD.dms
  have xms := hD.ms
  have xfd := hD.fd
  walk_at "MY:enter1"
  (focus ((iterate 7 walk1)))
  refine kdg_method (by k_asm) (by k_mem) hod ?_
  (focus ((iterate 4 walk1)))
  refine get_empty (by k_asm) (by k_mem) hod lo ?_
  (focus ((iterate 23 walk1)))
  refine spec_dispatch (fd := D.fd) (dfd := D.dfd) (hp := D.hp) (x := x) (vs := vs) (es := es) (j := j) (news := news) (by rfl) (by rfl) (Nat.le_of_ble_eq_true (by rfl)) (Nat.le_of_ble_eq_true (by rfl)) (by rfl) (by rfl) (by k_asm) (by k_asm) (by k_asm) (by k_asm) ⟨ta, tb, tc, td, by k_asm, q1, q2, q3, q4, off⟩ xfd m2 m3 hlen hvs ?_ ?_
  · intro hfd h2 tk2 F2 N2
    obtain ⟨ta', tb', tc', td', N3, r1, r2, r3, r4, off'⟩ := N2
    have mono : ∀ p ∈ news, p ∈ (433, tabObj ta') :: (440, tabObj tb') :: (468, tabObj tc') :: (475, tabObj td') :: news := fun p hp => List.mem_cons_of_mem _ (List.mem_cons_of_mem _ (List.mem_cons_of_mem _ (List.mem_cons_of_mem _ hp)))
    (focus ((iterate 13 walk1)))
    k_dflt (first
      | (refine' kmu_own ?k1 ?k2 ?k3 ?k4 ?k5 ?_; (case k1 => k_asm); (case k2 => k_asm); (case k3 => k_inst); (case k4 => k_is); (case k5 => k_is)))
    (focus (walk1))
    (try dsimp only)
    k_dflt (refine' callWith_F ?k1 ?_)
    (case k1 => exact (hfn.mono mono).at (by k_asm) (by k_asm) (by k_asm))
    (focus ((iterate 3 walk1)))
    refine ⟨(hfn.mono mono).at (by k_asm) (by k_asm) (by k_asm), ?_⟩
    (try dsimp only)
    refine hfb hfd (by rfl) (by rfl) (Nat.le_of_ble_eq_true (by rfl)) (Nat.le_of_ble_eq_true (by rfl)) (by rfl) (by rfl) (by k_asm) (by k_asm) (by k_asm) (by k_asm) ⟨ta', tb', tc', td', by k_asm, r1, r2, r3, r4, off'⟩ ?_ ?_
    rotate_left
    · intro v G h3 tk3 F3 R3
      refine RaisedT.leave (by k_asm) (by rfl) F3 R3 fun h4 R4 => ?_
      exact hE hfd v _ _ _ (by k_asm) R4
    intro hv news' h3 tk3 F3 N4 sub3 pf
    obtain ⟨ta2, tb2, tc2, td2, N5, u1, u2, u3, u4, off2⟩ := N4
    (focus (walk1))
    rename News h₀ L _ _ => NN
    exact hN hfd hv news' _ _ (by k_asm) ⟨ta2, tb2, tc2, td2, NN, u1, u2, u3, u4, off2⟩ sub3 pf
  · intro e hfd hv news' h2 tk2 F2 N2 sub fnd
    obtain ⟨ta', tb', tc', td', N3, r1, r2, r3, r4, off'⟩ := N2
    obtain ⟨g, rfl⟩ := fnd.ref
    (focus ((iterate 13 walk1)))
    rename News h₀ L _ _ => NN
    exact hS e hfd _ news' _ _ (by k_asm) ⟨ta', tb', tc', td', NN, r1, r2, r3, r4, off'⟩ sub fnd
end
end
example {M : Model} {A : Around} {E Q : Value → Shared → Prop} {s : Shared} (h : wpAny M A (pure .none) Q E s) : wpAny M A (pure .none) Q E s := by
  w_top off
  first
    | (walk1; fail)
    | exact h
section
local macro_rules | `(tactic| walk_at "MY:mem") => `(tactic| first | exact List.mem_cons_self | (refine' List.mem_cons_of_mem _ ?_; walk_at "MY:mem") | assumption | ktr_member)
def kdX : Kd → Str
  | .n => "north"
  | .e => "east"
  | .s => "south"
  | .w => "west"
  | .any => "Any"
  | .non => ""
theorem kdV_str {j : Kd} (h : anyNB j = false) (t : Tok) : kdV j t = .str (kdX j) t := by cases j <;> first | rfl | cases h
theorem kdX_fits (j : Kd) : (reprText (kdX j)).length ≤ 50 := by cases j <;> decide +kernel
/-- what the refusal's own dict holds -/
def ErrAt (j : Kd) (o : Obj) : Prop := ∃ t tk, DictNs o (fun y => if y = "type_" then some (kdV j t) else if y = "message" then some (.str (refText (kdX j)) tk) else none)
section
variable {prog : Program} {w : World} {A A₀ : Around} {s : Shared} {K : Frag} {L : Addr} {h₀ base : Heap} {m mg mb : Str → Option Value} {news : List (Addr × Obj)} {p : Program} {loose : List Str} {mean : ExcName → Option Value}
/-- a lambda of the text's own top, called -/
theorem lam_top {env : Env} {outer : List Env} {R : Result → Shared → Prop} {name qual : Str} {params : Arguments} {body : Expr} {scope : Scope} {pm ctv oc : Value} {od : Option Addr} {osl : Array (Option Value)} {c' : Addr} {f : Addr} {args : Args} {binds : List (Str × Value)}
    (B : Below A₀ base outer h₀) (F : Fr h₀ L s.heap m) (X₀ : K.In h₀) (N : News h₀ L s.heap news) (T : Top p loose mean mg mb h₀) (hA : A.frames = some (env :: outer)) (hf : env.frame = some L) (hke : env.scope.kind = .function)
    (ho : K.lookup f = some ⟨oc, od, .func (kla_fn name qual params body scope [] pm (.ref c') ctv), osl⟩) (hcd : codeIn K (.ref c') qual = true) (hroom : A.depth < recursionLimit)
    (hbind : bindArgs (kla_fn name qual params body scope [] pm (.ref c') ctv) args = pure binds) (hloc : ∀ y ∈ binds, scope.names.lookup y.1 = some .local)
    (h : ∀ g L' h₁, Fr h₀ L g m → Fr g L' h₁ (fun y => binds.reverse.lookup y) → News g L' h₁ news → Below A base (env :: outer) g → K.In g → Top p loose mean mg mb g →
      wpAny (model prog w) (A.deeper (envX qual scope L' f (.ref c') [])) (eval body (envX qual scope L' f (.ref c') []))
        (fun v s' => LeaveK h₀ L m g R v s')
        (fun e s' => wpAny (model prog w) (A.deeper (envX qual scope L' f (.ref c') [])) (leaving (envX qual scope L' f (.ref c') []) e) (fun _ s'' => R (.error e) s'') (fun e' s'' => R (.error e') s'') s')
        { s with heap := h₁, toks := s.toks + binds.length })
    (hco : scope.isCoroutine = false) (hgen : scope.isGenerator = false) (hk : scope.kind = .function)
    (hcell : ∀ x ∈ scope.names, x.2 ≠ .cell) : codeAny (model prog w) A (.call (.ref f) args) R s := by
  have Xs := X₀.keeps F.keep
  obtain ⟨FG, BG, st, lv⟩ := groundX (R := R) B F N hA hf hke
  refine kla_callFunE hroom (Xs _ _ ho) rfl hco hgen rfl (codeRec_of Xs hcd) ?_
  rw [hbind]
  refine wpAny_pure (wpAny_newFunctionEnv hcell hloc (fun h₁ hns hsb => ⟨((T.nolimit).keeps F.keep).fresh _ hsb, ?_⟩) hk)
  have hk₁ : ∀ b o, s.heap.get? b = some o → h₁.get? b = some o := fun b o e => hsb.extBut b o (Nat.ne_of_lt (Heap.lt_size e)) (Heap.get?_push_of_some _ e)
  have F' : Fr (hideAll s.heap (news.map (·.1))) s.heap.objs.size h₁ (fun y => binds.reverse.lookup y) := ⟨hns, fun b o e => hk₁ b o (of_hideAll _ e), Nat.le_of_eq (hideAll_size _ _)⟩
  exact kla_codeExpr (wpAny_mono (h _ _ h₁ FG F' (fun p hp => ⟨hk₁ _ _ (N p hp).1, Nat.ne_of_lt (Heap.lt_size (N p hp).1), hideAll_none _ (List.mem_map_of_mem hp)⟩) BG (X₀.keeps st) (T.keeps st)) (fun v s' hl => lv _ _ hl) fun _ _ y => y)
end
local macro_rules | `(tactic| walk_at "MY:ltop") => `(tactic| (
  refine wpAny_call ?_
  k_dflt (refine' lam_top ?k1 ?k2 ?k3 ?k4 ?k5 ?kA ?kF ?kK ?k6 ?k7 ?k8 ?k9 ?kB ?_ ?c2 ?c3 ?c4 ?c5)
  (case kA => exact rfl); (case kF => first | exact rfl | assumption); (case kK => first | exact rfl | assumption); (case k1 => k_asm); (case k2 => k_asm); (case k3 => k_asm); (case k4 => k_asm); (case k5 => k_asm)
  (case k6 => k_is); (case k7 => k_is); (case k8 => k_room)
  (case k9 => exact rfl); (case kB => exact locs rfl); (case c2 => exact rfl); (case c3 => exact rfl); (case c4 => exact rfl); (case c5 => decide)
  intro g' L' h' FG' F' N' B' X' T'
  (try dsimp only)))
section
variable {w : World} {A₀ A : Around} {base h₀ : Heap} {env : Env} {outer : List Env} {L : Addr} {m mg mb : Str → Option Value} {p : Program} {loose : List Str} {mean : ExcName → Option Value} {s : Shared} {Q E : Value → Shared → Prop} {news l : List (Addr × Obj)}
theorem spec_fbIn {ff : Addr} (hff : ff = 357 ∨ ff = 223) {j : Kd} {t : Tok} (hj : anyNB j = false) : CallTo w news 332 720 (.ref ff) [kdV j t] (fun _ _ => False) (ErrAt j) := by
  intro A₀ A base h₀ env outer L m mg mb p loose mean s Q E hA hh hd hu hf hke B F X T N _ hE
  refine wp_le 332 720 hA hh hd hu ?_
  obtain ⟨ta, tb, tc, td, N, q1, q2, q3, q4, off⟩ := N
  rw [kdV_str hj]
  rcases hff with rfl | rfl
  all_goals (
    walk_at "MY:ltop"
    (focus ((iterate 9 walk1)))
    refine spec_raise (kdX_fits j) (by rfl) (by rfl) (Nat.le_of_ble_eq_true (by rfl)) (Nat.le_of_ble_eq_true (by rfl)) (by rfl) (by rfl) (by k_asm) (by k_asm) (by k_asm) (by k_asm) (by k_asm) ?_
    intro e D oD G h2 tk2 FG2 sm R dn lt tk3
    have er : ErrAt j oD := ⟨t, tk2, by rw [kdV_str hj]; exact dn⟩
    refine RaisedT.leave (PE := ErrAt j) (news := news) (by k_asm) (by rfl) FG2 ⟨e, D, oD, ta, tb, tc, td, rfl, sm, R, er, q1, q2, q3, q4, lt⟩ ?_
    intro h4 R4
    exact hE (.ref e) _ h4 tk3 (by k_asm) R4)
theorem spec_fbOut {ff : Addr} (hff : ff = 350 ∨ ff = 216) {j : Kd} {t : Tok} : CallTo w news 332 720 (.ref ff) [kdV j t] (fun _ v => v = .ref 194) (fun _ => False) := by
  intro A₀ A base h₀ env outer L m mg mb p loose mean s Q E hA hh hd hu hf hke B F X T N hQ _
  refine wp_le 332 720 hA hh hd hu ?_
  obtain ⟨ta, tb, tc, td, N, q1, q2, q3, q4, off⟩ := N
  rcases hff with rfl | rfl
  all_goals (
    walk_at "MY:ltop"
    (focus ((iterate 2 walk1)))
    skip
    rename News h₀ L _ _ => NN
    exact hQ _ news _ _ (by k_asm) ⟨ta, tb, tc, td, NN, q1, q2, q3, q4, off⟩ (fun p hp => hp) rfl)
end
end
example {M : Model} {A : Around} {E Q : Value → Shared → Prop} {s : Shared} (h : wpAny M A (pure .none) Q E s) : wpAny M A (pure .none) Q E s := by
  w_top off
  first
    | (walk1; fail)
    | exact h
section
local macro_rules | `(tactic| walk_at "MY:mem") => `(tactic| first | exact List.mem_cons_self | (refine' List.mem_cons_of_mem _ ?_; walk_at "MY:mem") | assumption | ktr_member)
/-- what a converter answers -/
inductive Ans
  | val | refused | unstr
  | hook (mk : Int) (told : Option Kd)
  | made (mk : Int) (of : Kd) (told : Option Kd)
  | last (mk : Int) (of : Kd) (told : Option Kd)
def hitIn : Ent → Kd → Ans
  | .hook way _ mk, j => if way = 0 then .hook mk (some j) else .made mk j (some j)
  | _, _ => .val
def ansIn (es : List Ent) (ow : Bool) (mk : Int) (j : Kd) : Ans := match es.find? (·.hits j) with
  | some e => hitIn e j
  | none => if ow then .last mk j (some j) else .refused
def hitOut : Ent → Kd → Ans
  | .hook way _ mk, j => if way = 1 then .hook mk none else .made mk j none
  | _, _ => .unstr
def ansOut1 (es : List Ent) (ow : Bool) (mk : Int) (j : Kd) : Ans := match es.find? (·.hits j) with
  | some e => hitOut e j
  | none => if ow then .last mk j none else .val
def okI : Ent → Prop
  | .hook way _ _ => way = 0 ∨ way = 2
  | .tO => False
  | _ => True
def okO : Ent → Prop
  | .hook way _ _ => way = 1 ∨ way = 3
  | .tO => True
  | _ => False
/-- the handler that gives that answer -/
def HandIn (l : List (Addr × Obj)) (hv : Value) (j : Kd) : Ans → Prop
  | .hook mk told => told = some j ∧ ∃ g cm tm, hv = .ref g ∧ LamAt l g (qLam "_law_register") lR0 [("mark", cm)] ∧ CellAt l cm (.int mk tm)
  | .made mk of told => told = some j ∧ ∃ g cm tm c2 t2, hv = .ref g ∧ LamAt l g (qLam "_law_made_in") lMadeIn [("of", c2), ("mark", cm)] ∧ CellAt l cm (.int mk tm) ∧ CellAt l c2 (kdV of t2)
  | .last mk of told => told = some j ∧ ∃ g cm tm c2 t2, hv = .ref g ∧ LamAt l g (qLam "_law_last_in") lLastIn [("mark", cm), ("kind", c2)] ∧ CellAt l cm (.int mk tm) ∧ CellAt l c2 (kdV of t2)
  | .val => ∃ g, hv = .ref g ∧ LamAt l g (qLam "BaseConverter.__init__") lHB []
  | _ => False
def HandOut (l : List (Addr × Obj)) (x : Addr) (hv : Value) : Ans → Prop
  | .hook mk told => told = none ∧ ∃ g cm tm, hv = .ref g ∧ LamAt l g (qLam "_law_register") lR1 [("mark", cm)] ∧ CellAt l cm (.int mk tm)
  | .made mk of told => told = none ∧ ∃ g cm tm c2 t2, hv = .ref g ∧ LamAt l g (qLam "_law_made_out") lMadeOut [("of", c2), ("mark", cm)] ∧ CellAt l cm (.int mk tm) ∧ CellAt l c2 (kdV of t2)
  | .last mk of told => told = none ∧ ∃ g cm tm c2 t2, hv = .ref g ∧ LamAt l g (qLam "_law_last_out") lLastOut [("mark", cm), ("kind", c2)] ∧ CellAt l cm (.int mk tm) ∧ CellAt l c2 (kdV of t2)
  | .val => hv = .ref 194
  | .unstr => ∃ g, hv = .ref g ∧ (g, methodObj (.ref 239) (.ref x)) ∈ l
  | .refused => False
theorem foundIn {l : List (Addr × Obj)} {x : Addr} {e : Ent} {j : Kd} {hv : Value} (h : Found l x e j hv) (ok : okI e) : HandIn l hv j (hitIn e j) := by
  cases e with
  | hook way k mk =>
    rcases ok with rfl | rfl
    · obtain ⟨g, cm, tm, rfl, a, b⟩ := h
      exact ⟨rfl, g, cm, tm, rfl, b, a⟩
    · obtain ⟨g, cm, tm, rfl, a, c2, t2, b, c⟩ := h
      exact ⟨rfl, g, cm, tm, c2, t2, rfl, b, a, c⟩
  | tO => exact ok.elim
  | tB => exact h
  | tC => exact h.elim
theorem foundOut {l : List (Addr × Obj)} {x : Addr} {e : Ent} {j : Kd} {hv : Value} (h : Found l x e j hv) (ok : okO e) : HandOut l x hv (hitOut e j) := by
  cases e with
  | hook way k mk =>
    rcases ok with rfl | rfl
    · obtain ⟨g, cm, tm, rfl, a, b⟩ := h
      exact ⟨rfl, g, cm, tm, rfl, b, a⟩
    · obtain ⟨g, cm, tm, rfl, a, c2, t2, b, c⟩ := h
      exact ⟨rfl, g, cm, tm, c2, t2, rfl, b, a, c⟩
  | tO => exact h
  | tB => exact ok.elim
  | tC => exact ok.elim
theorem HandIn.ref {l : List (Addr × Obj)} {hv : Value} {j : Kd} {a : Ans} (h : HandIn l hv j a) : ∃ g, hv = .ref g ∧ ∃ q u c, LamAt l g q u c := by
  cases a with
  | val => obtain ⟨g, e, h⟩ := h; exact ⟨g, e, _, _, _, h⟩
  | refused => exact h.elim
  | unstr => exact h.elim
  | hook mk told => obtain ⟨_, g, _, _, e, h, _⟩ := h; exact ⟨g, e, _, _, _, h⟩
  | made mk of told => obtain ⟨_, g, _, _, _, _, e, h, _⟩ := h; exact ⟨g, e, _, _, _, h⟩
  | last mk of told => obtain ⟨_, g, _, _, _, _, e, h, _⟩ := h; exact ⟨g, e, _, _, _, h⟩
theorem HandOut.ref {l : List (Addr × Obj)} {x : Addr} {hv : Value} {a : Ans} (h : HandOut l x hv a) : ∃ g, hv = .ref g ∧ (g = 194 ∨ (g, methodObj (.ref 239) (.ref x)) ∈ l ∨ ∃ q u c, LamAt l g q u c) := by
  cases a with
  | val => exact ⟨194, h, .inl rfl⟩
  | refused => exact h.elim
  | unstr => obtain ⟨g, e, h⟩ := h; exact ⟨g, e, .inr (.inl h)⟩
  | hook mk told => obtain ⟨_, g, _, _, e, h, _⟩ := h; exact ⟨g, e, .inr (.inr ⟨_, _, _, h⟩)⟩
  | made mk of told => obtain ⟨_, g, _, _, _, _, e, h, _⟩ := h; exact ⟨g, e, .inr (.inr ⟨_, _, _, h⟩)⟩
  | last mk of told => obtain ⟨_, g, _, _, _, _, e, h, _⟩ := h; exact ⟨g, e, .inr (.inr ⟨_, _, _, h⟩)⟩
/-- a dispatcher with its list -/
structure DRow (w : World) (l : List (Addr × Obj)) (x : Addr) (D : Disp) (es : List Ent) : Prop where
  dfd : ∃ t1 t2, (D.dfd, fdDict w t1 t2 (.ref x) D.hp) ∈ l
  hp : ∃ (vs : List Value) (n : Nat), (D.hp, W.listOf vs.toArray n) ∈ l ∧ vs.length = es.length ∧ ∀ (i : Nat) v e, vs[i]? = some v → es[i]? = some e → ∃ a, v = Value.ref a ∧ EntAt l x a e
  dd : ∃ od, (D.dd, od) ∈ l ∧ od.IsDictOf (strKind PROG w) []
  sys : (D.dd == sysModules) = false
theorem DRow.mono {w : World} {l l' : List (Addr × Obj)} {x : Addr} {D : Disp} {es : List Ent} (h : DRow w l x D es) (k : ∀ p ∈ l, p ∈ l') : DRow w l' x D es :=
  ⟨let ⟨a, b, c⟩ := h.dfd; ⟨a, b, k _ c⟩, let ⟨vs, n, a, b, c⟩ := h.hp; ⟨vs, n, k _ a, b, fun i v e h1 h2 => let ⟨t, e1, e2⟩ := c i v e h1 h2; ⟨t, e1, e2.mono k⟩⟩, let ⟨od, a, b⟩ := h.dd; ⟨od, k _ a, b⟩, h.sys⟩
/-- a converter whose lists are known -/
structure RowAt (w : World) (l : List (Addr × Obj)) (C : Conv) (esO esI : List Ent) (ow : Bool) (mk : Int) : Prop where
  cv : BaseAt w l C
  o : DRow w l C.x C.O esO
  i : DRow w l C.x C.I esI
  fb : ∃ t, FbAt l C ow (.int mk t)
  oO : ∀ e ∈ esO, okO e
  oI : ∀ e ∈ esI, okI e
  tb : Ent.tB ∈ esI
theorem RowAt.mono {w : World} {l l' : List (Addr × Obj)} {C : Conv} {esO esI : List Ent} {ow : Bool} {mk : Int} (h : RowAt w l C esO esI ow mk) (k : ∀ p ∈ l, p ∈ l') : RowAt w l' C esO esI ow mk :=
  ⟨h.cv.mono k, h.o.mono k, h.i.mono k, let ⟨t, a⟩ := h.fb; ⟨t, a.mono k⟩, h.oO, h.oI, h.tb⟩
theorem find_ok {es : List Ent} {P : Ent → Prop} {p : Ent → Bool} {e : Ent} (h : es.find? p = some e) (k : ∀ e ∈ es, P e) : P e := k e (List.mem_of_find?_eq_some h)
theorem LamAt.ok {w : World} {l : List (Addr × Obj)} {f : Addr} {q : Str} {u : Lam} {clos : List (Str × Addr)} (h : LamAt l f q u clos) : FnOk w l f := let ⟨a, b, c, d, e⟩ := h.fn; ⟨a, b, c, d, .inl e⟩
theorem fnOkK {w : World} {l : List (Addr × Obj)} {f : Addr} (h : f = 357 ∨ f = 223 ∨ f = 350 ∨ f = 216 ∨ f = 194) : FnOk w l f := by
  rcases h with rfl | rfl | rfl | rfl | rfl <;> exact ⟨_, _, _, _, .inr rfl⟩
theorem plainI_or (k : Bool) : plainI k = 357 ∨ plainI k = 223 := by cases k <;> simp [plainI]
theorem plainO_or (k : Bool) : plainO k = 350 ∨ plainO k = 216 := by cases k <;> simp [plainO]
section
variable {w : World} {A₀ A : Around} {base h₀ : Heap} {env : Env} {outer : List Env} {L : Addr} {m mg mb : Str → Option Value} {p : Program} {loose : List Str} {mean : ExcName → Option Value} {s : Shared} {Q E : Value → Shared → Prop} {news l : List (Addr × Obj)}
theorem spec_dwcI {C : Conv} {esO esI : List Ent} {ow : Bool} {mk : Int} {j : Kd} {t : Tok} {R : Result → Shared → Prop}
    (hA : A.frames = some (env :: outer)) (hh : A.handled = none) (hd : A.depth ≤ 330) (hu : A.units ≤ 700) (hf : env.frame = some L) (hke : env.scope.kind = .function)
    (B : Below A₀ base outer h₀) (F : Fr h₀ L s.heap m) (X : (Mine.hd.heap_39 w.params).In h₀) (T : Top p loose mean mg mb h₀)
    (N : TN h₀ s.heap L news) (hR : RowAt w news C esO esI ow mk)
    (hN : ∀ hv news' h' tk, Fr h₀ L h' m → TN h₀ h' L news' → (∀ p ∈ news, p ∈ news') → HandIn news' hv j (ansIn esI ow mk j) → R (.ok (.ret hv)) { s with heap := h', toks := tk })
    (hE : ansIn esI ow mk j = .refused → ∀ v G h' tk, Fr h₀ L G m → RaisedT base G (env :: outer) news (ErrAt j) v h' → R (.error v) { s with heap := h', toks := tk }) :
    codeAny (model PROG w) A (.call (.ref 95) ⟨[.ref C.I.ms, kdV j t], []⟩) R s := by
  obtain ⟨t1, t2, m2⟩ := hR.i.dfd
  obtain ⟨vs, n, m3, hlen, hvs⟩ := hR.i.hp
  obtain ⟨od, m4, hod⟩ := hR.i.dd
  obtain ⟨tf, fb⟩ := hR.fb
  have hS : ∀ e, esI.find? (·.hits j) = some e → ∀ hv news' h' tk, Fr h₀ L h' m → TN h₀ h' L news' → (∀ p ∈ news, p ∈ news') → Found news' C.x e j hv → R (.ok (.ret hv)) { s with heap := h', toks := tk } := by
    intro e he hv news' h' tk F' N' sub fnd
    refine hN hv news' h' tk F' N' sub ?_
    unfold ansIn
    rw [he]
    exact foundIn fnd (find_ok he hR.oI)
  rcases fb with ⟨rfl, eu, es⟩ | ⟨rfl, fo, fi, cm, eu, es, lo, li, cc⟩
  · have dI := hR.cv.dI
    rw [es] at dI
    have nb : esI.find? (·.hits j) = none → anyNB j = false := fun h => by
      have := List.find?_eq_none.mp h _ hR.tb
      cases hb : anyNB j with
      | false => rfl
      | true => exact absurd hb this
    refine spec_dwc hA hh hd hu hf hke B F X T (ff := plainI C.k) (PF := fun _ _ => False) (PE := ErrAt j) N dI m2 m3 m4 hod hR.i.sys hlen hvs (fnOkK ((plainI_or C.k).elim .inl fun h => .inr (.inl h))) (fun h => spec_fbIn (plainI_or C.k) (nb h)) ?_ ?_ hS
    · intro _ hv news' h' tk _ _ _ hf
      exact hf.elim
    · intro h v G h' tk F' R'
      refine hE ?_ v G h' tk F' R'
      unfold ansIn
      rw [h]; rfl
  · have dI := hR.cv.dI
    rw [es] at dI
    refine spec_dwc hA hh hd hu hf hke B F X T (ff := fi) (PF := fun l hv => HandIn l hv j (.last mk j (some j))) (PE := fun _ => False) N dI m2 m3 m4 hod hR.i.sys hlen hvs li.ok (fun h => ?_) ?_ ?_ hS
    · intro A₀ A base h₀ env outer L m mg mb p loose mean s Q E hA hh hd hu hf hke B F X T N hQ _
      refine spec_lInto hA hh (Nat.le_trans hd (by decide)) (Nat.le_trans hu (by decide)) hf hke B F X T N li cc ?_
      intro g c1 c2 news' h' tk F' N' sub la ce1 ce2
      exact hQ _ news' h' tk F' N' sub ⟨rfl, g, c1, tf, c2, t, rfl, la, ce1, ce2⟩
    · intro h hv news' h' tk F' N' sub hf
      refine hN hv news' h' tk F' N' sub ?_
      unfold ansIn
      rw [h]; exact hf
    · intro h v G h' tk F' R'
      obtain ⟨_, _, _, _, _, _, _, _, _, _, hf, _⟩ := R'
      exact hf.elim
theorem spec_dwcO {C : Conv} {esO esI : List Ent} {ow : Bool} {mk : Int} {j : Kd} {t : Tok} {R : Result → Shared → Prop}
    (hA : A.frames = some (env :: outer)) (hh : A.handled = none) (hd : A.depth ≤ 330) (hu : A.units ≤ 700) (hf : env.frame = some L) (hke : env.scope.kind = .function)
    (B : Below A₀ base outer h₀) (F : Fr h₀ L s.heap m) (X : (Mine.hd.heap_39 w.params).In h₀) (T : Top p loose mean mg mb h₀)
    (N : TN h₀ s.heap L news) (hR : RowAt w news C esO esI ow mk)
    (hN : ∀ hv news' h' tk, Fr h₀ L h' m → TN h₀ h' L news' → (∀ p ∈ news, p ∈ news') → HandOut news' C.x hv (ansOut1 esO ow mk j) → R (.ok (.ret hv)) { s with heap := h', toks := tk }) :
    codeAny (model PROG w) A (.call (.ref 95) ⟨[.ref C.O.ms, kdV j t], []⟩) R s := by
  obtain ⟨t1, t2, m2⟩ := hR.o.dfd
  obtain ⟨vs, n, m3, hlen, hvs⟩ := hR.o.hp
  obtain ⟨od, m4, hod⟩ := hR.o.dd
  obtain ⟨tf, fb⟩ := hR.fb
  have hS : ∀ e, esO.find? (·.hits j) = some e → ∀ hv news' h' tk, Fr h₀ L h' m → TN h₀ h' L news' → (∀ p ∈ news, p ∈ news') → Found news' C.x e j hv → R (.ok (.ret hv)) { s with heap := h', toks := tk } := by
    intro e he hv news' h' tk F' N' sub fnd
    refine hN hv news' h' tk F' N' sub ?_
    unfold ansOut1
    rw [he]
    exact foundOut fnd (find_ok he hR.oO)
  rcases fb with ⟨rfl, eu, es⟩ | ⟨rfl, fo, fi, cm, eu, es, lo, li, cc⟩
  · have dO := hR.cv.dO
    rw [eu] at dO
    refine spec_dwc hA hh hd hu hf hke B F X T (ff := plainO C.k) (PF := fun _ v => v = .ref 194) (PE := fun _ => False) N dO m2 m3 m4 hod hR.o.sys hlen hvs (fnOkK ((plainO_or C.k).elim (fun h => .inr (.inr (.inl h))) fun h => .inr (.inr (.inr (.inl h))))) (fun h => spec_fbOut (plainO_or C.k)) ?_ ?_ hS
    · intro h hv news' h' tk F' N' sub hf
      refine hN hv news' h' tk F' N' sub ?_
      unfold ansOut1
      rw [h]; exact hf
    · intro h v G h' tk F' R'
      obtain ⟨_, _, _, _, _, _, _, _, _, _, hf, _⟩ := R'
      exact hf.elim
  · have dO := hR.cv.dO
    rw [eu] at dO
    refine spec_dwc hA hh hd hu hf hke B F X T (ff := fo) (PF := fun l hv => HandOut l C.x hv (.last mk j none)) (PE := fun _ => False) N dO m2 m3 m4 hod hR.o.sys hlen hvs lo.ok (fun h => ?_) ?_ ?_ hS
    · intro A₀ A base h₀ env outer L m mg mb p loose mean s Q E hA hh hd hu hf hke B F X T N hQ _
      refine spec_lOut hA hh (Nat.le_trans hd (by decide)) (Nat.le_trans hu (by decide)) hf hke B F X T N lo cc ?_
      intro g c1 c2 news' h' tk F' N' sub la ce1 ce2
      exact hQ _ news' h' tk F' N' sub ⟨rfl, g, c1, tf, c2, t, rfl, la, ce1, ce2⟩
    · intro h hv news' h' tk F' N' sub hf
      refine hN hv news' h' tk F' N' sub ?_
      unfold ansOut1
      rw [h]; exact hf
    · intro h v G h' tk F' R'
      obtain ⟨_, _, _, _, _, _, _, _, _, _, hf, _⟩ := R'
      exact hf.elim
end
end
example {M : Model} {A : Around} {E Q : Value → Shared → Prop} {s : Shared} (h : wpAny M A (pure .none) Q E s) : wpAny M A (pure .none) Q E s := by
  w_top off
  first
    | (walk1; fail)
    | exact h
section
local macro_rules | `(tactic| walk_at "MY:mem") => `(tactic| first | exact List.mem_cons_self | (refine' List.mem_cons_of_mem _ ?_; walk_at "MY:mem") | assumption | ktr_member)
def toldV : Option Kd → Tok → List Value
  | some j, t => [kdV j t]
  | none, _ => []
/-- r is that answer to the value v -/
def AnsIs (l : List (Addr × Obj)) (r v : Value) : Ans → Prop
  | .val => r = v
  | .refused => ∃ t, r = .str "refused" t
  | .unstr => False
  | .hook mk told => ∃ a T0 tm t, r = .ref a ∧ (a, tupObj ([.str "hook" T0, .int mk tm] ++ toldV told t ++ [v])) ∈ l
  | .made mk of told => ∃ a T0 tm t t2, r = .ref a ∧ (a, tupObj ([.str "made" T0, .int mk tm, kdV of t2] ++ toldV told t ++ [v])) ∈ l
  | .last mk of told => ∃ a T0 tm t t2, r = .ref a ∧ (a, tupObj ([.str "last" T0, .int mk tm, kdV of t2] ++ toldV told t ++ [v])) ∈ l
theorem AnsIs.mono {l l' : List (Addr × Obj)} {r v : Value} {a : Ans} (h : AnsIs l r v a) (k : ∀ p ∈ l, p ∈ l') : AnsIs l' r v a := by
  cases a with
  | val => exact h
  | refused => exact h
  | unstr => exact h
  | hook mk told => obtain ⟨a, T0, tm, t, e, m⟩ := h; exact ⟨a, T0, tm, t, e, k _ m⟩
  | made mk of told => obtain ⟨a, T0, tm, t, t2, e, m⟩ := h; exact ⟨a, T0, tm, t, t2, e, k _ m⟩
  | last mk of told => obtain ⟨a, T0, tm, t, t2, e, m⟩ := h; exact ⟨a, T0, tm, t, t2, e, k _ m⟩
theorem tn_cons {h₀ h' : Heap} {L a : Addr} {o : Obj} {ta tb tc td : Array Value} {news : List (Addr × Obj)} (N' : News h₀ L h' ((a, o) :: (433, tabObj ta) :: (440, tabObj tb) :: (468, tabObj tc) :: (475, tabObj td) :: news))
    (q1 : TabQ (qLam "_law_last_out") ta news) (q2 : TabQ (qLam "_law_last_in") tb news) (q3 : TabQ (qLam "_law_made_in") tc news) (q4 : TabQ (qLam "_law_made_out") td news) (off : ∀ p ∈ news, p.1 ≠ 433 ∧ p.1 ≠ 440 ∧ p.1 ≠ 468 ∧ p.1 ≠ 475)
    (lt : ∀ q ∈ (433, tabObj ta) :: (440, tabObj tb) :: (468, tabObj tc) :: (475, tabObj td) :: news, @LT.lt Nat _ q.1 a) : TN h₀ h' L ((a, o) :: news) := by
  have km : ∀ p ∈ news, p ∈ (a, o) :: news := fun p hp => List.mem_cons_of_mem _ hp
  refine ⟨ta, tb, tc, td, nSub N' fun p hp => ?_, q1.mono km, q2.mono km, q3.mono km, q4.mono km, List.forall_mem_cons.mpr ⟨?_, off⟩⟩
  · simp only [List.mem_cons] at hp ⊢
    rcases hp with h | h | h | h | h | h <;> simp only [h, true_or, or_true]
  · exact ⟨Nat.ne_of_gt (lt (433, tabObj ta) (by k_mem)), Nat.ne_of_gt (lt (440, tabObj tb) (by k_mem)), Nat.ne_of_gt (lt (468, tabObj tc) (by k_mem)), Nat.ne_of_gt (lt (475, tabObj td) (by k_mem))⟩
theorem tn_same {h₀ h' : Heap} {L : Addr} {ta tb tc td : Array Value} {news : List (Addr × Obj)} (N' : News h₀ L h' ((433, tabObj ta) :: (440, tabObj tb) :: (468, tabObj tc) :: (475, tabObj td) :: news))
    (q1 : TabQ (qLam "_law_last_out") ta news) (q2 : TabQ (qLam "_law_last_in") tb news) (q3 : TabQ (qLam "_law_made_in") tc news) (q4 : TabQ (qLam "_law_made_out") td news) (off : ∀ p ∈ news, p.1 ≠ 433 ∧ p.1 ≠ 440 ∧ p.1 ≠ 468 ∧ p.1 ≠ 475) : TN h₀ h' L news := ⟨ta, tb, tc, td, N', q1, q2, q3, q4, off⟩
section
variable {w : World} {A₀ A : Around} {base h₀ : Heap} {env : Env} {outer : List Env} {L : Addr} {m mg mb : Str → Option Value} {p : Program} {loose : List Str} {mean : ExcName → Option Value} {s : Shared} {Q E : Value → Shared → Prop} {news l : List (Addr × Obj)}
theorem callIn {hv v : Value} {j : Kd} {t : Tok} {a : Ans}
    (hA : A.frames = some (env :: outer)) (hh : A.handled = none) (hd : A.depth ≤ 340) (hu : A.units ≤ 800) (hf : env.frame = some L) (hke : env.scope.kind = .function)
    (B : Below A₀ base outer h₀) (F : Fr h₀ L s.heap m) (X : (Mine.hd.heap_39 w.params).In h₀) (T : Top p loose mean mg mb h₀)
    (N : TN h₀ s.heap L news) (hH : HandIn news hv j a)
    (hQ : ∀ r news' h' tk, Fr h₀ L h' m → TN h₀ h' L news' → (∀ p ∈ news, p ∈ news') → AnsIs news' r v a → Q r { s with heap := h', toks := tk }) :
    wpAny (model PROG w) A (call hv [v, kdV j t] []) Q E s := by
  obtain ⟨ta, tb, tc, td, N, q1, q2, q3, q4, off⟩ := N
  have km : ∀ p ∈ news, p ∈ (433, tabObj ta) :: (440, tabObj tb) :: (468, tabObj tc) :: (475, tabObj td) :: news := fun p hp => List.mem_cons_of_mem _ (List.mem_cons_of_mem _ (List.mem_cons_of_mem _ (List.mem_cons_of_mem _ hp)))
  have hd' := Nat.le_trans hd (by decide : 340 ≤ 345)
  have hu' := Nat.le_trans hu (by decide : 800 ≤ 850)
  cases a with
  | refused => exact hH.elim
  | unstr => exact hH.elim
  | val =>
    obtain ⟨g, rfl, la⟩ := hH
    exact spec_lHB hA hh hd' hu' hf hke B F X T N (la.mono km) fun h' tk F' N' => hQ v news h' tk F' (tn_same N' q1 q2 q3 q4 off) (fun p hp => hp) rfl
  | hook mk told =>
    obtain ⟨rfl, g, cm, tm, rfl, la, c1⟩ := hH
    exact spec_lR0 hA hh hd' hu' hf hke B F X T N (la.mono km) (c1.mono km) fun a T0 h' tk F' N' lt => hQ (.ref a) ((a, _) :: news) h' tk F' (tn_cons N' q1 q2 q3 q4 off lt) (fun p hp => List.mem_cons_of_mem _ hp) ⟨a, T0, tm, t, rfl, List.mem_cons_self⟩
  | made mk of told =>
    obtain ⟨rfl, g, cm, tm, c2, t2, rfl, la, c1, c3⟩ := hH
    exact spec_lMadeIn hA hh hd' hu' hf hke B F X T N (la.mono km) (c1.mono km) (c3.mono km) fun a T0 h' tk F' N' lt => hQ (.ref a) ((a, _) :: news) h' tk F' (tn_cons N' q1 q2 q3 q4 off lt) (fun p hp => List.mem_cons_of_mem _ hp) ⟨a, T0, tm, t, t2, rfl, List.mem_cons_self⟩
  | last mk of told =>
    obtain ⟨rfl, g, cm, tm, c2, t2, rfl, la, c1, c3⟩ := hH
    exact spec_lLastIn hA hh hd' hu' hf hke B F X T N (la.mono km) (c1.mono km) (c3.mono km) fun a T0 h' tk F' N' lt => hQ (.ref a) ((a, _) :: news) h' tk F' (tn_cons N' q1 q2 q3 q4 off lt) (fun p hp => List.mem_cons_of_mem _ hp) ⟨a, T0, tm, t, t2, rfl, List.mem_cons_self⟩
theorem spec_id {v : Value}
    (hA : A.frames = some (env :: outer)) (hh : A.handled = none) (hd : A.depth ≤ 340) (hu : A.units ≤ 800) (hf : env.frame = some L) (hke : env.scope.kind = .function)
    (B : Below A₀ base outer h₀) (F : Fr h₀ L s.heap m) (X : (Mine.hd.heap_39 w.params).In h₀) (T : Top p loose mean mg mb h₀)
    (N : News h₀ L s.heap news)
    (hQ : ∀ h' tk, Fr h₀ L h' m → News h₀ L h' news → Q v { s with heap := h', toks := tk }) :
    wpAny (model PROG w) A (call (.ref 194) [v] []) Q E s := by
  refine wp_le 340 800 hA hh hd hu ?_
  walk_at "MY:enter"
  (focus ((iterate 5 walk1)))
  exact hQ _ _ (by k_asm) (by k_asm)
theorem callOut0 {x : Addr} {hv v : Value} {a : Ans} (ha : a ≠ .unstr)
    (hA : A.frames = some (env :: outer)) (hh : A.handled = none) (hd : A.depth ≤ 340) (hu : A.units ≤ 800) (hf : env.frame = some L) (hke : env.scope.kind = .function)
    (B : Below A₀ base outer h₀) (F : Fr h₀ L s.heap m) (X : (Mine.hd.heap_39 w.params).In h₀) (T : Top p loose mean mg mb h₀)
    (N : TN h₀ s.heap L news) (hH : HandOut news x hv a)
    (hQ : ∀ r news' h' tk, Fr h₀ L h' m → TN h₀ h' L news' → (∀ p ∈ news, p ∈ news') → AnsIs news' r v a → Q r { s with heap := h', toks := tk }) :
    wpAny (model PROG w) A (call hv [v] []) Q E s := by
  obtain ⟨ta, tb, tc, td, N, q1, q2, q3, q4, off⟩ := N
  have km : ∀ p ∈ news, p ∈ (433, tabObj ta) :: (440, tabObj tb) :: (468, tabObj tc) :: (475, tabObj td) :: news := fun p hp => List.mem_cons_of_mem _ (List.mem_cons_of_mem _ (List.mem_cons_of_mem _ (List.mem_cons_of_mem _ hp)))
  have hd' := Nat.le_trans hd (by decide : 340 ≤ 345)
  have hu' := Nat.le_trans hu (by decide : 800 ≤ 850)
  cases a with
  | refused => exact hH.elim
  | unstr => exact absurd rfl ha
  | val =>
    obtain rfl := hH
    exact spec_id hA hh hd hu hf hke B F X T N fun h' tk F' N' => hQ v news h' tk F' (tn_same N' q1 q2 q3 q4 off) (fun p hp => hp) rfl
  | hook mk told =>
    obtain ⟨rfl, g, cm, tm, rfl, la, c1⟩ := hH
    exact spec_lR1 hA hh hd' hu' hf hke B F X T N (la.mono km) (c1.mono km) fun a T0 h' tk F' N' lt => hQ (.ref a) ((a, _) :: news) h' tk F' (tn_cons N' q1 q2 q3 q4 off lt) (fun p hp => List.mem_cons_of_mem _ hp) ⟨a, T0, tm, 0, rfl, List.mem_cons_self⟩
  | made mk of told =>
    obtain ⟨rfl, g, cm, tm, c2, t2, rfl, la, c1, c3⟩ := hH
    exact spec_lMadeOut hA hh hd' hu' hf hke B F X T N (la.mono km) (c1.mono km) (c3.mono km) fun a T0 h' tk F' N' lt => hQ (.ref a) ((a, _) :: news) h' tk F' (tn_cons N' q1 q2 q3 q4 off lt) (fun p hp => List.mem_cons_of_mem _ hp) ⟨a, T0, tm, 0, t2, rfl, List.mem_cons_self⟩
  | last mk of told =>
    obtain ⟨rfl, g, cm, tm, c2, t2, rfl, la, c1, c3⟩ := hH
    exact spec_lLastOut hA hh hd' hu' hf hke B F X T N (la.mono km) (c1.mono km) (c3.mono km) fun a T0 h' tk F' N' lt => hQ (.ref a) ((a, _) :: news) h' tk F' (tn_cons N' q1 q2 q3 q4 off lt) (fun p hp => List.mem_cons_of_mem _ hp) ⟨a, T0, tm, 0, t2, rfl, List.mem_cons_self⟩
local macro_rules | `(tactic| walk_at "getMethod ref") => `(tactic| (k_here; k_dflt (refine' kmu_own ?k1 ?k2 ?k3 ?k4 ?k5 ?_; (case k1 => k_asm); (case k2 => k_asm); (case k3 => k_inst); (case k4 => k_is); (case k5 => k_is))))
local macro_rules | `(tactic| walk_at "callWith ref") => `(tactic| (k_here; k_dflt (refine' callWith_M ?k1 ?k2 ?k3 ?k4 ?_; (case k1 => k_asm); (case k2 => k_asm); (case k3 => k_mem); (case k4 => k_is); k_whole)))
/-- get_structure_hook -/
theorem spec_getIn {C : Conv} {esO esI : List Ent} {ow : Bool} {mk : Int} {j : Kd} {t : Tok}
    (hA : A.frames = some (env :: outer)) (hh : A.handled = none) (hd : A.depth ≤ 326) (hu : A.units ≤ 660) (hf : env.frame = some L) (hke : env.scope.kind = .function)
    (B : Below A₀ base outer h₀) (F : Fr h₀ L s.heap m) (X : (Mine.hd.heap_39 w.params).In h₀) (T : Top p loose mean mg mb h₀)
    (N : TN h₀ s.heap L news) (hR : RowAt w news C esO esI ow mk)
    (hQ : ∀ hv news' h' tk, Fr h₀ L h' m → TN h₀ h' L news' → (∀ p ∈ news, p ∈ news') → HandIn news' hv j (ansIn esI ow mk j) → Q hv { s with heap := h', toks := tk })
    (hE : ansIn esI ow mk j = .refused → ∀ v G h' tk, Fr h₀ L G m → RaisedT base G (env :: outer) news (ErrAt j) v h' → E v { s with heap := h', toks := tk }) :
    wpAny (model PROG w) A (call (.ref 292) [.ref C.x, kdV j t] []) Q E s := by
  refine wp_le 326 660 hA hh hd hu ?_
  obtain ⟨ta, tb, tc, td, N, q1, q2, q3, q4, off⟩ := N
  have dI := hR.cv.dI
  obtain ⟨a1, a2, a3, a4, hdms⟩ := dI.dms
  have xms := dI.ms
  have xbm := dI.bm
  have hobj := hR.cv.obj
  rcases hobj with ⟨dx, fb, om, ov, ua, pv, dv, i1, i2, hk', ho, hd0, hov⟩ | ⟨dx, pv, dv, i1, i2, hk', ho, hd0⟩
  all_goals (
    walk_at "MY:enter"
    (focus ((iterate 14 walk1)))
    refine call_meth (by k_asm) (by k_mem) ?_
    refine spec_dwcI (by rfl) (by rfl) (Nat.le_of_ble_eq_true (by rfl)) (Nat.le_of_ble_eq_true (by rfl)) (by rfl) (by rfl) (by k_asm) (by k_asm) (by k_asm) (by k_asm) (tn_same (by k_asm) q1 q2 q3 q4 off) hR ?_ ?_
    · intro hv news' h2 tk2 F2 N2 sub2 hH
      obtain ⟨ta', tb', tc', td', N3, r1, r2, r3, r4, off'⟩ := N2
      (focus (walk1))
      rename News h₀ L _ _ => NN
      exact hQ hv news' _ _ (by k_asm) (tn_same NN r1 r2 r3 r4 off') sub2 hH
    · intro ha v G h2 tk2 F2 R2
      refine RaisedT.leave (by k_asm) (by rfl) F2 R2 ?_
      intro h3 R3
      exact hE ha v _ h3 tk2 (by k_asm) R3)
end
end
example {M : Model} {A : Around} {E Q : Value → Shared → Prop} {s : Shared} (h : wpAny M A (pure .none) Q E s) : wpAny M A (pure .none) Q E s := by
  w_top off
  first
    | (walk1; fail)
    | exact h
section
local macro_rules | `(tactic| walk_at "MY:mem") => `(tactic| first | exact List.mem_cons_self | (refine' List.mem_cons_of_mem _ ?_; walk_at "MY:mem") | assumption | ktr_member)
local macro_rules | `(tactic| walk_at "getMethod ref") => `(tactic| (k_here; k_dflt (refine' kmu_own ?k1 ?k2 ?k3 ?k4 ?k5 ?_; (case k1 => k_asm); (case k2 => k_asm); (case k3 => k_inst); (case k4 => k_is); (case k5 => k_is))))
local macro_rules | `(tactic| walk_at "callWith ref") => `(tactic| (k_here; k_dflt (refine' callWith_M ?k1 ?k2 ?k3 ?k4 ?_; (case k1 => k_asm); (case k2 => k_asm); (case k3 => k_mem); (case k4 => k_is); k_whole)))
def ansOut (es : List Ent) (ow : Bool) (mk : Int) (j : Kd) : Ans := match ansOut1 es ow mk j with
  | .unstr => ansOut1 es ow mk .non
  | a => a
theorem ansOut_of {es : List Ent} {ow : Bool} {mk : Int} {j : Kd} (h : ansOut1 es ow mk j ≠ .unstr) : ansOut es ow mk j = ansOut1 es ow mk j := by
  unfold ansOut; split
  · rename_i e; exact absurd e h
  · rfl
theorem ansOut_un {es : List Ent} {ow : Bool} {mk : Int} {j : Kd} (h : ansOut1 es ow mk j = .unstr) : ansOut es ow mk j = ansOut1 es ow mk .non := by
  unfold ansOut; rw [h]
section
variable {w : World} {A₀ A : Around} {base h₀ : Heap} {env : Env} {outer : List Env} {L : Addr} {m mg mb : Str → Option Value} {p : Program} {loose : List Str} {mean : ExcName → Option Value} {s : Shared} {Q E : Value → Shared → Prop} {news l : List (Addr × Obj)}
/-- get_unstructure_hook -/
theorem spec_getOut {C : Conv} {esO esI : List Ent} {ow : Bool} {mk : Int} {j : Kd} {t : Tok}
    (hA : A.frames = some (env :: outer)) (hh : A.handled = none) (hd : A.depth ≤ 326) (hu : A.units ≤ 660) (hf : env.frame = some L) (hke : env.scope.kind = .function)
    (B : Below A₀ base outer h₀) (F : Fr h₀ L s.heap m) (X : (Mine.hd.heap_39 w.params).In h₀) (T : Top p loose mean mg mb h₀)
    (N : TN h₀ s.heap L news) (hR : RowAt w news C esO esI ow mk)
    (hQ : ∀ hv news' h' tk, Fr h₀ L h' m → TN h₀ h' L news' → (∀ p ∈ news, p ∈ news') → HandOut news' C.x hv (ansOut1 esO ow mk j) → Q hv { s with heap := h', toks := tk }) :
    wpAny (model PROG w) A (call (.ref 262) [.ref C.x, kdV j t] []) Q E s := by
  refine wp_le 326 660 hA hh hd hu ?_
  obtain ⟨ta, tb, tc, td, N, q1, q2, q3, q4, off⟩ := N
  have dO := hR.cv.dO
  obtain ⟨a1, a2, a3, a4, hdms⟩ := dO.dms
  have xms := dO.ms
  have xbm := dO.bm
  have hobj := hR.cv.obj
  rcases hobj with ⟨dx, fb, om, ov, ua, pv, dv, i1, i2, hk', ho, hd0, hov⟩ | ⟨dx, pv, dv, i1, i2, hk', ho, hd0⟩
  all_goals (
    walk_at "MY:enter"
    (focus ((iterate 14 walk1)))
    refine call_meth (by k_asm) (by k_mem) ?_
    refine spec_dwcO (by rfl) (by rfl) (Nat.le_of_ble_eq_true (by rfl)) (Nat.le_of_ble_eq_true (by rfl)) (by rfl) (by rfl) (by k_asm) (by k_asm) (by k_asm) (by k_asm) (tn_same (by k_asm) q1 q2 q3 q4 off) hR ?_
    · intro hv news' h2 tk2 F2 N2 sub2 hH
      obtain ⟨ta', tb', tc', td', N3, r1, r2, r3, r4, off'⟩ := N2
      (focus (walk1))
      rename News h₀ L _ _ => NN
      exact hQ hv news' _ _ (by k_asm) (tn_same NN r1 r2 r3 r4 off') sub2 hH)
/-- structure -/
theorem spec_structure {C : Conv} {esO esI : List Ent} {ow : Bool} {mk : Int} {j : Kd} {t : Tok} {v : Value}
    (hA : A.frames = some (env :: outer)) (hh : A.handled = none) (hd : A.depth ≤ 326) (hu : A.units ≤ 660) (hf : env.frame = some L) (hke : env.scope.kind = .function)
    (B : Below A₀ base outer h₀) (F : Fr h₀ L s.heap m) (X : (Mine.hd.heap_39 w.params).In h₀) (T : Top p loose mean mg mb h₀)
    (N : TN h₀ s.heap L news) (hR : RowAt w news C esO esI ow mk)
    (hQ : ∀ r news' h' tk, Fr h₀ L h' m → TN h₀ h' L news' → (∀ p ∈ news, p ∈ news') → AnsIs news' r v (ansIn esI ow mk j) → Q r { s with heap := h', toks := tk })
    (hE : ansIn esI ow mk j = .refused → ∀ v G h' tk, Fr h₀ L G m → RaisedT base G (env :: outer) news (ErrAt j) v h' → E v { s with heap := h', toks := tk }) :
    wpAny (model PROG w) A (call (.ref 284) [.ref C.x, v, kdV j t] []) Q E s := by
  refine wp_le 326 660 hA hh hd hu ?_
  obtain ⟨ta, tb, tc, td, N, q1, q2, q3, q4, off⟩ := N
  have dI := hR.cv.dI
  obtain ⟨a1, a2, a3, a4, hdms⟩ := dI.dms
  have xms := dI.ms
  have xbm := dI.bm
  have hobj := hR.cv.obj
  rcases hobj with ⟨dx, fb, om, ov, ua, pv, dv, i1, i2, hk', ho, hd0, hov⟩ | ⟨dx, pv, dv, i1, i2, hk', ho, hd0⟩
  all_goals (
    walk_at "MY:enter"
    (focus ((iterate 15 walk1)))
    refine call_meth (by k_asm) (by k_mem) ?_
    refine spec_dwcI (by rfl) (by rfl) (Nat.le_of_ble_eq_true (by rfl)) (Nat.le_of_ble_eq_true (by rfl)) (by rfl) (by rfl) (by k_asm) (by k_asm) (by k_asm) (by k_asm) (tn_same (by k_asm) q1 q2 q3 q4 off) hR ?_ ?_
    · intro hv news' h2 tk2 F2 N2 sub2 hH
      obtain ⟨ta', tb', tc', td', N3, r1, r2, r3, r4, off'⟩ := N2
      obtain ⟨g, rfl, qq, uu, cc, la⟩ := hH.ref
      obtain ⟨oc, od, fdd, sl, mg⟩ := la.fn
      skip
      k_dflt (refine' callWith_F ?k1 ?_)
      (case k1 => exact FnAt.of (by k_asm) (List.mem_cons_of_mem _ (List.mem_cons_of_mem _ (List.mem_cons_of_mem _ (List.mem_cons_of_mem _ mg)))))
      (focus ((iterate 5 walk1)))
      refine ⟨FnAt.of (by k_asm) (List.mem_cons_of_mem _ (List.mem_cons_of_mem _ (List.mem_cons_of_mem _ (List.mem_cons_of_mem _ mg)))), ?_⟩
      (try dsimp only)
      refine callIn (by rfl) (by rfl) (Nat.le_of_ble_eq_true (by rfl)) (Nat.le_of_ble_eq_true (by rfl)) (by rfl) (by rfl) (by k_asm) (by k_asm) (by k_asm) (by k_asm) (tn_same (by k_asm) r1 r2 r3 r4 off') hH ?_
      intro r news2 h3 tk3 F3 N4 sub3 ans
      obtain ⟨ta2, tb2, tc2, td2, N5, u1, u2, u3, u4, off2⟩ := N4
      (focus (walk1))
      rename News h₀ L _ _ => NN
      exact hQ r news2 _ _ (by k_asm) (tn_same NN u1 u2 u3 u4 off2) (fun p hp => sub3 p (sub2 p hp)) ans
    · intro ha v G h2 tk2 F2 R2
      refine RaisedT.leave (by k_asm) (by rfl) F2 R2 ?_
      intro h3 R3
      exact hE ha v _ h3 tk2 (by k_asm) R3)
end
end
example {M : Model} {A : Around} {E Q : Value → Shared → Prop} {s : Shared} (h : wpAny M A (pure .none) Q E s) : wpAny M A (pure .none) Q E s := by
  w_top off
  first
    | (walk1; fail)
    | exact h
section
local macro_rules | `(tactic| walk_at "MY:mem") => `(tactic| first | exact List.mem_cons_self | (refine' List.mem_cons_of_mem _ ?_; walk_at "MY:mem") | assumption | ktr_member)
local macro_rules | `(tactic| walk_at "getMethod ref") => `(tactic| (k_here; k_dflt (refine' kmu_own ?k1 ?k2 ?k3 ?k4 ?k5 ?_; (case k1 => k_asm); (case k2 => k_asm); (case k3 => k_inst); (case k4 => k_is); (case k5 => k_is))))
local macro_rules | `(tactic| walk_at "callWith ref") => `(tactic| (k_here; k_dflt (refine' callWith_M ?k1 ?k2 ?k3 ?k4 ?_; (case k1 => k_asm); (case k2 => k_asm); (case k3 => k_mem); (case k4 => k_is); k_whole)))
section
variable {w : World} {A₀ A : Around} {base h₀ : Heap} {env : Env} {outer : List Env} {L : Addr} {m mg mb : Str → Option Value} {p : Program} {loose : List Str} {mean : ExcName → Option Value} {s : Shared} {Q E : Value → Shared → Prop} {news l : List (Addr × Obj)}
theorem spec_unstrN {C : Conv} {esO esI : List Ent} {ow : Bool} {mk : Int} {v : Value} {R : Result → Shared → Prop}
    (hA : A.frames = some (env :: outer)) (hh : A.handled = none) (hd : A.depth ≤ 326) (hu : A.units ≤ 660) (hf : env.frame = some L) (hke : env.scope.kind = .function)
    (B : Below A₀ base outer h₀) (F : Fr h₀ L s.heap m) (X : (Mine.hd.heap_39 w.params).In h₀) (T : Top p loose mean mg mb h₀)
    (N : TN h₀ s.heap L news) (hR : RowAt w news C esO esI ow mk) (hno : ansOut1 esO ow mk .non ≠ .unstr)
    (hQ : ∀ r news' h' tk, Fr h₀ L h' m → TN h₀ h' L news' → (∀ p ∈ news, p ∈ news') → AnsIs news' r v (ansOut1 esO ow mk .non) → R (.ok (.ret r)) { s with heap := h', toks := tk }) :
    codeAny (model PROG w) A (.call (.ref 239) ⟨[.ref C.x, v], []⟩) R s := by
  refine code_le 326 660 hA hh hd hu ?_
  obtain ⟨ta, tb, tc, td, N, q1, q2, q3, q4, off⟩ := N
  have dO := hR.cv.dO
  obtain ⟨a1, a2, a3, a4, hdms⟩ := dO.dms
  have xms := dO.ms
  have xbm := dO.bm
  have hobj := hR.cv.obj
  rcases hobj with ⟨dx, fb, om, ov, ua, pv, dv, i1, i2, hk', ho, hd0, hov⟩ | ⟨dx, pv, dv, i1, i2, hk', ho, hd0⟩
  all_goals (
    walk_at "MY:enter1"
    (focus ((iterate 15 walk1)))
    refine call_meth (by k_asm) (by k_mem) ?_
    refine spec_dwcO (j := .non) (t := 0) (by rfl) (by rfl) (Nat.le_of_ble_eq_true (by rfl)) (Nat.le_of_ble_eq_true (by rfl)) (by rfl) (by rfl) (by k_asm) (by k_asm) (by k_asm) (by k_asm) (tn_same (by k_asm) q1 q2 q3 q4 off) hR ?_
    intro hv news' h2 tk2 F2 N2 sub2 hH
    obtain ⟨ta', tb', tc', td', N3, r1, r2, r3, r4, off'⟩ := N2
    have hfn : ∃ g, hv = .ref g ∧ FnOk w news' g := by
      obtain ⟨g, e, h⟩ := hH.ref
      rcases h with rfl | h | ⟨_, _, _, h⟩
      · exact ⟨_, e, fnOkK (.inr (.inr (.inr (.inr rfl))))⟩
      · generalize ansOut1 esO ow mk .non = a at hH hno
        cases a with
        | unstr => exact absurd rfl hno
        | val => exact ⟨194, hH, fnOkK (.inr (.inr (.inr (.inr rfl))))⟩
        | refused => exact hH.elim
        | hook mk told => obtain ⟨_, g, _, _, e, h, _⟩ := hH; exact ⟨g, e, h.ok⟩
        | made mk of told => obtain ⟨_, g, _, _, _, _, e, h, _⟩ := hH; exact ⟨g, e, h.ok⟩
        | last mk of told => obtain ⟨_, g, _, _, _, _, e, h, _⟩ := hH; exact ⟨g, e, h.ok⟩
      · exact ⟨g, e, h.ok⟩
    obtain ⟨g, rfl, fg⟩ := hfn
    have mono : ∀ p ∈ news', p ∈ (433, tabObj ta') :: (440, tabObj tb') :: (468, tabObj tc') :: (475, tabObj td') :: news' := fun p hp => List.mem_cons_of_mem _ (List.mem_cons_of_mem _ (List.mem_cons_of_mem _ (List.mem_cons_of_mem _ hp)))
    skip
    k_dflt (refine' callWith_F ?k1 ?_)
    (case k1 => exact (fg.mono mono).at (by k_asm) (by k_asm) (by k_asm))
    (focus ((iterate 3 walk1)))
    refine ⟨(fg.mono mono).at (by k_asm) (by k_asm) (by k_asm), ?_⟩
    (try dsimp only)
    refine callOut0 hno (by rfl) (by rfl) (Nat.le_of_ble_eq_true (by rfl)) (Nat.le_of_ble_eq_true (by rfl)) (by rfl) (by rfl) (by k_asm) (by k_asm) (by k_asm) (by k_asm) (tn_same (by k_asm) r1 r2 r3 r4 off') hH ?_
    intro r news2 h3 tk3 F3 N4 sub3 ans
    obtain ⟨ta2, tb2, tc2, td2, N5, u1, u2, u3, u4, off2⟩ := N4
    (focus (walk1))
    rename News h₀ L _ _ => NN
    exact hQ r news2 _ _ (by k_asm) (tn_same NN u1 u2 u3 u4 off2) (fun p hp => sub3 p (sub2 p hp)) ans)
/-- unstructure -/
theorem spec_unstructure {C : Conv} {esO esI : List Ent} {ow : Bool} {mk : Int} {j : Kd} {t : Tok} {v : Value}
    (hA : A.frames = some (env :: outer)) (hh : A.handled = none) (hd : A.depth ≤ 322) (hu : A.units ≤ 620) (hf : env.frame = some L) (hke : env.scope.kind = .function)
    (B : Below A₀ base outer h₀) (F : Fr h₀ L s.heap m) (X : (Mine.hd.heap_39 w.params).In h₀) (T : Top p loose mean mg mb h₀)
    (N : TN h₀ s.heap L news) (hR : RowAt w news C esO esI ow mk) (hno : ansOut1 esO ow mk .non ≠ .unstr)
    (hQ : ∀ r news' h' tk, Fr h₀ L h' m → TN h₀ h' L news' → (∀ p ∈ news, p ∈ news') → AnsIs news' r v (ansOut esO ow mk j) → Q r { s with heap := h', toks := tk }) :
    wpAny (model PROG w) A (call (.ref 239) [.ref C.x, v, kdV j t] []) Q E s := by
  refine wp_le 322 620 hA hh hd hu ?_
  obtain ⟨ta, tb, tc, td, N, q1, q2, q3, q4, off⟩ := N
  have dO := hR.cv.dO
  obtain ⟨a1, a2, a3, a4, hdms⟩ := dO.dms
  have xms := dO.ms
  have xbm := dO.bm
  have hobj := hR.cv.obj
  rcases hobj with ⟨dx, fb, om, ov, ua, pv, dv, i1, i2, hk', ho, hd0, hov⟩ | ⟨dx, pv, dv, i1, i2, hk', ho, hd0⟩
  all_goals (
    walk_at "MY:enter"
    (focus ((iterate 15 walk1)))
    refine call_meth (by k_asm) (by k_mem) ?_
    refine spec_dwcO (by rfl) (by rfl) (Nat.le_of_ble_eq_true (by rfl)) (Nat.le_of_ble_eq_true (by rfl)) (by rfl) (by rfl) (by k_asm) (by k_asm) (by k_asm) (by k_asm) (tn_same (by k_asm) q1 q2 q3 q4 off) hR ?_
    intro hv news' h2 tk2 F2 N2 sub2 hH
    obtain ⟨ta', tb', tc', td', N3, r1, r2, r3, r4, off'⟩ := N2
    have mono : ∀ p ∈ news', p ∈ (433, tabObj ta') :: (440, tabObj tb') :: (468, tabObj tc') :: (475, tabObj td') :: news' := fun p hp => List.mem_cons_of_mem _ (List.mem_cons_of_mem _ (List.mem_cons_of_mem _ (List.mem_cons_of_mem _ hp)))
    by_cases hun : ansOut1 esO ow mk j = .unstr
    · rw [hun] at hH
      obtain ⟨g, rfl, mg⟩ := hH
      have mg2 := mono _ mg
      (focus ((iterate 5 walk1)))
      refine call_meth (by k_asm) (by k_mem) ?_
      refine spec_unstrN (by rfl) (by rfl) (Nat.le_of_ble_eq_true (by rfl)) (Nat.le_of_ble_eq_true (by rfl)) (by rfl) (by rfl) (by k_asm) (by k_asm) (by k_asm) (by k_asm) (tn_same (by k_asm) r1 r2 r3 r4 off') (hR.mono sub2) hno ?_
      intro r news2 h3 tk3 F3 N4 sub3 ans
      obtain ⟨ta2, tb2, tc2, td2, N5, u1, u2, u3, u4, off2⟩ := N4
      (focus (walk1))
      rename News h₀ L _ _ => NN
      exact hQ r news2 _ _ (by k_asm) (tn_same NN u1 u2 u3 u4 off2) (fun p hp => sub3 p (sub2 p hp)) (by rw [ansOut_un hun]; exact ans)
    have hfn : ∃ g, hv = .ref g ∧ FnOk w news' g := by
      obtain ⟨g, e, h⟩ := hH.ref
      rcases h with rfl | h | ⟨_, _, _, h⟩
      · exact ⟨_, e, fnOkK (.inr (.inr (.inr (.inr rfl))))⟩
      · generalize ansOut1 esO ow mk j = a at hH hun
        cases a with
        | unstr => exact absurd rfl hun
        | val => exact ⟨194, hH, fnOkK (.inr (.inr (.inr (.inr rfl))))⟩
        | refused => exact hH.elim
        | hook mk told => obtain ⟨_, g, _, _, e, h, _⟩ := hH; exact ⟨g, e, h.ok⟩
        | made mk of told => obtain ⟨_, g, _, _, _, _, e, h, _⟩ := hH; exact ⟨g, e, h.ok⟩
        | last mk of told => obtain ⟨_, g, _, _, _, _, e, h, _⟩ := hH; exact ⟨g, e, h.ok⟩
      · exact ⟨g, e, h.ok⟩
    obtain ⟨g, rfl, fg⟩ := hfn
    skip
    k_dflt (refine' callWith_F ?k1 ?_)
    (case k1 => exact (fg.mono mono).at (by k_asm) (by k_asm) (by k_asm))
    (focus ((iterate 3 walk1)))
    refine ⟨(fg.mono mono).at (by k_asm) (by k_asm) (by k_asm), ?_⟩
    (try dsimp only)
    refine callOut0 hun (by rfl) (by rfl) (Nat.le_of_ble_eq_true (by rfl)) (Nat.le_of_ble_eq_true (by rfl)) (by rfl) (by rfl) (by k_asm) (by k_asm) (by k_asm) (by k_asm) (tn_same (by k_asm) r1 r2 r3 r4 off') hH ?_
    intro r news2 h3 tk3 F3 N4 sub3 ans
    obtain ⟨ta2, tb2, tc2, td2, N5, u1, u2, u3, u4, off2⟩ := N4
    (focus (walk1))
    rename News h₀ L _ _ => NN
    exact hQ r news2 _ _ (by k_asm) (tn_same NN u1 u2 u3 u4 off2) (fun p hp => sub3 p (sub2 p hp)) (by rw [ansOut_of hun]; exact ans))
end
end
example {M : Model} {A : Around} {E Q : Value → Shared → Prop} {s : Shared} (h : wpAny M A (pure .none) Q E s) : wpAny M A (pure .none) Q E s := by
  w_top off
  first
    | (walk1; fail)
    | exact h
section
section
variable {prog : Program} {w : World} {A : Around} {E : Value → Shared → Prop} {s : Shared} {env : Env} {target : Expr} {body : List Stmt} {R : Result → Shared → Prop} {h₀ : Heap} {rg : Addr} {m₀ : Str → Option Value} {news : List (Addr × Obj)}
/-- the end of a turn, on a ground that may have turned -/
def TEnd (L : Addr) (s : Shared) (I : Addr) (it : Obj) (P : Heap → (Str → Option Value) → List (Addr × Obj) → Prop) (s' : Shared) : Prop :=
  ∃ g' h' tk m' news', s' = { s with heap := h', toks := tk } ∧ Fr g' L h' m' ∧ News g' L h' ((I, it) :: news') ∧ (∀ p ∈ news', p.1 ≠ I) ∧ P g' m' news'
def TPost (L : Addr) (s : Shared) (I : Addr) (it : Obj) (P : Heap → (Str → Option Value) → List (Addr × Obj) → Prop) (R : Result → Shared → Prop) (f : Flow) (s' : Shared) : Prop := match f with
  | .ret v => R (.ok (.ret v)) s'
  | .brk => R (.ok .next) s'
  | _ => TEnd L s I it P s'
theorem for_range (J : Nat → Heap → (Str → Option Value) → List (Addr × Obj) → Prop) {a b : Int} {t u v : Tok} {n : Nat}
    (hh : A.handled = none) (hr : IsRange s.heap rg a b 1 t u v) (hsmall : Builtin.Range.small a b 1 = true) (hn : Builtin.Range.rangeSize a b 1 = (n : Int))
    (F : Fr h₀ env.locals s.heap m₀) (N : News h₀ env.locals s.heap news) (hJ : J 0 h₀ m₀ news)
    (turn : ∀ I i k g m₁ news₁ h tk it, i < n → J i g m₁ news₁ → (∀ p ∈ news, p.1 < I) → (∀ p ∈ news₁, p.1 ≠ I) → it.cls = .type "range_iterator" → (∃ x y : Int, it.data = .fields #[rawInt x, rawInt y, rawInt 1]) → Fr g env.locals h m₁ → News g env.locals h ((I, it) :: news₁) →
      wpAny (model prog w) A (assign target env (.int (a + (i : Int)) k)) (fun _ s₂ => wpAny (model prog w) A (execs body env) (TPost env.locals s I it (J (i + 1)) R) (notedBy (model prog w) A env fun e s' => R (.error e) s') s₂)
        (notedBy (model prog w) A env fun e s' => R (.error e) s') { s with heap := h, toks := tk })
    (done : ∀ g m₁ news₁ h tk, J n g m₁ news₁ → Fr g env.locals h m₁ → News g env.locals h news₁ → R (.ok .next) { s with heap := h, toks := tk }) :
    wpAny (model prog w) A (pyIter (.ref rg)) (fun it s₂ => codeAny (model prog w) A (.forLoop target it body [] env) R s₂) E s := by
  refine wpAny_pyIter_range hr hsmall ?_
  rw [hn]
  have hI : ∀ p ∈ news, p.1 < s.heap.objs.size := fun p hp => Heap.lt_size (N p hp).1
  generalize hgI : s.heap.objs.size = I at hI ⊢
  have N1 : News h₀ env.locals (s.heap.push { cls := .type "range_iterator", data := .fields #[rawInt a, rawInt n, rawInt 1] }) ((I, { cls := .type "range_iterator", data := .fields #[rawInt a, rawInt n, rawInt 1] }) :: news) := hgI ▸ N.push F _
  refine codeAny_forLoop_any (fun k s' => ∃ i g m₁ news₁ h tk it, k = n - i ∧ i ≤ n ∧ s' = { s with heap := h, toks := tk } ∧ it = ({ cls := .type "range_iterator", data := .fields #[rawInt (a + (i : Int)), rawInt ((n : Int) - (i : Int)), rawInt 1] } : Obj) ∧ Fr g env.locals h m₁ ∧ News g env.locals h ((I, it) :: news₁) ∧ (∀ p ∈ news₁, p.1 ≠ I) ∧ J i g m₁ news₁) ?_ n
    ⟨0, h₀, m₀, news, _, s.toks, _, (Nat.sub_zero _).symm, Nat.zero_le _, rfl, rfl, F.push _, by simpa using N1, fun p hp => Nat.ne_of_lt (hI p hp), hJ⟩
  rintro k _ ⟨i, g, m₁, news₁, h, tk, it, rfl, hi, rfl, rfl, F₁, N₁, off, hJ₁⟩
  have It : IsRangeIter h I (a + (i : Int)) ((n : Int) - (i : Int)) 1 := (N₁ _ List.mem_cons_self).1
  have hIL := (N₁ _ List.mem_cons_self).2.1
  have hfree := (N₁ _ List.mem_cons_self).2.2
  by_cases hlt : i < n
  · refine wpAny_pyNext_range_item (s := { s with heap := h, toks := tk }) It (by omega) fun h' It' hs => ?_
    dsimp only
    have It2 : h'.get? I = some { cls := .type "range_iterator", data := .fields #[rawInt (a + ((i + 1 : Nat) : Int)), rawInt ((n : Int) - ((i + 1 : Nat) : Int)), rawInt 1] } := by
      have e1 : a + ((i + 1 : Nat) : Int) = a + (i : Int) + 1 := by omega
      have e2 : (n : Int) - ((i + 1 : Nat) : Int) = (n : Int) - (i : Int) - 1 := by omega
      rw [e1, e2]; exact It'
    generalize hit : ({ cls := .type "range_iterator", data := .fields #[rawInt (a + ((i + 1 : Nat) : Int)), rawInt ((n : Int) - ((i + 1 : Nat) : Int)), rawInt 1] } : Obj) = it' at It2
    have hc' : it'.cls = .type "range_iterator" := by rw [← hit]
    have F₂ : Fr g env.locals h' m₁ := F₁.change hs hIL hfree
    have N₂ : News g env.locals h' ((I, it') :: news₁) := fun p hp => by
      rcases List.mem_cons.mp hp with rfl | hp
      · exact ⟨It2, hIL, hfree⟩
      · have y := N₁ p (List.mem_cons_of_mem _ hp)
        exact ⟨(hs.2 _ (off p hp)).trans y.1, y.2⟩
    refine wp_letOwned (I := I) (n := "range_iterator") (it := it') It2 hc' (by decide) ?_
    refine wpAny_mono (turn I i _ g m₁ news₁ h' _ it' hlt hJ₁ hI off hc' ⟨_, _, by rw [← hit]⟩ F₂ N₂) (fun _ s₂ h₂ => wpAny_mono h₂ (fun f s₃ h₃ => ?_) fun _ _ e => e) fun _ _ e => e
    have fin : TEnd env.locals s I it' (J (i + 1)) s₃ → ∃ k, k < n - i ∧ ∃ i g m₁ news₁ h tk it, k = n - i ∧ i ≤ n ∧ s₃ = { s with heap := h, toks := tk } ∧ it = ({ cls := .type "range_iterator", data := .fields #[rawInt (a + (i : Int)), rawInt ((n : Int) - (i : Int)), rawInt 1] } : Obj) ∧ Fr g env.locals h m₁ ∧ News g env.locals h ((I, it) :: news₁) ∧ (∀ p ∈ news₁, p.1 ≠ I) ∧ J i g m₁ news₁ := by
      rintro ⟨g₃, hx, tk₃, m₃, news₃, rfl, F₃, N₃, off₃, hJ₃⟩
      exact ⟨n - (i + 1), by omega, i + 1, g₃, m₃, news₃, hx, tk₃, it', rfl, hlt, rfl, hit.symm, F₃, N₃, off₃, hJ₃⟩
    cases f with
    | next => exact fin h₃
    | cont => exact fin h₃
    | brk => exact h₃
    | ret v => exact h₃
  · obtain rfl : i = n := by omega
    refine wpAny_pyNext_range_end (s := { s with heap := h, toks := tk }) hh It (by omega) fun h' hs => ?_
    dsimp only
    refine wpAny_execs_nil (done g m₁ news₁ h' tk hJ₁ ?_ ?_)
    · exact ⟨F₁.ns.extBut hs hIL.symm, fun b o e => hs b o (fun q => by rw [q, hfree] at e; cases e) (F₁.keep b o e), F₁.above⟩
    · intro p hp
      have y := N₁ p (List.mem_cons_of_mem _ hp)
      exact ⟨hs _ _ (off p hp) y.1, y.2⟩
end
end
example {M : Model} {A : Around} {E Q : Value → Shared → Prop} {s : Shared} (h : wpAny M A (pure .none) Q E s) : wpAny M A (pure .none) Q E s := by
  w_top off
  first
    | (walk1; fail)
    | exact h
section
local macro_rules | `(tactic| walk_at "MY:mem") => `(tactic| first | exact List.mem_cons_self | (refine' List.mem_cons_of_mem _ ?_; walk_at "MY:mem") | assumption | ktr_member)
local macro_rules | `(tactic| walk_at "MY:enterS") => `(tactic| (
  refine wpAny_call ?_
  k_dflt (refine' code_defS ?k1 ?k2 ?k3 ?k4 ?k5 ?XB ?TB ?D ?T0 ?kA ?k6 ?k7 ?k8 ?k9 ?kB ?_ ?cK ?c2 ?c3 ?c4 ?c5)
  (case kA => exact rfl); (case k2 => k_asm); (case k1 => k_asm); (case XB => assumption); (case TB => assumption); (case D => assumption); (case T0 => first | assumption | exact KtsTurn.refl); (case k3 => k_asm); (case k4 => k_asm); (case k5 => k_asm); (case k6 => k_is); (case k7 => k_is); (case k8 => k_room); (case k9 => first | exact BindsTo.of_eq rfl | exact binds_K (by k_in) rfl (by k_is) rfl rfl rfl); (case kB => exact locs rfl); (case cK => first | rfl | assumption); (case c2 => exact rfl); (case c3 => exact rfl); (case c4 => exact rfl); (case c5 => decide)
  intro g' L' h' FG' F' N' B' X' T' D'
  (try dsimp only)))
section
variable {w : World} {A₀ A : Around} {base h₀ : Heap} {outer : List Env} {L a : Addr} {cn : Str} {cs : Scope} {ccd : Value} {m mg mb : Str → Option Value} {p : Program} {loose : List Str} {mean : ExcName → Option Value} {s : Shared} {Q E : Value → Shared → Prop} {news l : List (Addr × Obj)}
theorem spec_lawHook {C : Conv} {esO esI : List Ent} {ow : Bool} {mk : Int} {j : Kd} {t : Tok} {v : Value}
    (hA : A.frames = some (envOf cn cs L a ccd :: outer)) (hh : A.handled = none) (hd : A.depth ≤ 322) (hu : A.units ≤ 620) (hck : cs.kind = .function)
    (B : Below A₀ base outer h₀) (F : Fr h₀ L s.heap m) (X : (Mine.hd.heap_39 w.params).In h₀) (T : Top p loose mean mg mb h₀)
    (XB : (Mine.hd.heap_39 w.params).In base) (TB : Top p loose mean mg mb base) (D : KtsDicts (outer.filterMap (·.frame)) h₀)
    (N : TN h₀ s.heap L news) (hR : RowAt w news C esO esI ow mk)
    (hQ : ∀ r news' h₀' h' tk, KtsTurn (outer.filterMap (·.frame)) h₀ h₀' → Fr h₀' L h' m → TN h₀' h' L news' → Below A₀ base outer h₀' → (Mine.hd.heap_39 w.params).In h₀' → Top p loose mean mg mb h₀' → KtsDicts (outer.filterMap (·.frame)) h₀' →
      (∀ p ∈ news, p ∈ news') → AnsIs news' r v (ansIn esI ow mk j) → Q r { s with heap := h', toks := tk }) :
    wpAny (model PROG w) A (call (.ref 515) [.ref C.x, kdV j t, v] []) Q E s := by
  refine wp_le 322 620 hA hh hd hu ?_
  obtain ⟨ta, tb, tc, td, N, q1, q2, q3, q4, off⟩ := N
  have hobj := hR.cv.obj
  rcases hobj with ⟨dx, fb, om, ov, ua, pv, dv, i1, i2, hk', ho, hd0, hov⟩ | ⟨dx, pv, dv, i1, i2, hk', ho, hd0⟩
  all_goals (
    walk_at "MY:enterS"
    (focus ((iterate 13 walk1)))
    refine spec_getIn (by rfl) (by rfl) (Nat.le_of_ble_eq_true (by rfl)) (Nat.le_of_ble_eq_true (by rfl)) (by rfl) (by rfl) (by k_asm) (by k_asm) (by k_asm) (by k_asm) (tn_same (by k_asm) q1 q2 q3 q4 off) hR ?_ ?_
    rotate_left
    · intro hr v' G h2 tk2 FG2 R2
      obtain ⟨e, Dd, oD, ta', tb', tc', td', rfl, sm, R3, pe, r1, r2, r3, r4, lt⟩ := R2
      refine caughtX0 (KF := Mine.hd.heap_39 w.params) R3 FG2 (by k_asm) sm XB TB (by assumption) KtsTurn.refl (by k_is) (by kts_isx) ?_
      intro h3 g3 oe T3 F3 N3 P3 off3 B3 X3 TP3 D3
      (focus ((iterate 5 walk1)))
      rename News _ L _ _ => NN
      refine hQ _ news _ _ _ (by assumption) (by k_asm) (tn_same (nSub NN fun p hp => List.mem_cons_of_mem _ (List.mem_cons_of_mem _ hp)) r1 r2 r3 r4 off) (by assumption) (by assumption) (by assumption) (by assumption) (fun p hp => hp) ?_
      rw [hr]
      exact ⟨_, rfl⟩
    · intro hv news' h2 tk2 F2 N2 sub2 hH
      obtain ⟨ta', tb', tc', td', N3, r1, r2, r3, r4, off'⟩ := N2
      obtain ⟨g, rfl, qq, uu, cc, la⟩ := hH.ref
      obtain ⟨oc, od, fdd, sl, mg⟩ := la.fn
      (focus ((iterate 8 walk1)))
      k_dflt (refine' callWith_F ?k1 ?_)
      (case k1 => exact FnAt.of (by k_asm) (List.mem_cons_of_mem _ (List.mem_cons_of_mem _ (List.mem_cons_of_mem _ (List.mem_cons_of_mem _ mg)))))
      (focus ((iterate 5 walk1)))
      refine ⟨FnAt.of (by k_asm) (List.mem_cons_of_mem _ (List.mem_cons_of_mem _ (List.mem_cons_of_mem _ (List.mem_cons_of_mem _ mg)))), ?_⟩
      (try dsimp only)
      refine callIn (by rfl) (by rfl) (Nat.le_of_ble_eq_true (by rfl)) (Nat.le_of_ble_eq_true (by rfl)) (by rfl) (by rfl) (by k_asm) (by k_asm) (by k_asm) (by k_asm) (tn_same (by k_asm) r1 r2 r3 r4 off') hH ?_
      intro r news2 h3 tk3 F3 N4 sub3 ans
      obtain ⟨ta2, tb2, tc2, td2, N5, u1, u2, u3, u4, off2⟩ := N4
      (focus (walk1))
      rename News h₀ L _ _ => NN
      exact hQ r news2 _ _ _ KtsTurn.refl (by k_asm) (tn_same NN u1 u2 u3 u4 off2) (by assumption) (by assumption) (by assumption) (by assumption) (fun p hp => sub3 p (sub2 p hp)) ans)
end
end
example {M : Model} {A : Around} {E Q : Value → Shared → Prop} {s : Shared} (h : wpAny M A (pure .none) Q E s) : wpAny M A (pure .none) Q E s := by
  w_top off
  first
    | (walk1; fail)
    | exact h
section
theorem wp_leH {α : Type} {M : Model} {A : Around} {t : Sem α} {Q : α → Shared → Prop} {E : Value → Shared → Prop} {s : Shared} {fs : List Env} {ha : Option Value} (dp un : Nat)
    (hA : A.frames = some fs) (hh : A.handled = ha) (hd : A.depth ≤ dp) (hu : A.units ≤ un)
    (h : wpAny M ⟨ha, dp, some fs, A.guards, un⟩ t Q E s) : wpAny M A t Q E s := by
  obtain ⟨ha', d, f, g, u⟩ := A
  dsimp only at *
  subst hA hh
  exact fun Γ p hΓ => h Γ p ⟨hΓ.1, Nat.le_trans hΓ.2.1 hd, hΓ.2.2.1, hΓ.2.2.2.1, Nat.le_trans hΓ.2.2.2.2 hu⟩
theorem excInst {h : Heap} {e D : Addr} {oe oD : Obj} (he : h.get? e = some oe) (P : ExcP D oe) (hD : h.get? D = some oD) : PySem.W.InstAt h e oe 185 (some oD) := by
  obtain ⟨a, b, vs, c⟩ := P
  exact ⟨he, a, by unfold notCls; rw [c], by rw [b]; exact hD⟩
section
variable {w : World} {A : Around} {E : Value → Shared → Prop} {s : Shared} {e D : Addr} {oe oD : Obj} {name : Str} {v : Value} {mA : Str → Option Value} {expr : Bool} {Q : Value → Shared → Prop}
theorem errVal (X : (Mine.hd.heap_39 w.params).In s.heap) (he : s.heap.get? e = some oe) (P : ExcP D oe) (hD : s.heap.get? D = some oD) (dn : DictNs oD mA) (hm : mA name = some v) (hv : handedIn v = true) (hn : findIn (Mine.hd.heap_39 w.params) (.ref 185) name = some none)
    (h : Q v { s with toks := s.toks + 1 }) : wpAny (model PROG w) A (getAttr (.ref e) name expr) Q E s := by
  have hc : ∃ cd, clsIn (Mine.hd.heap_39 w.params) 185 = some cd ∧ cd.hasDict = true := ⟨_, rfl, rfl⟩
  obtain ⟨cd, hcd, hdict⟩ := hc
  refine exc_value X (excInst he P hD) rfl rfl rfl ?_ hv h
  unfold findObj PySem.W.ownOf
  rw [hcd, hn, Option.bind_some, Option.bind_some]
  dsimp only
  rw [Option.bind_some, Option.bind_some]
  dsimp only
  rw [hdict, if_pos rfl, dn.look hm]
  rfl
end
section
variable {w : World} {A₀ A : Around} {base h₀ : Heap} {env : Env} {outer : List Env} {L : Addr} {m mg mb : Str → Option Value} {p : Program} {loose : List Str} {mean : ExcName → Option Value} {s : Shared} {Q E : Value → Shared → Prop} {news l : List (Addr × Obj)}
/-- str(error) -/
theorem spec_errStr {e D : Addr} {oe oD : Obj} {x : Str} {t : Tok} {mA : Str → Option Value}
    (hA : A.frames = some (env :: outer)) (hd : A.depth ≤ 340) (hu : A.units ≤ 800) (hf : env.frame = some L) (hke : env.scope.kind = .function)
    (B : Below A₀ base outer h₀) (F : Fr h₀ L s.heap m) (X : (Mine.hd.heap_39 w.params).In h₀) (T : Top p loose mean mg mb h₀)
    (N : News h₀ L s.heap news) (he : (e, oe) ∈ news) (P : ExcP D oe) (hD : (D, oD) ∈ news) (dn : DictNs oD mA) (hm : mA "message" = some (.str x t))
    (hQ : ∀ h' tk, Fr h₀ L h' m → News h₀ L h' news → Q (.str x t) { s with heap := h', toks := tk }) :
    wpAny (model PROG w) A (call (.type "str") [.ref e] []) Q E s := by
  have Xs := X.keeps F.keep
  refine kso_call (K := Mine.hd.heap_39 w.params) (f := 182) ?_ Xs (excInst (N _ he).1 P (N _ hD).1) (by k_is) (by k_is) ?_
  · show A.units + 1 + 1 < cLine
    have : cLine = 9900 := rfl
    omega
  refine wp_leH 340 802 hA rfl hd (show A.units + 1 + 1 ≤ 802 by omega) ?_
  walk_at "MY:enter"
  (focus ((iterate 5 walk1)))
  refine errVal (by k_in) (News.get (by k_asm) he) P (News.get (by k_asm) hD) dn hm rfl (by k_is) ?_
  (focus (walk1))
  rename News h₀ L _ _ => NN
  exact hQ _ _ (by k_asm) NN
end
end
example {M : Model} {A : Around} {E Q : Value → Shared → Prop} {s : Shared} (h : wpAny M A (pure .none) Q E s) : wpAny M A (pure .none) Q E s := by
  w_top off
  first
    | (walk1; fail)
    | exact h
section
local macro_rules | `(tactic| walk_at "MY:mem") => `(tactic| first | exact List.mem_cons_self | (refine' List.mem_cons_of_mem _ ?_; walk_at "MY:mem") | assumption | ktr_member)
local macro_rules | `(tactic| walk_at "MY:enterS") => `(tactic| (
  refine wpAny_call ?_
  k_dflt (refine' code_defS ?k1 ?k2 ?k3 ?k4 ?k5 ?XB ?TB ?D ?T0 ?kA ?k6 ?k7 ?k8 ?k9 ?kB ?_ ?cK ?c2 ?c3 ?c4 ?c5)
  (case kA => exact rfl); (case k2 => k_asm); (case k1 => k_asm); (case XB => assumption); (case TB => assumption); (case D => assumption); (case T0 => first | assumption | exact KtsTurn.refl); (case k3 => k_asm); (case k4 => k_asm); (case k5 => k_asm); (case k6 => k_is); (case k7 => k_is); (case k8 => k_room); (case k9 => first | exact BindsTo.of_eq rfl | exact binds_K (by k_in) rfl (by k_is) rfl rfl rfl); (case kB => exact locs rfl); (case cK => first | rfl | assumption); (case c2 => exact rfl); (case c3 => exact rfl); (case c4 => exact rfl); (case c5 => decide)
  intro g' L' h' FG' F' N' B' X' T' D'
  (try dsimp only)))
section
variable {w : World} {A₀ A : Around} {base h₀ : Heap} {outer : List Env} {L a : Addr} {cn : Str} {cs : Scope} {ccd : Value} {m mg mb : Str → Option Value} {p : Program} {loose : List Str} {mean : ExcName → Option Value} {s : Shared} {Q E : Value → Shared → Prop} {news l : List (Addr × Obj)}
theorem text1 (j : Kd) : (Str.ofString "Unsupported type: ").length + (reprText (kdX j)).length ≤ sizeLine := by
  have h := kdX_fits j
  have a : (Str.ofString "Unsupported type: ").length = 18 := by decide +kernel
  rw [a, sizeLine_eq]; omega
theorem text2 (j : Kd) : (Str.ofString "Unsupported type: " ++ reprText (kdX j)).length + (Str.ofString ". Register a structure hook for it.").length ≤ sizeLine := by
  have h := kdX_fits j
  have a : (Str.ofString "Unsupported type: ").length = 18 := by decide +kernel
  have b : (Str.ofString ". Register a structure hook for it.").length = 35 := by decide +kernel
  rw [Str.length_append, a, b, sizeLine_eq]; omega
theorem kdX_beq (j : Kd) : (kdX j == kdX j) = true := by cases j <;> decide +kernel
theorem refText_beq (j : Kd) : (refText (kdX j) == (Str.ofString "Unsupported type: " ++ reprText (kdX j) ++ Str.ofString ". Register a structure hook for it.")) = true := by cases j <;> decide +kernel
theorem nb_of {es : List Ent} {ow : Bool} {mk : Int} {j : Kd} (h : ansIn es ow mk j = .refused) (tb : Ent.tB ∈ es) : anyNB j = false := by
  unfold ansIn at h
  cases hf : es.find? (·.hits j) with
  | none =>
    have := List.find?_eq_none.mp hf _ tb
    cases hb : anyNB j with
    | false => rfl
    | true => exact absurd hb this
  | some e =>
    rw [hf] at h
    cases e with
    | hook way k mk' =>
      exfalso
      dsimp only [hitIn] at h
      split at h <;> cases h
    | tO => cases h
    | tB => cases h
    | tC => cases h
theorem spec_lawIn {C : Conv} {esO esI : List Ent} {ow : Bool} {mk : Int} {j : Kd} {t : Tok} {v : Value}
    (hA : A.frames = some (envOf cn cs L a ccd :: outer)) (hh : A.handled = none) (hd : A.depth ≤ 322) (hu : A.units ≤ 620) (hck : cs.kind = .function)
    (B : Below A₀ base outer h₀) (F : Fr h₀ L s.heap m) (X : (Mine.hd.heap_39 w.params).In h₀) (T : Top p loose mean mg mb h₀)
    (XB : (Mine.hd.heap_39 w.params).In base) (TB : Top p loose mean mg mb base) (D : KtsDicts (outer.filterMap (·.frame)) h₀)
    (N : TN h₀ s.heap L news) (hR : RowAt w news C esO esI ow mk)
    (hQ : ∀ r news' h₀' h' tk, KtsTurn (outer.filterMap (·.frame)) h₀ h₀' → Fr h₀' L h' m → TN h₀' h' L news' → Below A₀ base outer h₀' → (Mine.hd.heap_39 w.params).In h₀' → Top p loose mean mg mb h₀' → KtsDicts (outer.filterMap (·.frame)) h₀' →
      (∀ p ∈ news, p ∈ news') → AnsIs news' r v (ansIn esI ow mk j) → Q r { s with heap := h', toks := tk }) :
    wpAny (model PROG w) A (call (.ref 508) [.ref C.x, kdV j t, v] []) Q E s := by
  refine wp_le 322 620 hA hh hd hu ?_
  obtain ⟨ta, tb, tc, td, N, q1, q2, q3, q4, off⟩ := N
  have hobj := hR.cv.obj
  rcases hobj with ⟨dx, fb, om, ov, ua, pv, dv, i1, i2, hk', ho, hd0, hov⟩ | ⟨dx, pv, dv, i1, i2, hk', ho, hd0⟩
  all_goals (
    walk_at "MY:enterS"
    (focus ((iterate 15 walk1)))
    refine spec_structure (by rfl) (by rfl) (Nat.le_of_ble_eq_true (by rfl)) (Nat.le_of_ble_eq_true (by rfl)) (by rfl) (by rfl) (by k_asm) (by k_asm) (by k_asm) (by k_asm) (tn_same (by k_asm) q1 q2 q3 q4 off) hR ?_ ?_
    rotate_left
    · intro hr v' G h2 tk2 FG2 R2
      obtain ⟨e, Dd, oD, ta', tb', tc', td', rfl, sm, R3, ⟨t5, tk5, pe⟩, r1, r2, r3, r4, lt⟩ := R2
      have nb := nb_of hr hR.tb
      simp only [kdV_str nb] at FG2 pe
      refine caughtXB (KF := Mine.hd.heap_39 w.params) R3 FG2 (by k_asm) sm XB TB (by assumption) KtsTurn.refl (by k_is) (by kts_isx) ?_
      intro h3 g3 oe tk3 T3 F3 N3 P3 off3 B3 X3 TP3 D3
      (focus ((iterate 11 walk1)))
      refine PySem.P.repr_of_str (hsz := Nat.le_trans (kdX_fits j) (by decide)) ?_
      skip
      refine PyProof.Rows.add_str (hsz := text1 j) ?_
      intro u1 k1
      (focus (walk1))
      refine PyProof.Rows.add_str (hsz := text2 j) ?_
      intro u2 k2
      (focus ((iterate 9 walk1)))
      refine errVal (by k_in) (News.get (by k_asm) (by k_mem)) P3 (News.get (by k_asm) (by k_mem)) pe rfl rfl (by k_is) ?_
      (focus (walk1))
      refine PyProof.Rows.eq_str ?_
      rw [kdX_beq]
      (focus ((iterate 10 walk1)))
      refine spec_errStr (by rfl) (Nat.le_of_ble_eq_true (by rfl)) (Nat.le_of_ble_eq_true (by rfl)) (by rfl) (by rfl) (by k_asm) (by k_asm) (by k_asm) (by k_asm) (by k_asm) (by k_mem) P3 (by k_mem) pe rfl ?_
      intro h4 tk4 F4 N4
      (focus (walk1))
      refine PyProof.Rows.eq_str ?_
      rw [refText_beq]
      (focus ((iterate 7 walk1)))
      rename News _ L _ _ => NN
      refine hQ _ news _ _ _ (by assumption) (by k_asm) (tn_same (nSub NN fun p hp => List.mem_cons_of_mem _ (List.mem_cons_of_mem _ hp)) r1 r2 r3 r4 off) (by assumption) (by assumption) (by assumption) (by assumption) (fun p hp => hp) ?_
      rw [hr]
      exact ⟨_, rfl⟩
    · intro r news2 h3 tk3 F3 N4 sub3 ans
      obtain ⟨ta2, tb2, tc2, td2, N5, u1, u2, u3, u4, off2⟩ := N4
      (focus (walk1))
      rename News h₀ L _ _ => NN
      exact hQ r news2 _ _ _ KtsTurn.refl (by k_asm) (tn_same NN u1 u2 u3 u4 off2) (by assumption) (by assumption) (by assumption) (by assumption) (fun p hp => sub3 p hp) ans)
end
end
example {M : Model} {A : Around} {E Q : Value → Shared → Prop} {s : Shared} (h : wpAny M A (pure .none) Q E s) : wpAny M A (pure .none) Q E s := by
  w_top off
  first
    | (walk1; fail)
    | exact h
section
local macro_rules | `(tactic| walk_at "MY:mem") => `(tactic| first | exact List.mem_cons_self | (refine' List.mem_cons_of_mem _ ?_; walk_at "MY:mem") | assumption | ktr_member)
/-- what a row's dict of hooks tells -/
def HooksAt (w : World) (l : List (Addr × Obj)) (od : Obj) (H : Kd → Option (Bool × Int)) : Prop :=
  ∃ kvs, od.IsDictOf (strKind PROG w) kvs ∧ ∀ k, anyNB k = false → match H k with
    | none => valueAt kvs (kdX k) = none
    | some (b, by') => ∃ a t1 t2, valueAt kvs (kdX k) = some (.ref a) ∧ (a, tupObj [.str (if b then "hook" else "made") t1, .int by' t2]) ∈ l
theorem HooksAt.mono {w : World} {l l' : List (Addr × Obj)} {od : Obj} {H : Kd → Option (Bool × Int)} (h : HooksAt w l od H) (k : ∀ p ∈ l, p ∈ l') : HooksAt w l' od H := by
  obtain ⟨kvs, a, b⟩ := h
  refine ⟨kvs, a, fun j hj => ?_⟩
  have := b j hj
  revert this
  cases H j with
  | none => exact id
  | some p => exact fun ⟨a, t1, t2, e, m⟩ => ⟨a, t1, t2, e, k _ m⟩
def dueIn (H : Kd → Option (Bool × Int)) (mark : Int) (j : Kd) : Ans := if anyNB j then .val else match H j with
  | some (true, by') => .hook by' (some j)
  | some (false, by') => .made by' j (some j)
  | none => if 0 ≤ mark then .last mark j (some j) else .refused
def dueOut (H : Kd → Option (Bool × Int)) (mark : Int) (j : Kd) : Ans := if anyB j then (if 0 ≤ mark then .last mark .non none else .val) else match H j with
  | some (true, by') => .hook by' none
  | some (false, by') => .made by' j none
  | none => if 0 ≤ mark then .last mark j none else .val
theorem kdX_any {j : Kd} (h : anyNB j = false) : (kdX j == Str.ofString "Any") = false := by cases j <;> first | (cases h; done) | decide +kernel
section
variable {w : World} {A₀ A : Around} {base h₀ : Heap} {env : Env} {outer : List Env} {L : Addr} {m mg mb : Str → Option Value} {p : Program} {loose : List Str} {mean : ExcName → Option Value} {s : Shared} {Q E : Value → Shared → Prop} {news l : List (Addr × Obj)}
theorem spec_dueIn {dh : Addr} {od : Obj} {H : Kd → Option (Bool × Int)} {mark : Int} {tm : Tok} {j : Kd} {t : Tok} {v : Value}
    (hA : A.frames = some (env :: outer)) (hh : A.handled = none) (hd : A.depth ≤ 330) (hu : A.units ≤ 700) (hf : env.frame = some L) (hke : env.scope.kind = .function)
    (B : Below A₀ base outer h₀) (F : Fr h₀ L s.heap m) (X : (Mine.hd.heap_39 w.params).In h₀) (T : Top p loose mean mg mb h₀)
    (N : TN h₀ s.heap L news) (hm : (dh, od) ∈ news) (hH : HooksAt w news od H) (lo : (dh == sysModules) = false)
    (hQ : ∀ r news' h' tk, Fr h₀ L h' m → TN h₀ h' L news' → (∀ p ∈ news, p ∈ news') → AnsIs news' r v (dueIn H mark j) → Q r { s with heap := h', toks := tk }) :
    wpAny (model PROG w) A (call (.ref 494) [.ref dh, .int mark tm, kdV j t, v] []) Q E s := by
  refine wp_le 330 700 hA hh hd hu ?_
  obtain ⟨ta, tb, tc, td, N, q1, q2, q3, q4, off⟩ := N
  cases hb : anyNB j with
  | true =>
    have : dueIn H mark j = .val := by unfold dueIn; rw [hb]; rfl
    rw [this] at hQ
    cases j
    case any =>
      dsimp only [kdV] at hQ ⊢
      walk_at "MY:enter"
      (focus ((iterate 22 walk1)))
      (focus (walk1))
      rename News h₀ L _ _ => NN
      exact hQ _ news _ _ (by k_asm) (tn_same NN q1 q2 q3 q4 off) (fun p hp => hp) rfl
    case non =>
      dsimp only [kdV] at hQ ⊢
      walk_at "MY:enter"
      (focus ((iterate 14 walk1)))
      (focus (walk1))
      rename News h₀ L _ _ => NN
      exact hQ _ news _ _ (by k_asm) (tn_same NN q1 q2 q3 q4 off) (fun p hp => hp) rfl
    all_goals cases hb
  | false =>
    obtain ⟨kvs, hod, hk⟩ := hH
    have hk := hk j hb
    rw [kdV_str hb]
    walk_at "MY:enter"
    (focus ((iterate 14 walk1)))
    refine PyProof.Rows.eq_str ?_
    rw [kdX_any hb]
    (focus ((iterate 11 walk1)))
    cases hj : H j with
    | none =>
      rw [hj] at hk
      dsimp only at hk
      refine kda_in (by k_asm) (by k_mem) hod lo (strKind_is _ _ _ _) false (by rw [hk]; rfl) ?_
      (focus ((iterate 10 walk1)))
      (focus ((iterate 2 walk1)))
      refine ite_both (fun hmk => ?_) (fun hmk => ?_)
      · (focus ((iterate 12 walk1)))
        k_dflt (refine' kup_newTuple ?F ?N ?_ ?z)
        (case F => k_asm); (case N => k_asm); (case z => kmk_size)
        intro tp h3 F3 N4 lt4
        (try dsimp only)
        (focus (walk1))
        rename News h₀ L _ _ => NN
        refine hQ _ ((tp, _) :: news) _ _ (by k_asm) (tn_cons NN q1 q2 q3 q4 off lt4) (fun p hp => List.mem_cons_of_mem _ hp) ?_
        unfold dueIn
        rw [hb, hj]
        dsimp only
        rw [if_neg Bool.false_ne_true, if_pos (of_decide_eq_true hmk)]
        exact ⟨tp, _, _, t, t, rfl, by simp only [toldV, kdV_str hb]; exact List.mem_cons_self⟩
      · (focus ((iterate 2 walk1)))
        rename News h₀ L _ _ => NN
        refine hQ _ news _ _ (by k_asm) (tn_same NN q1 q2 q3 q4 off) (fun p hp => hp) ?_
        unfold dueIn
        rw [hb, hj]
        dsimp only
        rw [if_neg Bool.false_ne_true, if_neg (fun h => hmk (decide_eq_true h))]
        exact ⟨_, rfl⟩
    | some q =>
      obtain ⟨bb, by'⟩ := q
      rw [hj] at hk
      obtain ⟨a, t1, t2, ev, ma⟩ := hk
      refine kda_in (by k_asm) (by k_mem) hod lo (strKind_is _ _ _ _) true (by rw [ev]; rfl) ?_
      (focus ((iterate 8 walk1)))
      refine kda_item (by k_asm) (by k_mem) hod (strKind_is _ _ _ _) ev ?_
      cases bb
      · have mb : (a, tupObj [.str (Str.ofString "made") t1, .int by' t2]) ∈ news := ma
        clear ma
        (focus ((iterate 14 walk1)))
        refine PyProof.Rows.eq_str ?_
        rw [show (Str.ofString "made" == Str.ofString "hook") = false by decide +kernel]
        (focus ((iterate 14 walk1)))
        k_dflt (refine' kup_newTuple ?F ?N ?_ ?z)
        (case F => k_asm); (case N => k_asm); (case z => kmk_size)
        intro tp h3 F3 N4 lt4
        (try dsimp only)
        (focus (walk1))
        rename News h₀ L _ _ => NN
        refine hQ _ ((tp, _) :: news) _ _ (by k_asm) (tn_cons NN q1 q2 q3 q4 off lt4) (fun p hp => List.mem_cons_of_mem _ hp) ?_
        unfold dueIn
        rw [hb, hj]
        dsimp only
        rw [if_neg Bool.false_ne_true]
        exact ⟨tp, _, _, t, t, rfl, by simp only [toldV, kdV_str hb]; exact List.mem_cons_self⟩
      · have mb : (a, tupObj [.str (Str.ofString "hook") t1, .int by' t2]) ∈ news := ma
        clear ma
        (focus ((iterate 14 walk1)))
        refine PyProof.Rows.eq_str ?_
        rw [show (Str.ofString "hook" == Str.ofString "hook") = true by decide +kernel]
        (focus ((iterate 12 walk1)))
        k_dflt (refine' kup_newTuple ?F ?N ?_ ?z)
        (case F => k_asm); (case N => k_asm); (case z => kmk_size)
        intro tp h3 F3 N4 lt4
        (try dsimp only)
        (focus (walk1))
        rename News h₀ L _ _ => NN
        refine hQ _ ((tp, _) :: news) _ _ (by k_asm) (tn_cons NN q1 q2 q3 q4 off lt4) (fun p hp => List.mem_cons_of_mem _ hp) ?_
        unfold dueIn
        rw [hb, hj]
        dsimp only
        rw [if_neg Bool.false_ne_true]
        exact ⟨tp, _, _, t, rfl, by simp only [toldV, kdV_str hb]; exact List.mem_cons_self⟩
end
end
example {M : Model} {A : Around} {E Q : Value → Shared → Prop} {s : Shared} (h : wpAny M A (pure .none) Q E s) : wpAny M A (pure .none) Q E s := by
  w_top off
  first
    | (walk1; fail)
    | exact h
section
local macro_rules | `(tactic| walk_at "MY:mem") => `(tactic| first | exact List.mem_cons_self | (refine' List.mem_cons_of_mem _ ?_; walk_at "MY:mem") | assumption | ktr_member)
theorem anyB_of {j : Kd} (h : anyNB j = false) : anyB j = false := by cases j <;> first | rfl | cases h
section
variable {w : World} {A₀ A : Around} {base h₀ : Heap} {env : Env} {outer : List Env} {L : Addr} {m mg mb : Str → Option Value} {p : Program} {loose : List Str} {mean : ExcName → Option Value} {s : Shared} {Q E : Value → Shared → Prop} {news l : List (Addr × Obj)}
theorem spec_dueOut {dh : Addr} {od : Obj} {H : Kd → Option (Bool × Int)} {mark : Int} {tm : Tok} {j : Kd} {t : Tok} {v : Value}
    (hA : A.frames = some (env :: outer)) (hh : A.handled = none) (hd : A.depth ≤ 330) (hu : A.units ≤ 700) (hf : env.frame = some L) (hke : env.scope.kind = .function)
    (B : Below A₀ base outer h₀) (F : Fr h₀ L s.heap m) (X : (Mine.hd.heap_39 w.params).In h₀) (T : Top p loose mean mg mb h₀)
    (N : TN h₀ s.heap L news) (hm : (dh, od) ∈ news) (hH : HooksAt w news od H) (hj0 : j ≠ .non) (lo : (dh == sysModules) = false)
    (hQ : ∀ r news' h' tk, Fr h₀ L h' m → TN h₀ h' L news' → (∀ p ∈ news, p ∈ news') → AnsIs news' r v (dueOut H mark j) → Q r { s with heap := h', toks := tk }) :
    wpAny (model PROG w) A (call (.ref 501) [.ref dh, .int mark tm, kdV j t, v] []) Q E s := by
  refine wp_le 330 700 hA hh hd hu ?_
  obtain ⟨ta, tb, tc, td, N, q1, q2, q3, q4, off⟩ := N
  cases hb : anyNB j with
  | true =>
    obtain rfl : j = .any := by cases j <;> first | rfl | (cases hb; done) | exact absurd rfl hj0
    have e : dueOut H mark .any = if 0 ≤ mark then .last mark .non none else .val := rfl
    rw [e] at hQ
    dsimp only [kdV] at hQ ⊢
    walk_at "MY:enter"
    (focus ((iterate 6 walk1)))
    refine PyProof.Rows.eq_str ?_
    rw [show (Str.ofString "Any" == Str.ofString "Any") = true by decide +kernel]
    (focus ((iterate 9 walk1)))
    (focus ((iterate 2 walk1)))
    refine ite_both (fun hmk => ?_) (fun hmk => ?_)
    · rw [if_pos (of_decide_eq_true hmk)] at hQ
      (focus ((iterate 10 walk1)))
      k_dflt (refine' kup_newTuple ?F ?N ?_ ?z)
      (case F => k_asm); (case N => k_asm); (case z => kmk_size)
      intro tp h3 F3 N4 lt4
      (try dsimp only)
      (focus (walk1))
      rename News h₀ L _ _ => NN
      exact hQ _ ((tp, _) :: news) _ _ (by k_asm) (tn_cons NN q1 q2 q3 q4 off lt4) (fun p hp => List.mem_cons_of_mem _ hp) ⟨tp, _, _, 0, 0, rfl, List.mem_cons_self⟩
    · rw [if_neg (fun h => hmk (decide_eq_true h))] at hQ
      (focus (walk1))
      (focus (walk1))
      rename News h₀ L _ _ => NN
      exact hQ _ news _ _ (by k_asm) (tn_same NN q1 q2 q3 q4 off) (fun p hp => hp) rfl
  | false =>
    obtain ⟨kvs, hod, hk⟩ := hH
    have hk := hk j hb
    rw [kdV_str hb]
    walk_at "MY:enter"
    (focus ((iterate 6 walk1)))
    refine PyProof.Rows.eq_str ?_
    rw [kdX_any hb]
    (focus ((iterate 9 walk1)))
    cases hj : H j with
    | none =>
      rw [hj] at hk
      dsimp only at hk
      refine kda_in (by k_asm) (by k_mem) hod lo (strKind_is _ _ _ _) false (by rw [hk]; rfl) ?_
      (focus ((iterate 10 walk1)))
      (focus ((iterate 2 walk1)))
      refine ite_both (fun hmk => ?_) (fun hmk => ?_)
      · (focus ((iterate 10 walk1)))
        k_dflt (refine' kup_newTuple ?F ?N ?_ ?z)
        (case F => k_asm); (case N => k_asm); (case z => kmk_size)
        intro tp h3 F3 N4 lt4
        (try dsimp only)
        (focus (walk1))
        rename News h₀ L _ _ => NN
        refine hQ _ ((tp, _) :: news) _ _ (by k_asm) (tn_cons NN q1 q2 q3 q4 off lt4) (fun p hp => List.mem_cons_of_mem _ hp) ?_
        unfold dueOut
        rw [hj]
        dsimp only
        rw [anyB_of hb, if_neg Bool.false_ne_true, if_pos (of_decide_eq_true hmk)]
        exact ⟨tp, _, _, t, t, rfl, by simp only [toldV, kdV_str hb]; exact List.mem_cons_self⟩
      · (focus (walk1))
        (focus (walk1))
        rename News h₀ L _ _ => NN
        refine hQ _ news _ _ (by k_asm) (tn_same NN q1 q2 q3 q4 off) (fun p hp => hp) ?_
        unfold dueOut
        rw [hj]
        dsimp only
        rw [anyB_of hb, if_neg Bool.false_ne_true, if_neg (fun h => hmk (decide_eq_true h))]
        rfl
    | some q =>
      obtain ⟨bb, by'⟩ := q
      rw [hj] at hk
      obtain ⟨a, t1, t2, ev, ma⟩ := hk
      refine kda_in (by k_asm) (by k_mem) hod lo (strKind_is _ _ _ _) true (by rw [ev]; rfl) ?_
      (focus ((iterate 8 walk1)))
      refine kda_item (by k_asm) (by k_mem) hod (strKind_is _ _ _ _) ev ?_
      cases bb
      · have mb : (a, tupObj [.str (Str.ofString "made") t1, .int by' t2]) ∈ news := ma
        clear ma
        (focus ((iterate 14 walk1)))
        refine PyProof.Rows.eq_str ?_
        rw [show (Str.ofString "made" == Str.ofString "hook") = false by decide +kernel]
        (focus ((iterate 12 walk1)))
        k_dflt (refine' kup_newTuple ?F ?N ?_ ?z)
        (case F => k_asm); (case N => k_asm); (case z => kmk_size)
        intro tp h3 F3 N4 lt4
        (try dsimp only)
        (focus (walk1))
        rename News h₀ L _ _ => NN
        refine hQ _ ((tp, _) :: news) _ _ (by k_asm) (tn_cons NN q1 q2 q3 q4 off lt4) (fun p hp => List.mem_cons_of_mem _ hp) ?_
        unfold dueOut
        rw [hj]
        dsimp only
        rw [anyB_of hb, if_neg Bool.false_ne_true]
        exact ⟨tp, _, _, t, t, rfl, by simp only [toldV, kdV_str hb]; exact List.mem_cons_self⟩
      · have mb : (a, tupObj [.str (Str.ofString "hook") t1, .int by' t2]) ∈ news := ma
        clear ma
        (focus ((iterate 14 walk1)))
        refine PyProof.Rows.eq_str ?_
        rw [show (Str.ofString "hook" == Str.ofString "hook") = true by decide +kernel]
        (focus ((iterate 10 walk1)))
        k_dflt (refine' kup_newTuple ?F ?N ?_ ?z)
        (case F => k_asm); (case N => k_asm); (case z => kmk_size)
        intro tp h3 F3 N4 lt4
        (try dsimp only)
        (focus (walk1))
        rename News h₀ L _ _ => NN
        refine hQ _ ((tp, _) :: news) _ _ (by k_asm) (tn_cons NN q1 q2 q3 q4 off lt4) (fun p hp => List.mem_cons_of_mem _ hp) ?_
        unfold dueOut
        rw [hj]
        dsimp only
        rw [anyB_of hb, if_neg Bool.false_ne_true]
        exact ⟨tp, _, _, t, rfl, by simp only [toldV, kdV_str hb]; exact List.mem_cons_self⟩
end
end
example {M : Model} {A : Around} {E Q : Value → Shared → Prop} {s : Shared} (h : wpAny M A (pure .none) Q E s) : wpAny M A (pure .none) Q E s := by
  w_top off
  first
    | (walk1; fail)
    | exact h
section
open PySem.Spec PySem.SeqAt PyProof.V
def toldD : Option Kd → List PyData
  | some j => [kdD j]
  | none => []
def ansD (d : PyData) : Ans → PyData
  | .val => d
  | .refused => .str "refused"
  | .unstr => .none
  | .hook mk told => .tuple ([.str "hook", .int mk] ++ toldD told ++ [d])
  | .made mk of told => .tuple ([.str "made", .int mk, kdD of] ++ toldD told ++ [d])
  | .last mk of told => .tuple ([.str "last", .int mk, kdD of] ++ toldD told ++ [d])
theorem told_lay (o : Option Kd) (k : Int) : PyData.canLayAll0 (toldD o ++ [.list [.int k]]) = true := by
  cases o with
  | none => simp [toldD, PyData.canLayAll0, PyData.canLay0]
  | some j => simp [toldD, PyData.canLayAll0, PyData.canLay0, kd_lay]
theorem told_depth (o : Option Kd) (k : Int) : PyData.depthAll (toldD o ++ [.list [.int k]]) ≤ 1 := by
  cases o with
  | none => simp [toldD, PyData.depthAll, PyData.depth]
  | some j => simp [toldD, PyData.depthAll, PyData.depth, kd_depth]
theorem told_mix (o : Option Kd) (k : Int) : noMixAll (toldD o ++ [.list [.int k]]) (toldD o ++ [.list [.int k]]) = true := by
  cases o with
  | none => simp [toldD, noMixAll, noMix]
  | some j => simp [toldD, noMixAll, noMix, kd_mix]
theorem txt_lay : PyData.canLay0 (.str "hook") = true ∧ PyData.canLay0 (.str "made") = true ∧ PyData.canLay0 (.str "last") = true ∧ PyData.canLay0 (.str "refused") = true := by decide +kernel
theorem ansD_shaped (a : Ans) (k : Int) : shaped (ansD (.list [.int k]) a) = true := by
  obtain ⟨t1, t2, t3, t4⟩ := txt_lay
  unfold shaped
  rw [Bool.and_eq_true, decide_eq_true_eq]
  cases a with
  | val => simp [ansD, PyData.canLay0, PyData.canLayAll0, PyData.depth, PyData.depthAll]
  | refused => exact ⟨t4, by simp [ansD, PyData.depth]⟩
  | unstr => simp [ansD, PyData.canLay0, PyData.depth]
  | hook mk told =>
    have h1 := told_lay told k
    have h2 := told_depth told k
    simp only [ansD, List.cons_append, List.nil_append, PyData.canLay0, PyData.canLayAll0, PyData.depth, PyData.depthAll, Bool.and_eq_true, h1] at *
    exact ⟨⟨t1, trivial, trivial⟩, by omega⟩
  | made mk of told =>
    have h1 := told_lay told k
    have h2 := told_depth told k
    simp only [ansD, List.cons_append, List.nil_append, PyData.canLay0, PyData.canLayAll0, PyData.depth, PyData.depthAll, Bool.and_eq_true, h1, kd_lay, kd_depth] at *
    exact ⟨⟨t2, trivial, trivial, trivial⟩, by omega⟩
  | last mk of told =>
    have h1 := told_lay told k
    have h2 := told_depth told k
    simp only [ansD, List.cons_append, List.nil_append, PyData.canLay0, PyData.canLayAll0, PyData.depth, PyData.depthAll, Bool.and_eq_true, h1, kd_lay, kd_depth] at *
    exact ⟨⟨t3, trivial, trivial, trivial⟩, by omega⟩
theorem ansD_mix (a : Ans) (k : Int) : noMix (ansD (.list [.int k]) a) (ansD (.list [.int k]) a) = true := by
  cases a with
  | val => simp [ansD, noMix, noMixAll]
  | refused => simp [ansD, noMix]
  | unstr => simp [ansD, noMix]
  | hook mk told =>
    have h1 := told_mix told k
    simp only [ansD, List.cons_append, List.nil_append, noMix, noMixAll, Bool.true_and, h1]
  | made mk of told =>
    have h1 := told_mix told k
    simp only [ansD, List.cons_append, List.nil_append, noMix, noMixAll, Bool.true_and, h1, kd_mix]
  | last mk of told =>
    have h1 := told_mix told k
    simp only [ansD, List.cons_append, List.nil_append, noMix, noMixAll, Bool.true_and, h1, kd_mix]
theorem told_reads {h : Heap} {v : Value} {d : PyData} {S : List Addr} (r : Reads h v d S) (o : Option Kd) (t : Tok) : ∃ S', ReadsAll h (toldV o t ++ [v]) (toldD o ++ [d]) S' := by
  cases o with
  | none => exact ⟨_, ReadsAll.cons r ReadsAll.nil⟩
  | some j => exact ⟨_, ReadsAll.cons (kd_reads h j t) (ReadsAll.cons r ReadsAll.nil)⟩
theorem ans_reads {h : Heap} {l : List (Addr × Obj)} {r v : Value} {a : Ans} {d : PyData} {S : List Addr} (rv : Reads h v d S) (hl : ∀ p ∈ l, h.get? p.1 = some p.2) (ha : AnsIs l r v a) : ∃ S', Reads h r (ansD d a) S' := by
  cases a with
  | val => cases ha; exact ⟨_, rv⟩
  | refused => obtain ⟨t, rfl⟩ := ha; exact ⟨_, Reads.str _ _⟩
  | unstr => exact ha.elim
  | hook mk told =>
    obtain ⟨a, T0, tm, t, rfl, m⟩ := ha
    obtain ⟨S', R'⟩ := told_reads rv told t
    exact ⟨_, Reads.tuple (hl _ m) rfl rfl (by simpa using ReadsAll.cons (Reads.str _ T0) (ReadsAll.cons (Reads.int mk tm) R'))⟩
  | made mk of told =>
    obtain ⟨a, T0, tm, t, t2, rfl, m⟩ := ha
    obtain ⟨S', R'⟩ := told_reads rv told t
    exact ⟨_, Reads.tuple (hl _ m) rfl rfl (by simpa using ReadsAll.cons (Reads.str _ T0) (ReadsAll.cons (Reads.int mk tm) (ReadsAll.cons (kd_reads h of t2) R')))⟩
  | last mk of told =>
    obtain ⟨a, T0, tm, t, t2, rfl, m⟩ := ha
    obtain ⟨S', R'⟩ := told_reads rv told t
    exact ⟨_, Reads.tuple (hl _ m) rfl rfl (by simpa using ReadsAll.cons (Reads.str _ T0) (ReadsAll.cons (Reads.int mk tm) (ReadsAll.cons (kd_reads h of t2) R')))⟩
section
variable {w : World} {A : Around} {E : Value → Shared → Prop} {s : Shared} {Q : Value → Shared → Prop}
/-- two answers of one kind to one value are not unequal -/
theorem ans_ne {l l' : List (Addr × Obj)} {r r' : Value} {lv : Addr} {a : Ans} {k : Int} {t : Tok} {n : Nat} (hl : ∀ p ∈ l, s.heap.get? p.1 = some p.2) (hl' : ∀ p ∈ l', s.heap.get? p.1 = some p.2) (hv : (lv, W.listOf #[.int k t] n) ∈ l)
    (h1 : AnsIs l r (.ref lv) a) (h2 : AnsIs l' r' (.ref lv) a) (hu : A.units + 64 < cLine) (h : Q (.bool false) s) : wpAny (model PROG w) A (compareOp .NotEq r r') Q E s := by
  have rv : Reads s.heap (.ref lv) (.list [.int k]) _ := Reads.list (hl _ hv) rfl rfl (ReadsAll.cons (Reads.int k t) ReadsAll.nil)
  obtain ⟨S1, R1⟩ := ans_reads rv hl h1
  obtain ⟨S2, R2⟩ := ans_reads rv hl' h2
  exact ne_dataH_same R1 R2 (ansD_shaped a k) (ansD_shaped a k) hu (ansD_mix a k) (by rw [Spec.same_self]; exact h)
end
end
example {M : Model} {A : Around} {E Q : Value → Shared → Prop} {s : Shared} (h : wpAny M A (pure .none) Q E s) : wpAny M A (pure .none) Q E s := by
  w_top off
  first
    | (walk1; fail)
    | exact h
section
local macro_rules | `(tactic| walk_at "MY:mem") => `(tactic| first | exact List.mem_cons_self | (refine' List.mem_cons_of_mem _ ?_; walk_at "MY:mem") | assumption | ktr_member)
theorem kd_isnone {w : World} {A : Around} {E : Value → Shared → Prop} {s : Shared} {Q : Value → Shared → Prop} {j : Kd} {t : Tok} (h : Q (.bool (decide (j = .non))) s) : wpAny (model PROG w) A (compareOp .Is (kdV j t) .none) Q E s := by
  cases j <;> exact wpAny_pure h
section
variable {w : World} {A₀ A : Around} {base h₀ : Heap} {env : Env} {outer : List Env} {L : Addr} {m mg mb : Str → Option Value} {p : Program} {loose : List Str} {mean : ExcName → Option Value} {s : Shared} {Q E : Value → Shared → Prop} {news l : List (Addr × Obj)}
theorem spec_kinds
    (hA : A.frames = some (env :: outer)) (hh : A.handled = none) (hd : A.depth ≤ 330) (hu : A.units ≤ 700) (hf : env.frame = some L) (hke : env.scope.kind = .function)
    (B : Below A₀ base outer h₀) (F : Fr h₀ L s.heap m) (X : (Mine.hd.heap_39 w.params).In h₀) (T : Top p loose mean mg mb h₀)
    (N : News h₀ L s.heap news)
    (hQ : ∀ lst t1 t2 t3 t4 t5 n h' tk, Fr h₀ L h' m → News h₀ L h' ((lst, W.listOf #[.str "north" t1, .str "east" t2, .str "south" t3, .str "west" t4, .str "Any" t5, .none] n) :: news) → (∀ q ∈ news, @LT.lt Nat _ q.1 lst) → Q (.ref lst) { s with heap := h', toks := tk }) :
    wpAny (model PROG w) A (call (.ref 424) [] []) Q E s := by
  refine wp_le 330 700 hA hh hd hu ?_
  walk_at "MY:enter"
  (focus ((iterate 17 walk1)))
  k_dflt (refine' newList_K ?k1 ?k2 ?_; (case k1 => k_asm); (case k2 => k_asm))
  intro l' h2 F2 N2 lt
  (focus (walk1))
  rename News h₀ L _ _ => NN
  exact hQ l' _ _ _ _ _ _ _ _ (by k_asm) NN lt
end
/-- the kind at a place -/
def kdAt : Nat → Kd
  | 0 => .n
  | 1 => .e
  | 2 => .s
  | 3 => .w
  | 4 => .any
  | _ => .non
theorem kd_item {i : Nat} (h : i < 6) (t1 t2 t3 t4 t5 : Tok) : ∃ t, (#[Value.str "north" t1, .str "east" t2, .str "south" t3, .str "west" t4, .str "Any" t5, .none] : Array Value)[((i : Nat) : Int).toNat]? = some (kdV (kdAt i) t) := by
  rw [Int.toNat_natCast]
  match i, h with
  | 0, _ => exact ⟨_, rfl⟩
  | 1, _ => exact ⟨_, rfl⟩
  | 2, _ => exact ⟨_, rfl⟩
  | 3, _ => exact ⟨_, rfl⟩
  | 4, _ => exact ⟨_, rfl⟩
  | 5, _ => exact ⟨0, rfl⟩
/-- a ledger without one place -/
def but (I : Addr) (l : List (Addr × Obj)) : List (Addr × Obj) := l.filter fun p => p.1 != I
theorem mem_but {I : Addr} {l : List (Addr × Obj)} {p : Addr × Obj} : p ∈ but I l ↔ p ∈ l ∧ p.1 ≠ I := by
  unfold but
  rw [List.mem_filter]
  simp
theorem tabQ_but {h₀ h : Heap} {L I : Addr} {it : Obj} {x y z : Value} {q : Str} {ps : Array Value} {l : List (Addr × Obj)} (T : TabQ q ps l) (N : News h₀ L h l) (hI : h.get? I = some it) (hd : it.data = .fields #[x, y, z]) (hy : ∀ a t, y ≠ .str a t) : TabQ q ps (but I l) := by
  refine ⟨T.1, fun pos cv h => ?_⟩
  obtain ⟨c', oc, vs, t, e, m, d, v⟩ := T.2 pos cv h
  refine ⟨c', oc, vs, t, e, mem_but.mpr ⟨m, fun z => ?_⟩, d, v⟩
  have h1 := (N _ m).1
  dsimp only at z h1
  rw [z, hI] at h1
  cases h1
  rw [hd] at d
  cases d
  exact hy _ _ (Option.some.inj v)
theorem tn_but {h₀ h : Heap} {L I : Addr} {it : Obj} {x y z : Value} {l : List (Addr × Obj)} (N : TN h₀ h L l) (hI : (I, it) ∈ l) (hd : it.data = .fields #[x, y, z]) (hy : ∀ a t, y ≠ .str a t) : TN h₀ h L (but I l) := by
  obtain ⟨ta, tb, tc, td, N, q1, q2, q3, q4, off⟩ := N
  have Nl : News h₀ L h l := nSub N fun p hp => List.mem_cons_of_mem _ (List.mem_cons_of_mem _ (List.mem_cons_of_mem _ (List.mem_cons_of_mem _ hp)))
  have g := (Nl _ hI).1
  refine ⟨ta, tb, tc, td, nSub N fun p hp => ?_, tabQ_but q1 Nl g hd hy, tabQ_but q2 Nl g hd hy, tabQ_but q3 Nl g hd hy, tabQ_but q4 Nl g hd hy, fun p hp => off p (mem_but.mp hp).1⟩
  simp only [List.mem_cons] at hp ⊢
  rcases hp with h | h | h | h | h
  · simp only [h, true_or]
  · simp only [h, true_or, or_true]
  · simp only [h, true_or, or_true]
  · simp only [h, true_or, or_true]
  · simp only [(mem_but.mp h).1, or_true]
theorem tn_with {h₀ h : Heap} {L I : Addr} {it : Obj} {l : List (Addr × Obj)} {ta tb tc td : Array Value} (N : News h₀ L h ((I, it) :: (433, tabObj ta) :: (440, tabObj tb) :: (468, tabObj tc) :: (475, tabObj td) :: l))
    (q1 : TabQ (qLam "_law_last_out") ta l) (q2 : TabQ (qLam "_law_last_in") tb l) (q3 : TabQ (qLam "_law_made_in") tc l) (q4 : TabQ (qLam "_law_made_out") td l) (off : ∀ p ∈ l, p.1 ≠ 433 ∧ p.1 ≠ 440 ∧ p.1 ≠ 468 ∧ p.1 ≠ 475)
    (hI : ∀ p ∈ (433, tabObj ta) :: (440, tabObj tb) :: (468, tabObj tc) :: (475, tabObj td) :: l, p.1 ≠ I) : TN h₀ h L ((I, it) :: l) := by
  have km : ∀ p ∈ l, p ∈ (I, it) :: l := fun p hp => List.mem_cons_of_mem _ hp
  refine ⟨ta, tb, tc, td, nSub N fun p hp => ?_, q1.mono km, q2.mono km, q3.mono km, q4.mono km, List.forall_mem_cons.mpr ⟨⟨?_, ?_, ?_, ?_⟩, off⟩⟩
  · simp only [List.mem_cons] at hp ⊢
    rcases hp with h | h | h | h | h | h <;> simp only [h, true_or, or_true]
  · exact Ne.symm (hI (433, tabObj ta) (by k_mem))
  · exact Ne.symm (hI (440, tabObj tb) (by k_mem))
  · exact Ne.symm (hI (468, tabObj tc) (by k_mem))
  · exact Ne.symm (hI (475, tabObj td) (by k_mem))
end
example {M : Model} {A : Around} {E Q : Value → Shared → Prop} {s : Shared} (h : wpAny M A (pure .none) Q E s) : wpAny M A (pure .none) Q E s := by
  w_top off
  first
    | (walk1; fail)
    | exact h
section
local macro_rules | `(tactic| walk_at "MY:mem") => `(tactic| first | exact List.mem_cons_self | (refine' List.mem_cons_of_mem _ ?_; walk_at "MY:mem") | assumption | ktr_member)
local macro_rules | `(tactic| walk_at "eval Name") => `(tactic| (k_here; k_dflt (refine' ld ?k1 ?k2 ?_; (case k1 => k_asm); (case k2 => first | exact rfl | assumption))))
local macro_rules | `(tactic| walk_at "MY:enterS0") => `(tactic| (
  refine wpAny_call ?_
  k_dflt (refine' code_defS0 ?k1 ?k2 ?k3 ?k4 ?k5 ?kA ?k6 ?k7 ?k8 ?k9 ?kB ?_ ?cK ?c2 ?c3 ?c4 ?c5)
  (case kA => exact rfl); (case k2 => k_asm); (case k1 => k_asm); (case k3 => k_asm); (case k4 => k_asm); (case k5 => k_asm); (case k6 => k_is); (case k7 => k_is); (case k8 => k_room); (case k9 => first | exact BindsTo.of_eq rfl | exact binds_K (by k_in) rfl (by k_is) rfl rfl rfl); (case kB => exact locs rfl); (case cK => first | rfl | assumption); (case c2 => exact rfl); (case c3 => exact rfl); (case c4 => exact rfl); (case c5 => decide)
  intro g' L' h' FG' F' N' B' X' T' D'
  (try dsimp only)))
section
variable {w : World} {A₀ A : Around} {base h₀ : Heap} {outer : List Env} {L a : Addr} {cn : Str} {cs : Scope} {ccd : Value} {m mg mb : Str → Option Value} {p : Program} {loose : List Str} {mean : ExcName → Option Value} {s : Shared} {Q E : Value → Shared → Prop} {news l : List (Addr × Obj)}
theorem tn_any {h₀ h : Heap} {L : Addr} {l l0 : List (Addr × Obj)} {ta tb tc td : Array Value} (N : News h₀ L h l0) (t1 : (433, tabObj ta) ∈ l0) (t2 : (440, tabObj tb) ∈ l0) (t3 : (468, tabObj tc) ∈ l0) (t4 : (475, tabObj td) ∈ l0) (sub : ∀ p ∈ l, p ∈ l0)
    (q1 : TabQ (qLam "_law_last_out") ta l) (q2 : TabQ (qLam "_law_last_in") tb l) (q3 : TabQ (qLam "_law_made_in") tc l) (q4 : TabQ (qLam "_law_made_out") td l) (off : ∀ p ∈ l, p.1 ≠ 433 ∧ p.1 ≠ 440 ∧ p.1 ≠ 468 ∧ p.1 ≠ 475) : TN h₀ h L l :=
  ⟨ta, tb, tc, td, nSub N (List.forall_mem_cons.mpr ⟨t1, List.forall_mem_cons.mpr ⟨t2, List.forall_mem_cons.mpr ⟨t3, List.forall_mem_cons.mpr ⟨t4, sub⟩⟩⟩⟩), q1, q2, q3, q4, off⟩
theorem conv_unstr {C : Conv} {pl : Sem Bool} {Q : Value × List Value → Shared → Prop} (F : Fr h₀ L s.heap m) (X : (Mine.hd.heap_39 w.params).In h₀) (N : News h₀ L s.heap news) (hobj : ObjAt w news C) (h : Q (.ref 239, [.ref C.x]) s) : wpAny (model PROG w) A (getMethod (.ref C.x) "unstructure" pl) Q E s := by
  rcases hobj with ⟨dx, fb, om, ov, ua, pv, dv, i1, i2, hk', ho, hd0, hov⟩ | ⟨dx, pv, dv, i1, i2, hk', ho, hd0⟩
  all_goals (walk_at "getMethod ref"; exact h)
theorem conv_getOut {C : Conv} {pl : Sem Bool} {Q : Value × List Value → Shared → Prop} (F : Fr h₀ L s.heap m) (X : (Mine.hd.heap_39 w.params).In h₀) (N : News h₀ L s.heap news) (hobj : ObjAt w news C) (h : Q (.ref 262, [.ref C.x]) s) : wpAny (model PROG w) A (getMethod (.ref C.x) "get_unstructure_hook" pl) Q E s := by
  rcases hobj with ⟨dx, fb, om, ov, ua, pv, dv, i1, i2, hk', ho, hd0, hov⟩ | ⟨dx, pv, dv, i1, i2, hk', ho, hd0⟩
  all_goals (walk_at "getMethod ref"; exact h)
theorem news_add {h₀ h : Heap} {L : Addr} {l l0 : List (Addr × Obj)} {x : Addr × Obj} (N : News h₀ L h l) (N0 : News h₀ L h l0) (hx : x ∈ l0) : News h₀ L h (x :: l) := List.forall_mem_cons.mpr ⟨N0 _ hx, N⟩
theorem handOut_fn {l : List (Addr × Obj)} {x : Addr} {hv : Value} {a : Ans} (hH : HandOut l x hv a) (hun : a ≠ .unstr) : ∃ g, hv = .ref g ∧ FnOk w l g := by
  cases a with
  | unstr => exact absurd rfl hun
  | val => exact ⟨194, hH, fnOkK (.inr (.inr (.inr (.inr rfl))))⟩
  | refused => exact hH.elim
  | hook mk told => obtain ⟨_, g, _, _, e, h, _⟩ := hH; exact ⟨g, e, h.ok⟩
  | made mk of told => obtain ⟨_, g, _, _, _, _, e, h, _⟩ := hH; exact ⟨g, e, h.ok⟩
  | last mk of told => obtain ⟨_, g, _, _, _, _, e, h, _⟩ := hH; exact ⟨g, e, h.ok⟩
theorem spec_told {C : Conv} {esO esI : List Ent} {ow : Bool} {mk mark : Int} {tm : Tok} {hi ho : Addr} {odI odO : Obj} {HI HO : Kd → Option (Bool × Int)}
    (hA : A.frames = some [envOf cn cs L a ccd]) (hh : A.handled = none) (hd : A.depth ≤ 318) (hu : A.units ≤ 580) (hck : cs.kind = .function)
    (B : Below A₀ base [] h₀) (F : Fr h₀ L s.heap m) (X : (Mine.hd.heap_39 w.params).In h₀) (T : Top p loose mean mg mb h₀)
    (N : TN h₀ s.heap L news) (hR : RowAt w news C esO esI ow mk) (m1 : (hi, odI) ∈ news) (m2 : (ho, odO) ∈ news) (H1 : HooksAt w news odI HI) (H2 : HooksAt w news odO HO) (lo1 : (hi == sysModules) = false) (lo2 : (ho == sysModules) = false)
    (eI : ∀ j, ansIn esI ow mk j = dueIn HI mark j) (eO : ∀ j, j ≠ .non → ansOut esO ow mk j = dueOut HO mark j) (hno : ansOut1 esO ow mk .non ≠ .unstr)
    (hQ : ∀ news' h' tk, Fr h₀ L h' m → TN h₀ h' L news' → (∀ p ∈ news, p ∈ news') → Q (.bool true) { s with heap := h', toks := tk }) :
    wpAny (model PROG w) A (call (.ref 522) [.ref C.x, .ref hi, .ref ho, .int mark tm] []) Q E s := by
  refine wp_le 318 580 hA hh hd hu ?_
  have B0 : Below A₀ h₀ [] h₀ := ⟨B.stack, fun _ _ e => e, trivial⟩
  clear B
  obtain ⟨ta, tb, tc, td, N, q1, q2, q3, q4, off⟩ := N
  walk_at "MY:enterS0"
  rename_i gg LL hh1 FGG FF0 NN0 BB0 XX0 TT0 DD0
  (focus ((iterate 2 walk1)))
  refine wpAny_For ?_
  (focus ((iterate 7 walk1)))
  refine for_range (n := 6) (fun i g m' nw => m' "converter" = some (.ref C.x) ∧ m' "into" = some (.ref hi) ∧ m' "out" = some (.ref ho) ∧ m' "mark" = some (.int mark tm) ∧
      (∃ ta tb tc td nn, nw = (433, tabObj ta) :: (440, tabObj tb) :: (468, tabObj tc) :: (475, tabObj td) :: nn ∧ TabQ (qLam "_law_last_out") ta nn ∧ TabQ (qLam "_law_last_in") tb nn ∧ TabQ (qLam "_law_made_in") tc nn ∧ TabQ (qLam "_law_made_out") td nn ∧
        (∀ p ∈ nn, p.1 ≠ 433 ∧ p.1 ≠ 440 ∧ p.1 ≠ 468 ∧ p.1 ≠ 475) ∧ ∀ p ∈ news, p ∈ nn) ∧
      Below (⟨none, 318, some [envOf cn cs L a ccd], A.guards, 580⟩ : Around) h₀ [envOf cn cs L a ccd] g ∧ (Mine.hd.heap_39 w.params).In g ∧ Top p loose mean mg mb g ∧ KtsDicts ([envOf cn cs L a ccd].filterMap (·.frame)) g ∧ KtsTurn ([envOf cn cs L a ccd].filterMap (·.frame)) gg g)
    (by rfl) (by assumption) (by rfl) (by rfl) (by k_asm) (by k_asm) ⟨rfl, rfl, rfl, rfl, ⟨ta, tb, tc, td, news, rfl, q1, q2, q3, q4, off, fun p hp => hp⟩, BB0, XX0, TT0, DD0, KtsTurn.refl⟩ ?_ ?_
  · rintro I i k g m₁ news₁ hx tkx it hlt ⟨hc, hin, hout, hmark, ⟨ta1, tb1, tc1, td1, nn, rfl, r1, r2, r3, r4, off1, sub1⟩, B1, X1, T1, D1x, K1⟩ hI hoff hcls ⟨ix, iy, hdata⟩ F1 N1
    (try k_fold)
    rw [Int.zero_add]
    have kI1 := hoff (433, _) (by k_mem)
    have kI2 := hoff (440, _) (by k_mem)
    have kI3 := hoff (468, _) (by k_mem)
    have kI4 := hoff (475, _) (by k_mem)
    (focus ((iterate 2 walk1); (k_unfold; (try dsimp only)); (iterate 7 walk1)))
    refine spec_kinds (by rfl) (by rfl) (Nat.le_of_ble_eq_true (by rfl)) (Nat.le_of_ble_eq_true (by rfl)) (by rfl) (by rfl) (by k_asm) (by k_asm) (by k_asm) (by k_asm) (by k_asm) ?_
    intro lst t1 t2 t3 t4 t5 nk h2 tk2 F2 N2 lt2
    (focus (walk1))
    obtain ⟨tt, hx6⟩ := kd_item hlt t1 t2 t3 t4 t5
    refine kba_turn (value' := .Name "x" { line := 0, col := 0, endLine := 0, endCol := 0 }) (fun r => rfl) (PyProof.Rows.item_list (News.isList (by k_asm) List.mem_cons_self) (by omega) (by omega) hx6 ?_)
    clear hx6
    generalize kdAt i = j
    (focus ((iterate 7 walk1)))
    k_dflt (refine' newList_K ?k1 ?k2 ?_; (case k1 => k_asm); (case k2 => k_asm))
    intro lv h3 F3 N3 lt3
    (focus ((iterate 17 walk1)))
    rename News _ LL _ _ => N3c
    have z1 : @LT.lt Nat _ 475 lst := lt2 (475, tabObj td1) (by k_mem)
    have z2 : @LT.lt Nat _ lst lv := lt3 (lst, _) List.mem_cons_self
    have km : ∀ p ∈ nn, p ∈ ((lv, W.listOf #[.int (i : Int) k] 0) :: (lst, W.listOf #[.str "north" t1, .str "east" t2, .str "south" t3, .str "west" t4, .str "Any" t5, .none] nk) :: (I, it) :: nn) := fun p hp => List.mem_cons_of_mem _ (List.mem_cons_of_mem _ (List.mem_cons_of_mem _ hp))
    have offW : ∀ p ∈ ((lv, W.listOf #[.int (i : Int) k] 0) :: (lst, W.listOf #[.str "north" t1, .str "east" t2, .str "south" t3, .str "west" t4, .str "Any" t5, .none] nk) :: (I, it) :: nn), p.1 ≠ 433 ∧ p.1 ≠ 440 ∧ p.1 ≠ 468 ∧ p.1 ≠ 475 :=
      List.forall_mem_cons.mpr ⟨⟨neN (by dsimp only; omega), neN (by dsimp only; omega), neN (by dsimp only; omega), neN (by dsimp only; omega)⟩, List.forall_mem_cons.mpr ⟨⟨neN (by dsimp only; omega), neN (by dsimp only; omega), neN (by dsimp only; omega), neN (by dsimp only; omega)⟩, List.forall_mem_cons.mpr ⟨⟨Ne.symm kI1, Ne.symm kI2, Ne.symm kI3, Ne.symm kI4⟩, off1⟩⟩⟩
    have tn0 := tn_any (l := ((lv, W.listOf #[.int (i : Int) k] 0) :: (lst, W.listOf #[.str "north" t1, .str "east" t2, .str "south" t3, .str "west" t4, .str "Any" t5, .none] nk) :: (I, it) :: nn)) N3c (by k_mem) (by k_mem) (by k_mem) (by k_mem) (List.forall_mem_cons.mpr ⟨by k_mem, List.forall_mem_cons.mpr ⟨by k_mem, List.forall_mem_cons.mpr ⟨by k_mem, fun p hp => by walk_at "MY:tail"⟩⟩⟩) (r1.mono km) (r2.mono km) (r3.mono km) (r4.mono km) offW
    have mlv0 : (lv, W.listOf #[.int (i : Int) k] 0) ∈ (lv, W.listOf #[.int (i : Int) k] 0) :: (lst, W.listOf #[.str "north" t1, .str "east" t2, .str "south" t3, .str "west" t4, .str "Any" t5, .none] nk) :: (I, it) :: nn := List.mem_cons_self
    have mI0 : (I, it) ∈ (lv, W.listOf #[.int (i : Int) k] 0) :: (lst, W.listOf #[.str "north" t1, .str "east" t2, .str "south" t3, .str "west" t4, .str "Any" t5, .none] nk) :: (I, it) :: nn := List.mem_cons_of_mem _ (List.mem_cons_of_mem _ List.mem_cons_self)
    have sub0 : ∀ p ∈ news, p ∈ (lv, W.listOf #[.int (i : Int) k] 0) :: (lst, W.listOf #[.str "north" t1, .str "east" t2, .str "south" t3, .str "west" t4, .str "Any" t5, .none] nk) :: (I, it) :: nn := fun p hp => List.mem_cons_of_mem _ (List.mem_cons_of_mem _ (List.mem_cons_of_mem _ (sub1 p hp)))
    generalize (lv, W.listOf #[.int (i : Int) k] 0) :: (lst, W.listOf #[.str "north" t1, .str "east" t2, .str "south" t3, .str "west" t4, .str "Any" t5, .none] nk) :: (I, it) :: nn = W0 at tn0 mlv0 mI0 sub0
    clear km offW
    refine spec_dueIn (by rfl) (by rfl) (Nat.le_of_ble_eq_true (by rfl)) (Nat.le_of_ble_eq_true (by rfl)) (by rfl) (by rfl) (by k_asm) (by k_asm) (by k_asm) (by k_asm) tn0 (sub0 _ m1) (H1.mono sub0) lo1 ?_
    intro r0 W1 h4 tk4 F4 tn1 sW1 ans0
    obtain ⟨ta2, tb2, tc2, td2, N4, u1, u2, u3, u4, off2⟩ := tn1
    (focus ((iterate 17 walk1)))
    refine spec_lawIn (outer := [envOf cn cs L a ccd]) (by rfl) (by rfl) (Nat.le_of_ble_eq_true (by rfl)) (Nat.le_of_ble_eq_true (by rfl)) (by rfl) B1 (by k_asm) X1 T1 X T D1x (tn_same (by k_asm) u1 u2 u3 u4 off2) (hR.mono fun p hp => sW1 p (sub0 p hp)) ?_
    intro r1' W2 g2 h5 tk5 K2 F5 tn2 B2 X2 T2 D2 sW2 ans1
    rw [eI] at ans1
    obtain ⟨ta3, tb3, tc3, td3, N5, v1, v2, v3, v4, off3⟩ := tn2
    (focus (walk1))
    refine ans_ne (l := W2) (l' := W2) (fun p hp => ((by k_asm : News g2 LL _ (_ :: _ :: _ :: _ :: W2)) p (List.mem_cons_of_mem _ (List.mem_cons_of_mem _ (List.mem_cons_of_mem _ (List.mem_cons_of_mem _ hp))))).1) (fun p hp => ((by k_asm : News g2 LL _ (_ :: _ :: _ :: _ :: W2)) p (List.mem_cons_of_mem _ (List.mem_cons_of_mem _ (List.mem_cons_of_mem _ (List.mem_cons_of_mem _ hp))))).1) (sW2 _ (sW1 _ mlv0)) ans1 (ans0.mono sW2) (Nat.le_of_ble_eq_true (by rfl)) ?_
    (focus ((iterate 15 walk1)))
    refine spec_lawHook (outer := [envOf cn cs L a ccd]) (by rfl) (by rfl) (Nat.le_of_ble_eq_true (by rfl)) (Nat.le_of_ble_eq_true (by rfl)) (by rfl) B2 (by k_asm) X2 T2 X T D2 (tn_same (by k_asm) v1 v2 v3 v4 off3) (hR.mono fun p hp => sW2 p (sW1 p (sub0 p hp))) ?_
    intro r2' W3 g3 h6 tk6 K3 F6 tn3 B3 X3 T3 D3 sW3 ans2
    rw [eI] at ans2
    obtain ⟨ta4, tb4, tc4, td4, N6, w1, w2, w3, w4, off4⟩ := tn3
    (focus (walk1))
    refine ans_ne (l := W3) (l' := W3) (fun p hp => ((by k_asm : News g3 LL _ (_ :: _ :: _ :: _ :: W3)) p (List.mem_cons_of_mem _ (List.mem_cons_of_mem _ (List.mem_cons_of_mem _ (List.mem_cons_of_mem _ hp))))).1) (fun p hp => ((by k_asm : News g3 LL _ (_ :: _ :: _ :: _ :: W3)) p (List.mem_cons_of_mem _ (List.mem_cons_of_mem _ (List.mem_cons_of_mem _ (List.mem_cons_of_mem _ hp))))).1) (sW3 _ (sW2 _ (sW1 _ mlv0))) ans2 (ans0.mono fun p hp => sW3 p (sW2 p hp)) (Nat.le_of_ble_eq_true (by rfl)) ?_
    (focus ((iterate 10 walk1)))
    refine kd_isnone ?_
    by_cases hjn : j = .non
    · rw [decide_eq_true hjn]
      (focus ((iterate 4 walk1)))
      rename Fr _ LL _ _ => FF
      rename News _ LL _ _ => NN
      obtain ⟨ta9, tb9, tc9, td9, N9, y1, y2, y3, y4, off9⟩ := tn_but (tn_same NN w1 w2 w3 w4 off4) (sW3 _ (sW2 _ (sW1 _ mI0))) hdata (fun _ _ e => by cases e)
      refine ⟨g3, _, _, _, _, rfl, FF, news_add N9 NN (List.mem_cons_of_mem _ (List.mem_cons_of_mem _ (List.mem_cons_of_mem _ (List.mem_cons_of_mem _ (sW3 _ (sW2 _ (sW1 _ mI0))))))), List.forall_mem_cons.mpr ⟨kI1, List.forall_mem_cons.mpr ⟨kI2, List.forall_mem_cons.mpr ⟨kI3, List.forall_mem_cons.mpr ⟨kI4, fun p hp => (mem_but.mp hp).2⟩⟩⟩⟩, hc, hin, hout, hmark, ⟨ta9, tb9, tc9, td9, _, rfl, y1, y2, y3, y4, off9, fun p hp => mem_but.mpr ⟨sW3 p (sW2 p (sW1 p (sub0 p hp))), fun e => hoff p (List.mem_cons_of_mem _ (List.mem_cons_of_mem _ (List.mem_cons_of_mem _ (List.mem_cons_of_mem _ (sub1 p hp))))) e⟩⟩, B3, X3, T3, D3, K1.trans (K2.trans K3)⟩
    rw [decide_eq_false hjn]
    (focus ((iterate 18 walk1)))
    refine spec_dueOut (by rfl) (by rfl) (Nat.le_of_ble_eq_true (by rfl)) (Nat.le_of_ble_eq_true (by rfl)) (by rfl) (by rfl) (by k_asm) (by k_asm) (by k_asm) (by k_asm) (tn_same (by k_asm) w1 w2 w3 w4 off4) (sW3 _ (sW2 _ (sW1 _ (sub0 _ m2)))) (H2.mono fun p hp => sW3 p (sW2 p (sW1 p (sub0 p hp)))) hjn lo2 ?_
    intro r3' W4 h7 tk7 F7 tn4 sW4 ans3
    have sA : ∀ p ∈ W0, p ∈ W4 := fun p hp => sW4 p (sW3 p (sW2 p (sW1 p hp)))
    obtain ⟨ta5, tb5, tc5, td5, N7, x1, x2, x3, x4, off5⟩ := tn4
    (focus ((iterate 8 walk1)))
    refine conv_unstr (news := _ :: _ :: _ :: _ :: W4) (by k_asm) X3 (by k_asm) ((hR.cv.obj.mono sub0).mono fun p hp => List.mem_cons_of_mem _ (List.mem_cons_of_mem _ (List.mem_cons_of_mem _ (List.mem_cons_of_mem _ (sA p hp))))) ?_
    (focus ((iterate 7 walk1)))
    refine spec_unstructure (by rfl) (by rfl) (Nat.le_of_ble_eq_true (by rfl)) (Nat.le_of_ble_eq_true (by rfl)) (by rfl) (by rfl) (by k_asm) (by k_asm) (by k_asm) (by k_asm) (tn_same (by k_asm) x1 x2 x3 x4 off5) (hR.mono fun p hp => sA p (sub0 p hp)) hno ?_
    intro r4' W5 h8 tk8 F8 tn5 sW5 ans4
    rw [eO j hjn] at ans4
    obtain ⟨ta6, tb6, tc6, td6, N8, z3, z4, z5, z6, off6⟩ := tn5
    (focus (walk1))
    refine ans_ne (l := W5) (l' := W5) (fun p hp => ((by k_asm : News g3 LL _ (_ :: _ :: _ :: _ :: W5)) p (List.mem_cons_of_mem _ (List.mem_cons_of_mem _ (List.mem_cons_of_mem _ (List.mem_cons_of_mem _ hp))))).1) (fun p hp => ((by k_asm : News g3 LL _ (_ :: _ :: _ :: _ :: W5)) p (List.mem_cons_of_mem _ (List.mem_cons_of_mem _ (List.mem_cons_of_mem _ (List.mem_cons_of_mem _ hp))))).1) (sW5 _ (sA _ mlv0)) ans4 (ans3.mono sW5) (Nat.le_of_ble_eq_true (by rfl)) ?_
    (focus ((iterate 7 walk1)))
    refine conv_getOut (news := _ :: _ :: _ :: _ :: W5) (by k_asm) X3 (by k_asm) ((hR.cv.obj.mono sub0).mono fun p hp => List.mem_cons_of_mem _ (List.mem_cons_of_mem _ (List.mem_cons_of_mem _ (List.mem_cons_of_mem _ (sW5 p (sA p hp)))))) ?_
    (focus ((iterate 5 walk1)))
    refine spec_getOut (by rfl) (by rfl) (Nat.le_of_ble_eq_true (by rfl)) (Nat.le_of_ble_eq_true (by rfl)) (by rfl) (by rfl) (by k_asm) (by k_asm) (by k_asm) (by k_asm) (tn_same (by k_asm) z3 z4 z5 z6 off6) (hR.mono fun p hp => sW5 p (sA p (sub0 p hp))) ?_
    intro hv W6 h9 tk9 F9 tn6 sW6 hH
    obtain ⟨ta7, tb7, tc7, td7, N9, c1, c2, c3, c4, off7⟩ := tn6
    have mono6 : ∀ p ∈ W6, p ∈ (433, tabObj ta7) :: (440, tabObj tb7) :: (468, tabObj tc7) :: (475, tabObj td7) :: W6 := fun p hp => List.mem_cons_of_mem _ (List.mem_cons_of_mem _ (List.mem_cons_of_mem _ (List.mem_cons_of_mem _ hp)))
    by_cases hun : ansOut1 esO ow mk j = .unstr
    · rw [hun] at hH
      obtain ⟨gx, rfl, mg⟩ := hH
      have mg2 := mono6 _ mg
      k_dflt (refine' callWith_M ?k1 ?k2 ?k3 ?k4 ?_; (case k1 => k_asm); (case k2 => k_asm); (case k3 => exact mg2); (case k4 => k_is))
      (focus ((iterate 4 walk1)))
      refine call_meth (by k_asm) mg2 ?_
      refine spec_unstrN (by rfl) (by rfl) (Nat.le_of_ble_eq_true (by rfl)) (Nat.le_of_ble_eq_true (by rfl)) (by rfl) (by rfl) (by k_asm) (by k_asm) (by k_asm) (by k_asm) (tn_same (by k_asm) c1 c2 c3 c4 off7) (hR.mono fun p hp => sW6 p (sW5 p (sA p (sub0 p hp)))) hno ?_
      intro r5' W7 h10 tk10 F10 tn7 sW7 ans5
      rw [← ansOut_un hun, eO j hjn] at ans5
      obtain ⟨ta8, tb8, tc8, td8, N10, d1, d2, d3, d4, off8⟩ := tn7
      have sB : ∀ p ∈ W4, p ∈ W7 := fun p hp => sW7 p (sW6 p (sW5 p hp))
      (focus (walk1))
      refine ans_ne (l := W7) (l' := W7) (fun p hp => ((by k_asm : News g3 LL _ (_ :: _ :: _ :: _ :: W7)) p (List.mem_cons_of_mem _ (List.mem_cons_of_mem _ (List.mem_cons_of_mem _ (List.mem_cons_of_mem _ hp))))).1) (fun p hp => ((by k_asm : News g3 LL _ (_ :: _ :: _ :: _ :: W7)) p (List.mem_cons_of_mem _ (List.mem_cons_of_mem _ (List.mem_cons_of_mem _ (List.mem_cons_of_mem _ hp))))).1) (sB _ (sA _ mlv0)) ans5 (ans3.mono sB) (Nat.le_of_ble_eq_true (by rfl)) ?_
      (focus ((iterate 6 walk1)))
      rename Fr _ LL _ _ => FF
      rename News _ LL _ _ => NN
      obtain ⟨ta9, tb9, tc9, td9, N9, y1, y2, y3, y4, off9⟩ := tn_but (tn_same NN d1 d2 d3 d4 off8) (sB _ (sA _ mI0)) hdata (fun _ _ e => by cases e)
      refine ⟨g3, _, _, _, _, rfl, FF, news_add N9 NN (List.mem_cons_of_mem _ (List.mem_cons_of_mem _ (List.mem_cons_of_mem _ (List.mem_cons_of_mem _ (sB _ (sA _ mI0)))))), List.forall_mem_cons.mpr ⟨kI1, List.forall_mem_cons.mpr ⟨kI2, List.forall_mem_cons.mpr ⟨kI3, List.forall_mem_cons.mpr ⟨kI4, fun p hp => (mem_but.mp hp).2⟩⟩⟩⟩, hc, hin, hout, hmark, ⟨ta9, tb9, tc9, td9, _, rfl, y1, y2, y3, y4, off9, fun p hp => mem_but.mpr ⟨sB p (sA p (sub0 p hp)), fun e => hoff p (List.mem_cons_of_mem _ (List.mem_cons_of_mem _ (List.mem_cons_of_mem _ (List.mem_cons_of_mem _ (sub1 p hp))))) e⟩⟩, B3, X3, T3, D3, K1.trans (K2.trans K3)⟩
    · obtain ⟨gx, rfl, fg⟩ := handOut_fn (w := w) hH hun
      skip
      k_dflt (refine' callWith_F ?k1 ?_)
      (case k1 => exact (fg.mono mono6).at (by k_asm) (by k_asm) (by k_asm))
      (focus ((iterate 3 walk1)))
      refine ⟨(fg.mono mono6).at (by k_asm) (by k_asm) (by k_asm), ?_⟩
      (try dsimp only)
      refine callOut0 hun (by rfl) (by rfl) (Nat.le_of_ble_eq_true (by rfl)) (Nat.le_of_ble_eq_true (by rfl)) (by rfl) (by rfl) (by k_asm) (by k_asm) (by k_asm) (by k_asm) (tn_same (by k_asm) c1 c2 c3 c4 off7) hH ?_
      intro r5' W7 h10 tk10 F10 tn7 sW7 ans5
      rw [← ansOut_of hun, eO j hjn] at ans5
      obtain ⟨ta8, tb8, tc8, td8, N10, d1, d2, d3, d4, off8⟩ := tn7
      have sB : ∀ p ∈ W4, p ∈ W7 := fun p hp => sW7 p (sW6 p (sW5 p hp))
      (focus (walk1))
      refine ans_ne (l := W7) (l' := W7) (fun p hp => ((by k_asm : News g3 LL _ (_ :: _ :: _ :: _ :: W7)) p (List.mem_cons_of_mem _ (List.mem_cons_of_mem _ (List.mem_cons_of_mem _ (List.mem_cons_of_mem _ hp))))).1) (fun p hp => ((by k_asm : News g3 LL _ (_ :: _ :: _ :: _ :: W7)) p (List.mem_cons_of_mem _ (List.mem_cons_of_mem _ (List.mem_cons_of_mem _ (List.mem_cons_of_mem _ hp))))).1) (sB _ (sA _ mlv0)) ans5 (ans3.mono sB) (Nat.le_of_ble_eq_true (by rfl)) ?_
      (focus ((iterate 6 walk1)))
      rename Fr _ LL _ _ => FF
      rename News _ LL _ _ => NN
      obtain ⟨ta9, tb9, tc9, td9, N9, y1, y2, y3, y4, off9⟩ := tn_but (tn_same NN d1 d2 d3 d4 off8) (sB _ (sA _ mI0)) hdata (fun _ _ e => by cases e)
      refine ⟨g3, _, _, _, _, rfl, FF, news_add N9 NN (List.mem_cons_of_mem _ (List.mem_cons_of_mem _ (List.mem_cons_of_mem _ (List.mem_cons_of_mem _ (sB _ (sA _ mI0)))))), List.forall_mem_cons.mpr ⟨kI1, List.forall_mem_cons.mpr ⟨kI2, List.forall_mem_cons.mpr ⟨kI3, List.forall_mem_cons.mpr ⟨kI4, fun p hp => (mem_but.mp hp).2⟩⟩⟩⟩, hc, hin, hout, hmark, ⟨ta9, tb9, tc9, td9, _, rfl, y1, y2, y3, y4, off9, fun p hp => mem_but.mpr ⟨sB p (sA p (sub0 p hp)), fun e => hoff p (List.mem_cons_of_mem _ (List.mem_cons_of_mem _ (List.mem_cons_of_mem _ (List.mem_cons_of_mem _ (sub1 p hp))))) e⟩⟩, B3, X3, T3, D3, K1.trans (K2.trans K3)⟩
  · rintro g m₁ news₁ hx tkx ⟨hc, hin, hout, hmark, ⟨ta1, tb1, tc1, td1, nn, rfl, r1, r2, r3, r4, off1, sub1⟩, B1, X1, T1, D1x, K1⟩ F1 N1
    (focus ((iterate 3 walk1)))
    (try dsimp only)
    rename Fr _ LL _ _ => FF
    rename News _ LL _ _ => NN
    refine leaveS0_ FF NN K1 ?_
    intro kF kN
    exact hQ nn _ _ kF (tn_same kN r1 r2 r3 r4 off1) sub1
end
end
example {M : Model} {A : Around} {E Q : Value → Shared → Prop} {s : Shared} (h : wpAny M A (pure .none) Q E s) : wpAny M A (pure .none) Q E s := by
  w_top off
  first
    | (walk1; fail)
    | exact h
section
/-- the ledger, what stands in it for good, and the places that may change -/
structure Led (h₀ : Heap) (L : Addr) (h : Heap) (led imm : List (Addr × Obj)) (ch : List Addr) : Prop where
  N : News h₀ L h led
  sub : ∀ p ∈ imm, p ∈ led
  off : ∀ p ∈ imm, p.1 ∉ ch
  nd : ch.Nodup
  has : ∀ a ∈ ch, ∃ o, (a, o) ∈ led
/-- a ledger without some places -/
def rest (A : List Addr) (l : List (Addr × Obj)) : List (Addr × Obj) := l.filter fun p => !A.contains p.1
theorem mem_rest {A : List Addr} {l : List (Addr × Obj)} {p : Addr × Obj} : p ∈ rest A l ↔ p ∈ l ∧ p.1 ∉ A := by
  unfold rest
  rw [List.mem_filter]
  simp
section
variable {h₀ h h' : Heap} {L : Addr} {led imm own pl : List (Addr × Obj)} {ch A : List Addr} {x : Addr} {o : Obj}
theorem Led.lt (_d : Led h₀ L h led imm ch) (hx : ∀ q ∈ led, @LT.lt Nat _ q.1 x) : x ∉ ch := fun hm => by
  obtain ⟨o, ho⟩ := _d.has x hm
  exact Nat.lt_irrefl _ (hx _ ho)
/-- a thing made, which stands -/
theorem Led.push (d : Led h₀ L h led imm ch) (N : News h₀ L h' ((x, o) :: led)) (hx : ∀ q ∈ led, @LT.lt Nat _ q.1 x) : Led h₀ L h' ((x, o) :: led) ((x, o) :: imm) ch :=
  ⟨N, List.forall_mem_cons.mpr ⟨List.mem_cons_self, fun p hp => List.mem_cons_of_mem _ (d.sub p hp)⟩, List.forall_mem_cons.mpr ⟨d.lt hx, d.off⟩, d.nd, fun a ha => let ⟨o, ho⟩ := d.has a ha; ⟨o, List.mem_cons_of_mem _ ho⟩⟩
/-- a thing made, which will be dropped -/
theorem Led.skip (d : Led h₀ L h led imm ch) (N : News h₀ L h' ((x, o) :: led)) : Led h₀ L h' ((x, o) :: led) imm ch :=
  ⟨N, fun p hp => List.mem_cons_of_mem _ (d.sub p hp), d.off, d.nd, fun a ha => let ⟨o, ho⟩ := d.has a ha; ⟨o, List.mem_cons_of_mem _ ho⟩⟩
/-- a thing made, which will change -/
theorem Led.add (d : Led h₀ L h led imm ch) (N : News h₀ L h' ((x, o) :: led)) (hx : ∀ q ∈ led, q.1 ≠ x) : Led h₀ L h' ((x, o) :: led) imm (x :: ch) :=
  ⟨N, fun p hp => List.mem_cons_of_mem _ (d.sub p hp), fun p hp => by
    rw [List.mem_cons, not_or]
    exact ⟨hx p (d.sub p hp), d.off p hp⟩, List.nodup_cons.mpr ⟨fun hm => let ⟨o, ho⟩ := d.has x hm; hx _ ho rfl, d.nd⟩, fun a ha => by
    rcases List.mem_cons.mp ha with rfl | ha
    · exact ⟨o, List.mem_cons_self⟩
    · obtain ⟨o, ho⟩ := d.has a ha
      exact ⟨o, List.mem_cons_of_mem _ ho⟩⟩
theorem Led.addN (d : Led h₀ L h led imm ch) (N : News h₀ L h' ((x, o) :: led)) (hx : ∀ q ∈ led, @LT.lt Nat _ q.1 x) : Led h₀ L h' ((x, o) :: led) imm (x :: ch) := d.add N fun q hq => Nat.ne_of_lt (hx q hq)
/-- a changing thing dropped -/
theorem Led.drop (d : Led h₀ L h led imm (x :: ch)) : Led h₀ L h (rest [x] led) imm ch := by
  have nd := List.nodup_cons.mp d.nd
  refine ⟨nSub d.N fun p hp => (mem_rest.mp hp).1, fun p hp => mem_rest.mpr ⟨d.sub p hp, fun hm => ?_⟩, fun p hp hm => d.off p hp (List.mem_cons_of_mem _ hm), nd.2, fun a ha => ?_⟩
  · exact d.off p hp (List.mem_cons.mpr (.inl (List.mem_singleton.mp hm)))
  · obtain ⟨o, ho⟩ := d.has a (List.mem_cons_of_mem _ ha)
    refine ⟨o, mem_rest.mpr ⟨ho, fun hm => nd.1 ?_⟩⟩
    have : a = x := List.mem_singleton.mp hm
    exact this ▸ ha
/-- some places turned, and things made that stand -/
theorem Led.turn (d : Led h₀ L h led imm ch) (N : News h₀ L h' (pl ++ (own ++ rest A led))) (hA : ∀ a ∈ A, a ∈ ch) (hpl : ∀ a ∈ A, ∃ o, (a, o) ∈ pl) (hown : ∀ p ∈ own, (∀ q ∈ led, @LT.lt Nat _ q.1 p.1) ∨ p ∈ imm) :
    Led h₀ L h' (pl ++ (own ++ rest A led)) (own ++ imm) ch := by
  refine ⟨N, fun p hp => ?_, fun p hp => ?_, d.nd, fun a ha => ?_⟩
  · rcases List.mem_append.mp hp with hp | hp
    · exact List.mem_append_right _ (List.mem_append_left _ hp)
    · exact List.mem_append_right _ (List.mem_append_right _ (mem_rest.mpr ⟨d.sub p hp, fun hm => d.off p hp (hA _ hm)⟩))
  · rcases List.mem_append.mp hp with hp | hp
    · rcases hown p hp with h | h
      · exact d.lt h
      · exact d.off p h
    · exact d.off p hp
  · by_cases hm : a ∈ A
    · obtain ⟨o, ho⟩ := hpl a hm
      exact ⟨o, List.mem_append_left _ ho⟩
    · obtain ⟨o, ho⟩ := d.has a ha
      exact ⟨o, List.mem_append_right _ (List.mem_append_right _ (mem_rest.mpr ⟨ho, hm⟩))⟩
theorem Led.kept (_d : Led h₀ L h led imm ch) {a : Addr} {o : Obj} (ho : (a, o) ∈ led) (hn : a ∉ A) : (a, o) ∈ pl ++ (own ++ rest A led) := List.mem_append_right _ (List.mem_append_right _ (mem_rest.mpr ⟨ho, hn⟩))
/-- the same ledger with some places ahead -/
theorem Led.front (d : Led h₀ L h led imm ch) (hpl : ∀ p ∈ pl, p ∈ led) : News h₀ L h (pl ++ rest A led) := fun p hp => by
  rcases List.mem_append.mp hp with hp | hp
  · exact d.N _ (hpl p hp)
  · exact d.N _ (mem_rest.mp hp).1
theorem Led.ne (d : Led h₀ L h led imm ch) {p : Addr × Obj} (hp : p ∈ imm) {a : Addr} (ha : a ∈ ch) : p.1 ≠ a := fun e => d.off p hp (e ▸ ha)
theorem Led.subRest (d : Led h₀ L h led imm ch) (hA : ∀ a ∈ A, a ∈ ch) : ∀ p ∈ imm, p ∈ rest A led := fun p hp => mem_rest.mpr ⟨d.sub p hp, fun hm => d.off p hp (hA _ hm)⟩
theorem Led.one (d : Led h₀ L h led imm ch) {a : Addr} {o o' : Obj} (h1 : (a, o) ∈ led) (h2 : (a, o') ∈ led) : o = o' := Option.some.inj ((d.N _ h1).1.symm.trans (d.N _ h2).1)
end
end
example {M : Model} {A : Around} {E Q : Value → Shared → Prop} {s : Shared} (h : wpAny M A (pure .none) Q E s) : wpAny M A (pure .none) Q E s := by
  w_top off
  first
    | (walk1; fail)
    | exact h
section
/-- what the law's own dict tells of the hooks -/
def hmap (hk : List Ent) (j : Kd) : Option (Bool × Int) := match hk.find? (·.hits j) with
  | some (.hook way _ mk) => some (Nat.blt way 2, mk)
  | _ => none
def hkI : Ent → Prop
  | .hook way k _ => (way = 0 ∨ way = 2) ∧ anyNB k = false
  | _ => False
def hkO : Ent → Prop
  | .hook way k _ => (way = 1 ∨ way = 3) ∧ anyNB k = false
  | _ => False
theorem hkI.ok {e : Ent} (h : hkI e) : okI e := by cases e <;> first | exact h.1 | exact h.elim
theorem hkO.ok {e : Ent} (h : hkO e) : okO e := by cases e <;> first | exact h.1 | exact h.elim
theorem plain_in {hk : List Ent} {ow : Bool} {mk : Int} (ok : ∀ e ∈ hk, hkI e) (hmk : 0 ≤ mk) (j : Kd) : ansIn (hk ++ [.tC, .tB]) ow mk j = dueIn (hmap hk) (if ow then mk else -1) j := by
  unfold ansIn dueIn hmap
  rw [List.find?_append]
  cases hf : hk.find? (·.hits j) with
  | some e =>
    have hm := List.mem_of_find?_eq_some hf
    have hb : e.hits j = true := List.find?_some (p := fun x => Ent.hits x j) hf
    have o := ok e hm
    cases e with
    | hook way k mk' =>
      obtain ⟨hw, hk'⟩ := o
      obtain rfl : j = k := of_decide_eq_true hb
      rw [hk']
      rcases hw with rfl | rfl <;> rfl
    | tO => exact o.elim
    | tB => exact o.elim
    | tC => exact o.elim
  | none =>
    have e1 : [Ent.tC, Ent.tB].find? (·.hits j) = if anyNB j then some .tB else none := by
      show (match Ent.hits .tC j with | true => some Ent.tC | false => [Ent.tB].find? (·.hits j)) = _
      show (match anyNB j with | true => some Ent.tB | false => none) = _
      cases anyNB j <;> rfl
    rw [e1]
    cases anyNB j with
    | true => rfl
    | false =>
      show (if ow then Ans.last mk j (some j) else .refused) = if 0 ≤ (if ow then mk else -1) then .last (if ow then mk else -1) j (some j) else .refused
      cases ow with
      | true => simp [hmk]
      | false => rfl
theorem find_non {hk : List Ent} (ok : ∀ e ∈ hk, hkO e) : hk.find? (·.hits .non) = none := by
  rw [List.find?_eq_none]
  intro e he hb
  have o := ok e he
  cases e with
  | hook way k mk' =>
    have : Kd.non = k := of_decide_eq_true hb
    have h2 := o.2
    rw [← this] at h2
    cases h2
  | tO => exact o.elim
  | tB => exact o.elim
  | tC => exact o.elim
theorem out_non {hk : List Ent} {ow : Bool} {mk : Int} (ok : ∀ e ∈ hk, hkO e) : ansOut1 (hk ++ [.tO]) ow mk .non = if ow then .last mk .non none else .val := by
  unfold ansOut1
  rw [List.find?_append, find_non ok]
  rfl
theorem out_non_ne {hk : List Ent} {ow : Bool} {mk : Int} (ok : ∀ e ∈ hk, hkO e) : ansOut1 (hk ++ [.tO]) ow mk .non ≠ .unstr := by
  rw [out_non ok]
  cases ow <;> exact fun h => by cases h
theorem plain_out {hk : List Ent} {ow : Bool} {mk : Int} (ok : ∀ e ∈ hk, hkO e) (hmk : 0 ≤ mk) (j : Kd) : ansOut (hk ++ [.tO]) ow mk j = dueOut (hmap hk) (if ow then mk else -1) j := by
  unfold ansOut dueOut
  cases hf : hk.find? (·.hits j) with
  | some e =>
    have hm := List.mem_of_find?_eq_some hf
    have hb : e.hits j = true := List.find?_some (p := fun x => Ent.hits x j) hf
    have o := ok e hm
    cases e with
    | hook way k mk' =>
      obtain ⟨hw, hk'⟩ := o
      obtain rfl : j = k := of_decide_eq_true hb
      have e2 : ansOut1 (hk ++ [.tO]) ow mk j = hitOut (.hook way j mk') j := by
        unfold ansOut1
        rw [List.find?_append, hf]
        rfl
      have e3 : hmap hk j = some (Nat.blt way 2, mk') := by unfold hmap; rw [hf]
      rw [e2, e3, anyB_of hk']
      rcases hw with rfl | rfl <;> rfl
    | tO => exact o.elim
    | tB => exact o.elim
    | tC => exact o.elim
  | none =>
    have e2 : ansOut1 (hk ++ [.tO]) ow mk j = if anyB j then .unstr else if ow then .last mk j none else .val := by
      unfold ansOut1
      rw [List.find?_append, hf]
      show (match (match anyB j with | true => some Ent.tO | false => none) with | some e => hitOut e j | none => _) = _
      cases anyB j <;> rfl
    have e3 : hmap hk j = none := by unfold hmap; rw [hf]
    rw [e2, e3]
    cases anyB j with
    | true =>
      show ansOut1 (hk ++ [.tO]) ow mk .non = if 0 ≤ (if ow then mk else -1) then .last (if ow then mk else -1) .non none else .val
      rw [out_non ok]
      cases ow with
      | true => simp [hmk]
      | false => rfl
    | false =>
      cases ow with
      | true => simp [hmk]
      | false => rfl
/-- a hook more -/
theorem hmap_cons {hk : List Ent} {way : Nat} {k : Kd} {mk : Int} (j : Kd) : hmap (.hook way k mk :: hk) j = if j = k then some (Nat.blt way 2, mk) else hmap hk j := by
  unfold hmap
  rw [List.find?_cons]
  show (match (match decide (j = k) with | true => some (Ent.hook way k mk) | false => hk.find? (·.hits j)) with | some (.hook way _ mk) => _ | _ => _) = _
  by_cases h : j = k
  · rw [decide_eq_true h, if_pos h]
  · rw [decide_eq_false h, if_neg h]
theorem kdX_inj {j k : Kd} (h : kdX j = kdX k) (hj : anyNB j = false) (hk : anyNB k = false) : j = k := by
  have e : (kdX j == kdX k) = true := by rw [h]; cases k <;> decide +kernel
  revert e
  cases j <;> cases k <;> first | (intro _; rfl) | (cases hj; done) | (cases hk; done) | (intro e; exact absurd e (by decide +kernel))
/-- the dict of a row, with its size -/
def HooksN (w : World) (l : List (Addr × Obj)) (od : Obj) (H : Kd → Option (Bool × Int)) (n : Nat) : Prop :=
  ∃ kvs, od.IsDictOf (strKind PROG w) kvs ∧ kvs.length ≤ n ∧ ∀ k, anyNB k = false → match H k with
    | none => valueAt kvs (kdX k) = none
    | some (b, by') => ∃ a t1 t2, valueAt kvs (kdX k) = some (.ref a) ∧ (a, tupObj [.str (if b then "hook" else "made") t1, .int by' t2]) ∈ l
theorem HooksN.at {w : World} {l : List (Addr × Obj)} {od : Obj} {H : Kd → Option (Bool × Int)} {n : Nat} (h : HooksN w l od H n) : HooksAt w l od H := let ⟨kvs, a, _, b⟩ := h; ⟨kvs, a, b⟩
theorem HooksN.mono {w : World} {l l' : List (Addr × Obj)} {od : Obj} {H : Kd → Option (Bool × Int)} {n n' : Nat} (h : HooksN w l od H n) (k : ∀ p ∈ l, p ∈ l') (hn : n ≤ n') : HooksN w l' od H n' := by
  obtain ⟨kvs, a, c, b⟩ := h
  refine ⟨kvs, a, Nat.le_trans c hn, fun j hj => ?_⟩
  have := b j hj
  revert this
  cases H j with
  | none => exact id
  | some p => exact fun ⟨a, t1, t2, e, m⟩ => ⟨a, t1, t2, e, k _ m⟩
theorem map_other {K : Type} [DecidableEq K] {k j : K} {v : Value} (h : j ≠ k) : ∀ kvs : List (K × Value), ((kvs.map fun kv => if kv.1 = k then (kv.1, v) else kv).find? fun kv => kv.1 = j).map (·.2) = (kvs.find? fun kv => kv.1 = j).map (·.2)
  | [] => rfl
  | x :: r => by
    rw [List.map_cons, List.find?_cons, List.find?_cons]
    by_cases q : x.1 = k
    · have q2 : ¬ x.1 = j := fun e => h (e ▸ q)
      rw [if_pos q]
      simp only [q2, decide_false]
      exact map_other h r
    · rw [if_neg q]
      by_cases q2 : x.1 = j
      · simp only [q2, decide_true]
      · simp only [q2, decide_false]
        exact map_other h r
theorem map_same {K : Type} [DecidableEq K] {k : K} {v : Value} : ∀ kvs : List (K × Value), kvs.any (fun kv => kv.1 = k) = true → ((kvs.map fun kv => if kv.1 = k then (kv.1, v) else kv).find? fun kv => kv.1 = k).map (·.2) = some v
  | [], h => by cases h
  | x :: r, h => by
    rw [List.map_cons, List.find?_cons]
    by_cases q : x.1 = k
    · rw [if_pos q]
      simp only [q, decide_true]
      rfl
    · rw [if_neg q]
      simp only [q, decide_false]
      refine map_same r ?_
      rw [List.any_cons] at h
      simpa [q] using h
theorem valueAt_stored' {K : Type} [DecidableEq K] {kvs : List (K × Value)} {k j : K} {v : Value} : valueAt (stored kvs k v) j = if j = k then some v else valueAt kvs j := by
  unfold valueAt stored
  by_cases ha : kvs.any (fun kv => kv.1 = k) = true
  · rw [if_pos ha]
    by_cases e : j = k
    · subst e
      rw [if_pos rfl]
      exact map_same kvs ha
    · rw [if_neg e]
      exact map_other e kvs
  · rw [if_neg ha, List.find?_append]
    by_cases e : j = k
    · subst e
      have hn : (kvs.find? fun kv => kv.1 = j) = none := by
        rw [List.find?_eq_none]
        intro x hx hq
        exact ha (List.any_eq_true.mpr ⟨x, hx, hq⟩)
      rw [if_pos rfl, hn]
      simp
    · have hn : ([(k, v)].find? fun kv => kv.1 = j) = none := by
        rw [List.find?_eq_none]
        intro x hx hq
        obtain rfl := List.mem_singleton.mp hx
        exact e (of_decide_eq_true hq).symm
      rw [if_neg e, hn, Option.or_none]
theorem stored_length {K : Type} [DecidableEq K] {kvs : List (K × Value)} {k : K} {v : Value} : (stored kvs k v).length ≤ kvs.length + 1 := by
  unfold stored
  split
  · rw [List.length_map]; exact Nat.le_succ _
  · rw [List.length_append]; exact Nat.le_refl _
theorem HooksN.store {w : World} {l : List (Addr × Obj)} {od od' : Obj} {hk : List Ent} {n : Nat} {kvs : List (Str × Value)} {a : Addr} {t1 t2 : Tok} {way : Nat} {k : Kd} {mk : Int} (hl : kvs.length ≤ n)
    (h : ∀ j, anyNB j = false → match hmap hk j with
      | none => valueAt kvs (kdX j) = none
      | some (b, by') => ∃ a t1 t2, valueAt kvs (kdX j) = some (.ref a) ∧ (a, tupObj [.str (if b then "hook" else "made") t1, .int by' t2]) ∈ l)
    (hd : od'.IsDictOf (strKind PROG w) (stored kvs (kdX k) (.ref a))) (hk' : anyNB k = false) (m : (a, tupObj [.str (if Nat.blt way 2 then "hook" else "made") t1, .int mk t2]) ∈ l) : HooksN w l od' (hmap (.hook way k mk :: hk)) (n + 1) := by
  refine ⟨_, hd, Nat.le_trans stored_length (Nat.succ_le_succ hl), fun j hj => ?_⟩
  rw [hmap_cons]
  by_cases e : j = k
  · subst e
    rw [if_pos rfl]
    exact ⟨a, t1, t2, by rw [valueAt_stored', if_pos rfl], m⟩
  · rw [if_neg e]
    have hne : kdX j ≠ kdX k := fun q => e (kdX_inj q hj hk')
    have := h j hj
    revert this
    cases hmap hk j with
    | none => exact fun q => by rw [valueAt_stored', if_neg hne]; exact q
    | some p => exact fun ⟨a, t1, t2, e, m⟩ => ⟨a, t1, t2, by rw [valueAt_stored', if_neg hne]; exact e, m⟩
end
example {M : Model} {A : Around} {E Q : Value → Shared → Prop} {s : Shared} (h : wpAny M A (pure .none) Q E s) : wpAny M A (pure .none) Q E s := by
  w_top off
  first
    | (walk1; fail)
    | exact h
section
/-- a row of the law: its converter, its two dicts, its mark, and what they hold -/
structure RowS where
  C : Conv
  ra : Addr
  hi : Addr
  ho : Addr
  ow : Bool
  mrk : Int
  hI : List Ent
  hO : List Ent
  vsI : List Value
  nI : Nat
  vsO : List Value
  nO : Nat
  odI : Obj
  odO : Obj
  oi : Obj
  oo : Obj
def RowS.pl (r : RowS) : List (Addr × Obj) := [(r.C.I.hp, W.listOf r.vsI.toArray r.nI), (r.C.I.dd, r.odI), (r.hi, r.oi), (r.C.O.hp, W.listOf r.vsO.toArray r.nO), (r.C.O.dd, r.odO), (r.ho, r.oo)]
def RowS.ads (r : RowS) : List Addr := [r.C.I.hp, r.C.I.dd, r.hi, r.C.O.hp, r.C.O.dd, r.ho]
theorem RowS.ads_eq (r : RowS) : r.pl.map (·.1) = r.ads := rfl
def Ents (l : List (Addr × Obj)) (x : Addr) (vs : List Value) (es : List Ent) : Prop := vs.length = es.length ∧ ∀ (i : Nat) v e, vs[i]? = some v → es[i]? = some e → ∃ a, v = Value.ref a ∧ EntAt l x a e
theorem Ents.mono {l l' : List (Addr × Obj)} {x : Addr} {vs : List Value} {es : List Ent} (h : Ents l x vs es) (k : ∀ p ∈ l, p ∈ l') : Ents l' x vs es :=
  ⟨h.1, fun i v e h1 h2 => let ⟨t, e1, e2⟩ := h.2 i v e h1 h2; ⟨t, e1, e2.mono k⟩⟩
theorem Ents.cons {l : List (Addr × Obj)} {x a : Addr} {e : Ent} {vs : List Value} {es : List Ent} (h : Ents l x vs es) (he : EntAt l x a e) : Ents l x (.ref a :: vs) (e :: es) :=
  ⟨by rw [List.length_cons, List.length_cons, h.1], fun i v e' h1 h2 => by
    cases i with
    | zero =>
      obtain rfl : Value.ref a = v := Option.some.inj h1
      obtain rfl : e = e' := Option.some.inj h2
      exact ⟨a, rfl, he⟩
    | succ i => exact h.2 i v e' h1 h2⟩
theorem Ents.nil {l : List (Addr × Obj)} {x : Addr} : Ents l x [] [] := ⟨rfl, fun _ _ _ h => by cases h⟩
structure RowOk (w : World) (imm : List (Addr × Obj)) (k : Nat) (r : RowS) : Prop where
  cv : ConvAt w imm r.C
  fb : ∃ t, FbAt imm r.C r.ow (.int r.mrk t)
  nn : 0 ≤ r.mrk
  row : ∃ t n, (r.ra, W.listOf #[.ref r.C.x, .ref r.hi, .ref r.ho, .int (if r.ow then r.mrk else -1) t] n) ∈ imm
  eI : Ents imm r.C.x r.vsI (r.hI ++ [.tC, .tB])
  eO : Ents imm r.C.x r.vsO (r.hO ++ [.tO])
  kI : ∀ e ∈ r.hI, hkI e
  kO : ∀ e ∈ r.hO, hkO e
  dI : r.odI.IsDictOf (strKind PROG w) []
  dO : r.odO.IsDictOf (strKind PROG w) []
  pI : HooksN w imm r.oi (hmap r.hI) k
  pO : HooksN w imm r.oo (hmap r.hO) k
  s1 : (r.C.I.dd == sysModules) = false
  s2 : (r.C.O.dd == sysModules) = false
  s3 : (r.hi == sysModules) = false
  s4 : (r.ho == sysModules) = false
  lI : r.hI.length ≤ k
  lO : r.hO.length ≤ k
theorem RowOk.mono {w : World} {imm imm' : List (Addr × Obj)} {k k' : Nat} {r : RowS} (h : RowOk w imm k r) (s : ∀ p ∈ imm, p ∈ imm') (hk : k ≤ k') : RowOk w imm' k' r :=
  ⟨h.cv.mono s, let ⟨t, a⟩ := h.fb; ⟨t, a.mono s⟩, h.nn, let ⟨t, n, a⟩ := h.row; ⟨t, n, s _ a⟩, h.eI.mono s, h.eO.mono s, h.kI, h.kO, h.dI, h.dO, h.pI.mono s hk, h.pO.mono s hk, h.s1, h.s2, h.s3, h.s4, Nat.le_trans h.lI hk, Nat.le_trans h.lO hk⟩
/-- what the telling of a row asks -/
theorem RowOk.at {w : World} {imm led : List (Addr × Obj)} {k : Nat} {r : RowS} (h : RowOk w imm k r) (s : ∀ p ∈ imm, p ∈ led) (hp : ∀ p ∈ r.pl, p ∈ led) : RowAt w led r.C (r.hO ++ [.tO]) (r.hI ++ [.tC, .tB]) r.ow r.mrk := by
  have hp' := hp
  unfold RowS.pl at hp'
  simp only [List.forall_mem_cons] at hp'
  obtain ⟨m1, m2, m3, m4, m5, m6, _⟩ := hp'
  refine ⟨h.cv.toBaseAt.mono s, ⟨let ⟨a, b, c⟩ := h.cv.dfO; ⟨a, b, s _ c⟩, ⟨r.vsO, r.nO, m4, h.eO.1, (h.eO.mono s).2⟩, ⟨_, m5, h.dO⟩, h.s2⟩, ⟨let ⟨a, b, c⟩ := h.cv.dfI; ⟨a, b, s _ c⟩, ⟨r.vsI, r.nI, m1, h.eI.1, (h.eI.mono s).2⟩, ⟨_, m2, h.dI⟩, h.s1⟩, let ⟨t, a⟩ := h.fb; ⟨t, a.mono s⟩, ?_, ?_, ?_⟩
  · intro e he
    rcases List.mem_append.mp he with he | he
    · exact (h.kO e he).ok
    · obtain rfl := List.mem_singleton.mp he; trivial
  · intro e he
    rcases List.mem_append.mp he with he | he
    · exact (h.kI e he).ok
    · simp only [List.mem_cons, List.not_mem_nil, or_false] at he
      rcases he with rfl | rfl <;> trivial
  · exact List.mem_append_right _ (List.mem_cons_of_mem _ List.mem_cons_self)
def TabIn (led imm : List (Addr × Obj)) (a : Addr) (q : Str) : Prop := ∃ ps, (a, tabObj ps) ∈ led ∧ TabQ q ps imm
def fixed : List Addr := [226, 447, 454, 482, 433, 440, 468, 475]
def chOf (RL : Addr) (rows : List RowS) : List Addr := fixed ++ RL :: rows.flatMap RowS.ads
structure Tabs (led imm : List (Addr × Obj)) : Prop where
  a : TabIn led imm 226 (qLam "BaseConverter.__init__")
  b : TabIn led imm 447 (qLam "_law_new")
  c : TabIn led imm 454 (qLam "_law_is")
  d : TabIn led imm 482 (qLam "_law_register")
  e : TabIn led imm 433 (qLam "_law_last_out")
  f : TabIn led imm 440 (qLam "_law_last_in")
  g : TabIn led imm 468 (qLam "_law_made_in")
  h : TabIn led imm 475 (qLam "_law_made_out")
structure LawSt (w : World) (led imm : List (Addr × Obj)) (RL : Addr) (rows : List RowS) (k : Nat) : Prop where
  t : Tabs led imm
  rl : ∃ n, (RL, W.listOf (rows.map fun r => Value.ref r.ra).toArray n) ∈ led
  pl : ∀ r ∈ rows, ∀ p ∈ r.pl, p ∈ led
  ok : ∀ r ∈ rows, RowOk w imm k r
theorem TabIn.keep {led led' imm imm' : List (Addr × Obj)} {a : Addr} {q : Str} (h : TabIn led imm a q) (k : ∀ o, (a, o) ∈ led → (a, o) ∈ led') (s : ∀ p ∈ imm, p ∈ imm') : TabIn led' imm' a q := let ⟨ps, m, t⟩ := h; ⟨ps, k _ m, t.mono s⟩
/-- nothing that changes has changed -/
theorem LawSt.keep {w : World} {led led' imm imm' : List (Addr × Obj)} {RL : Addr} {rows : List RowS} {k k' : Nat} (h : LawSt w led imm RL rows k) (kp : ∀ a ∈ chOf RL rows, ∀ o, (a, o) ∈ led → (a, o) ∈ led') (s : ∀ p ∈ imm, p ∈ imm') (hk : k ≤ k') : LawSt w led' imm' RL rows k' := by
  have fx : ∀ a ∈ fixed, ∀ o, (a, o) ∈ led → (a, o) ∈ led' := fun a ha => kp a (List.mem_append_left _ ha)
  refine ⟨⟨h.t.a.keep (fx _ (by decide)) s, h.t.b.keep (fx _ (by decide)) s, h.t.c.keep (fx _ (by decide)) s, h.t.d.keep (fx _ (by decide)) s, h.t.e.keep (fx _ (by decide)) s, h.t.f.keep (fx _ (by decide)) s, h.t.g.keep (fx _ (by decide)) s, h.t.h.keep (fx _ (by decide)) s⟩, ?_, ?_, fun r hr => (h.ok r hr).mono s hk⟩
  · obtain ⟨n, m⟩ := h.rl
    exact ⟨n, kp RL (List.mem_append_right _ List.mem_cons_self) _ m⟩
  · intro r hr p hp
    refine kp p.1 (List.mem_append_right _ (List.mem_cons_of_mem _ (List.mem_flatMap.mpr ⟨r, hr, ?_⟩))) p.2 (h.pl r hr p hp)
    rw [← r.ads_eq]
    exact List.mem_map_of_mem hp
end
example {M : Model} {A : Around} {E Q : Value → Shared → Prop} {s : Shared} (h : wpAny M A (pure .none) Q E s) : wpAny M A (pure .none) Q E s := by
  w_top off
  first
    | (walk1; fail)
    | exact h
section
section
variable {RL : Addr} {rows pre post : List RowS} {r r' : RowS} {w : World} {led led' imm imm' : List (Addr × Obj)} {k k' : Nat}
theorem ch_RL (nd : (chOf RL rows).Nodup) : RL ∉ fixed := fun h => (List.nodup_append.mp nd).2.2 RL h RL List.mem_cons_self rfl
theorem ch_rows (nd : (chOf RL rows).Nodup) {a : Addr} (hr : r ∈ rows) (ha : a ∈ r.ads) : a ∉ fixed ∧ a ≠ RL := by
  have hm : a ∈ rows.flatMap RowS.ads := List.mem_flatMap.mpr ⟨r, hr, ha⟩
  refine ⟨fun h => (List.nodup_append.mp nd).2.2 a h a (List.mem_cons_of_mem _ hm) rfl, fun h => ?_⟩
  subst h
  exact (List.nodup_cons.mp (List.nodup_append.mp nd).2.1).1 hm
theorem ch_split (nd : (chOf RL (pre ++ r :: post)).Nodup) : r.ads.Nodup ∧ (∀ a ∈ r.ads, a ∉ pre.flatMap RowS.ads) ∧ ∀ a ∈ r.ads, a ∉ post.flatMap RowS.ads := by
  have n1 := (List.nodup_cons.mp (List.nodup_append.mp nd).2.1).2
  rw [List.flatMap_append, List.flatMap_cons] at n1
  obtain ⟨_, n2, n3⟩ := List.nodup_append.mp n1
  obtain ⟨n4, _, n5⟩ := List.nodup_append.mp n2
  exact ⟨n4, fun a ha hm => n3 a hm a (List.mem_append_left _ ha) rfl, fun a ha hm => n5 a ha a hm rfl⟩
theorem mem_ch {a : Addr} (hr : r ∈ rows) (ha : a ∈ r.ads) : a ∈ chOf RL rows := List.mem_append_right _ (List.mem_cons_of_mem _ (List.mem_flatMap.mpr ⟨r, hr, ha⟩))
theorem pl_ads {p : Addr × Obj} (hp : p ∈ r.pl) : p.1 ∈ r.ads := by rw [← r.ads_eq]; exact List.mem_map_of_mem hp
theorem ch_set (e : r'.ads = r.ads) : chOf RL (pre ++ r' :: post) = chOf RL (pre ++ r :: post) := by
  unfold chOf
  rw [List.flatMap_append, List.flatMap_append, List.flatMap_cons, List.flatMap_cons, e]
/-- one row turned -/
theorem LawSt.set (h : LawSt w led imm RL (pre ++ r :: post) k) (nd : (chOf RL (pre ++ r :: post)).Nodup)
    (kp : ∀ a, a ≠ 454 → a ≠ 482 → a ∉ r.ads → a ∈ chOf RL (pre ++ r :: post) → ∀ o, (a, o) ∈ led → (a, o) ∈ led') (s : ∀ p ∈ imm, p ∈ imm')
    (t1 : TabIn led' imm' 454 (qLam "_law_is")) (t2 : TabIn led' imm' 482 (qLam "_law_register")) (hp : ∀ p ∈ r'.pl, p ∈ led') (ok : RowOk w imm' k' r') (ra : r'.ra = r.ra) (hk : k ≤ k') : LawSt w led' imm' RL (pre ++ r' :: post) k' := by
  have hr : r ∈ pre ++ r :: post := List.mem_append_right _ List.mem_cons_self
  have fx : ∀ a ∈ fixed, a ≠ 454 → a ≠ 482 → ∀ o, (a, o) ∈ led → (a, o) ∈ led' := fun a ha h1 h2 => kp a h1 h2 (fun hm => (ch_rows nd hr hm).1 ha) (List.mem_append_left _ ha)
  obtain ⟨_, n1, n2⟩ := ch_split nd
  have other : ∀ r2 ∈ pre ++ post, ∀ p ∈ r2.pl, p ∈ led' := by
    intro r2 h2 p hp2
    have ha := pl_ads hp2
    have hr2 : r2 ∈ pre ++ r :: post := by
      rcases List.mem_append.mp h2 with h | h
      · exact List.mem_append_left _ h
      · exact List.mem_append_right _ (List.mem_cons_of_mem _ h)
    have q := ch_rows nd hr2 ha
    refine kp p.1 (fun e => q.1 (e ▸ (by decide : (454 : Addr) ∈ fixed))) (fun e => q.1 (e ▸ (by decide : (482 : Addr) ∈ fixed))) (fun hm => ?_) (mem_ch hr2 ha) p.2 (h.pl r2 hr2 p hp2)
    rcases List.mem_append.mp h2 with h | h
    · exact n1 _ hm (List.mem_flatMap.mpr ⟨r2, h, ha⟩)
    · exact n2 _ hm (List.mem_flatMap.mpr ⟨r2, h, ha⟩)
  refine ⟨⟨h.t.a.keep (fx _ (by decide) (by decide) (by decide)) s, h.t.b.keep (fx _ (by decide) (by decide) (by decide)) s, t1, t2, h.t.e.keep (fx _ (by decide) (by decide) (by decide)) s, h.t.f.keep (fx _ (by decide) (by decide) (by decide)) s, h.t.g.keep (fx _ (by decide) (by decide) (by decide)) s, h.t.h.keep (fx _ (by decide) (by decide) (by decide)) s⟩, ?_, ?_, ?_⟩
  · obtain ⟨n, m⟩ := h.rl
    have nR := ch_RL nd
    have e : ((pre ++ r' :: post).map fun r => Value.ref r.ra) = (pre ++ r :: post).map fun r => Value.ref r.ra := by
      rw [List.map_append, List.map_append, List.map_cons, List.map_cons, ra]
    rw [e]
    exact ⟨n, kp RL (fun e => nR (e ▸ (by decide : (454 : Addr) ∈ fixed))) (fun e => nR (e ▸ (by decide : (482 : Addr) ∈ fixed))) (fun hm => (ch_rows nd hr hm).2 rfl) (List.mem_append_right _ List.mem_cons_self) _ m⟩
  · intro r2 h2
    rcases List.mem_append.mp h2 with h2 | h2
    · exact other r2 (List.mem_append_left _ h2)
    · rcases List.mem_cons.mp h2 with rfl | h2
      · exact hp
      · exact other r2 (List.mem_append_right _ h2)
  · intro r2 h2
    rcases List.mem_append.mp h2 with h2 | h2
    · exact (h.ok r2 (List.mem_append_left _ h2)).mono s hk
    · rcases List.mem_cons.mp h2 with rfl | h2
      · exact ok
      · exact (h.ok r2 (List.mem_append_right _ (List.mem_cons_of_mem _ h2))).mono s hk
/-- a row more -/
theorem LawSt.grow (h : LawSt w led imm RL rows k) (nd : (chOf RL rows).Nodup)
    (kp : ∀ a, a ≠ 226 → a ≠ 447 → a ≠ RL → a ∈ chOf RL rows → ∀ o, (a, o) ∈ led → (a, o) ∈ led') (s : ∀ p ∈ imm, p ∈ imm')
    (t1 : TabIn led' imm' 226 (qLam "BaseConverter.__init__")) (t2 : TabIn led' imm' 447 (qLam "_law_new")) (rl : ∃ n, (RL, W.listOf ((rows.map fun q : RowS => Value.ref q.ra) ++ [Value.ref r.ra]).toArray n) ∈ led')
    (hp : ∀ p ∈ r.pl, p ∈ led') (ok : RowOk w imm' k r) : LawSt w led' imm' RL (rows ++ [r]) k := by
  have nR := ch_RL nd
  have fx : ∀ a ∈ fixed, a ≠ 226 → a ≠ 447 → ∀ o, (a, o) ∈ led → (a, o) ∈ led' := fun a ha h1 h2 => kp a h1 h2 (fun e => nR (e ▸ ha)) (List.mem_append_left _ ha)
  refine ⟨⟨t1, t2, h.t.c.keep (fx _ (by decide) (by decide) (by decide)) s, h.t.d.keep (fx _ (by decide) (by decide) (by decide)) s, h.t.e.keep (fx _ (by decide) (by decide) (by decide)) s, h.t.f.keep (fx _ (by decide) (by decide) (by decide)) s, h.t.g.keep (fx _ (by decide) (by decide) (by decide)) s, h.t.h.keep (fx _ (by decide) (by decide) (by decide)) s⟩, ?_, ?_, ?_⟩
  · rw [List.map_append]; exact rl
  · intro r2 h2 p hp2
    rcases List.mem_append.mp h2 with h2 | h2
    · have ha := pl_ads hp2
      have q := ch_rows nd h2 ha
      exact kp p.1 (fun e => q.1 (e ▸ (by decide : (226 : Addr) ∈ fixed))) (fun e => q.1 (e ▸ (by decide : (447 : Addr) ∈ fixed))) q.2 (mem_ch h2 ha) p.2 (h.pl r2 h2 p hp2)
    · obtain rfl := List.mem_singleton.mp h2
      exact hp p hp2
  · intro r2 h2
    rcases List.mem_append.mp h2 with h2 | h2
    · exact (h.ok r2 h2).mono s (Nat.le_refl _)
    · obtain rfl := List.mem_singleton.mp h2
      exact ok
end
section
variable {h₀ h h' : Heap} {L : Addr} {led imm own pl : List (Addr × Obj)} {ch ch' A B : List Addr} {RL : Addr} {rows : List RowS} {r : RowS}
theorem Led.perm (d : Led h₀ L h led imm ch) (p : ch.Perm ch') : Led h₀ L h led imm ch' :=
  ⟨d.N, d.sub, fun q hq hm => d.off q hq (p.mem_iff.mpr hm), p.nodup_iff.mp d.nd, fun a ha => d.has a (p.mem_iff.mpr ha)⟩
/-- some places turned, new ones made, and things that stand -/
theorem Led.grow (d : Led h₀ L h led imm ch) (N : News h₀ L h' (pl ++ (own ++ rest A led))) (hA : ∀ a ∈ A, a ∈ ch) (hpl : ∀ a ∈ A, ∃ o, (a, o) ∈ pl) (hown : ∀ p ∈ own, (∀ q ∈ led, @LT.lt Nat _ q.1 p.1) ∨ p ∈ imm)
    (hB : ∀ b ∈ B, ∃ o, (b, o) ∈ pl) (fresh : ∀ b ∈ B, ∀ q ∈ led, @LT.lt Nat _ q.1 b) (ndB : B.Nodup) (offB : ∀ p ∈ own, p.1 ∉ B) : Led h₀ L h' (pl ++ (own ++ rest A led)) (own ++ imm) (B ++ ch) := by
  have t := d.turn N hA hpl hown
  refine ⟨t.N, t.sub, fun p hp hm => ?_, List.nodup_append.mpr ⟨ndB, d.nd, fun a ha b hb e => d.lt (fresh a ha) (e ▸ hb)⟩, fun a ha => ?_⟩
  · rcases List.mem_append.mp hm with hm | hm
    · rcases List.mem_append.mp hp with hp | hp
      · exact offB p hp hm
      · exact Nat.lt_irrefl _ (fresh _ hm p (d.sub p hp))
    · exact t.off p hp hm
  · rcases List.mem_append.mp ha with ha | ha
    · obtain ⟨o, ho⟩ := hB a ha
      exact ⟨o, List.mem_append_left _ ho⟩
    · exact t.has a ha
theorem ch_grow {I : Addr} (r : RowS) : ([r.ho, r.hi, r.C.O.hp, r.C.O.dd, r.C.I.hp, r.C.I.dd] ++ I :: chOf RL rows).Perm (I :: chOf RL (rows ++ [r])) := by
  have e : I :: chOf RL (rows ++ [r]) = (I :: chOf RL rows) ++ r.ads := by
    unfold chOf
    rw [List.flatMap_append]
    simp [RowS.ads, List.flatMap]
  rw [e]
  refine List.perm_append_comm.trans (List.Perm.append_left _ ?_)
  unfold RowS.ads
  have : ∀ a b c d e f : Addr, [a, b, c, d, e, f].Perm [e, f, b, c, d, a] := fun a b c d e f => by
    refine (List.perm_append_comm (l₁ := [a, b, c, d]) (l₂ := [e, f])).trans ?_
    refine List.Perm.append_left [e, f] ?_
    exact (List.perm_append_comm (l₁ := [a]) (l₂ := [b, c, d]))
  exact this _ _ _ _ _ _
end
end
example {M : Model} {A : Around} {E Q : Value → Shared → Prop} {s : Shared} (h : wpAny M A (pure .none) Q E s) : wpAny M A (pure .none) Q E s := by
  w_top off
  first
    | (walk1; fail)
    | exact h
section
local macro_rules | `(tactic| walk_at "MY:mem") => `(tactic| first | exact List.mem_cons_self | (refine' List.mem_cons_of_mem _ ?_; walk_at "MY:mem") | assumption | ktr_member)
theorem isList_keep {h h' : Heap} {a : Addr} {items : Array Value} (l : h.IsList a items) (k : ∀ b o, h.get? b = some o → h'.get? b = some o) : h'.IsList a items := by
  obtain ⟨o, e, r⟩ := l
  exact ⟨o, k _ _ e, r⟩
section
variable {w : World} {A₀ A : Around} {base h₀ : Heap} {env : Env} {outer : List Env} {L : Addr} {m mg mb : Str → Option Value} {p : Program} {loose : List Str} {mean : ExcName → Option Value} {s : Shared} {Q E : Value → Shared → Prop} {news l : List (Addr × Obj)}
theorem spec_cell {sl : Addr} {items : Array Value} {k : Int} {t : Tok}
    (hA : A.frames = some (env :: outer)) (hh : A.handled = none) (hd : A.depth ≤ 345) (hu : A.units ≤ 850) (hf : env.frame = some L) (hke : env.scope.kind = .function)
    (B : Below A₀ base outer h₀) (F : Fr h₀ L s.heap m) (X : (Mine.hd.heap_39 w.params).In h₀) (T : Top p loose mean mg mb h₀)
    (N : News h₀ L s.heap news) (hs : h₀.IsList sl items) (hi : ∀ (i : Nat) v, items[i]? = some v → ∃ c t, v = .int c t) (hsz : items.size ≤ 1000) (hk : 0 ≤ k)
    (hQ : ∀ c t h' tk, Fr h₀ L h' m → News h₀ L h' news → Q (.int c t) { s with heap := h', toks := tk }) :
    wpAny (model PROG w) A (call (.ref 431) [.ref sl, .int k t] []) Q E s := by
  refine wp_le 345 850 hA hh hd hu ?_
  walk_at "MY:enter"
  rename_i gg LL hh1 FGG FF NN BB XX TT
  have ls := isList_keep (isList_keep hs FGG.keep) FF.keep
  (focus ((iterate 11 walk1)))
  refine PyProof.Rows.len_list ls (by omega) ?_
  (focus ((iterate 2 walk1)))
  refine ite_both (fun hlt => ?_) (fun _ => ?_)
  · have hlt' := of_decide_eq_true hlt
    obtain ⟨c, tc, hc⟩ : ∃ c t, items[k.toNat]? = some (.int c t) := by
      have h1 : k.toNat < items.size := by omega
      obtain ⟨c, tc, e⟩ := hi k.toNat items[k.toNat] (by simp [h1])
      exact ⟨c, tc, by rw [← e]; simp [h1]⟩
    (focus ((iterate 3 walk1)))
    refine PyProof.Rows.item_list ls hk (by omega) hc ?_
    (focus (walk1))
    rename News h₀ L _ _ => N9
    exact hQ _ _ _ _ (by k_asm) N9
  · (focus ((iterate 2 walk1)))
    rename News h₀ L _ _ => N9
    exact hQ _ _ _ _ (by k_asm) N9
end
end
example {M : Model} {A : Around} {E Q : Value → Shared → Prop} {s : Shared} (h : wpAny M A (pure .none) Q E s) : wpAny M A (pure .none) Q E s := by
  w_top off
  first
    | (walk1; fail)
    | exact h
section
section
variable {w : World} {h₀ h h6 h7 : Heap} {L : Addr} {led imm led6 imm6 nw : List (Addr × Obj)} {pre : List Addr} {RL I : Addr} {rows : List RowS} {r : RowS} {k n : Nat} {it : Obj}
theorem chp_grow (pre : List Addr) (r : RowS) : ([r.ho, r.hi, r.C.O.hp, r.C.O.dd, r.C.I.hp, r.C.I.dd] ++ (pre ++ chOf RL rows)).Perm (pre ++ chOf RL (rows ++ [r])) := by
  have e : pre ++ chOf RL (rows ++ [r]) = (pre ++ chOf RL rows) ++ r.ads := by
    unfold chOf
    rw [List.flatMap_append]
    simp [RowS.ads, List.flatMap]
  rw [e]
  refine List.perm_append_comm.trans (List.Perm.append_left _ ?_)
  unfold RowS.ads
  have : ∀ a b c d e f : Addr, [a, b, c, d, e, f].Perm [e, f, b, c, d, a] := fun a b c d e f => by
    refine (List.perm_append_comm (l₁ := [a, b, c, d]) (l₂ := [e, f])).trans ?_
    refine List.Perm.append_left [e, f] ?_
    exact (List.perm_append_comm (l₁ := [a]) (l₂ := [b, c, d]))
  exact this _ _ _ _ _ _
theorem mem_chp {a : Addr} (h : a ∈ chOf RL rows) : a ∈ pre ++ chOf RL rows := List.mem_append_right _ h
theorem RL_ch : RL ∈ chOf RL rows := List.mem_append_right _ List.mem_cons_self
theorem fixed_ch {a : Addr} (h : a ∈ fixed) : a ∈ chOf RL rows := List.mem_append_left _ h
/-- the row's list appended to the rows -/
theorem row_added (st : LawSt w nw imm RL rows k) (nd : (chOf RL rows).Nodup) (d6 : Led h₀ L h6 led6 imm6 ([r.ho, r.hi, r.C.O.hp, r.C.O.dd, r.C.I.hp, r.C.I.dd] ++ (pre ++ chOf RL rows)))
    (kp : ∀ a o, a ≠ 226 → a ≠ 447 → (a, o) ∈ nw → (a, o) ∈ led6) (s : ∀ p ∈ imm, p ∈ imm6)
    (t1 : TabIn led6 imm6 226 (qLam "BaseConverter.__init__")) (t2 : TabIn led6 imm6 447 (qLam "_law_new")) (hpl : ∀ p ∈ r.pl, p ∈ led6) (ok : RowOk w imm6 k r)
    (N7 : News h₀ L h7 ((RL, W.listOf ((rows.map fun q : RowS => Value.ref q.ra).toArray.push (.ref r.ra)) n) :: rest [RL] led6)) :
    LawSt w ((RL, W.listOf ((rows.map fun q : RowS => Value.ref q.ra).toArray.push (.ref r.ra)) n) :: rest [RL] led6) imm6 RL (rows ++ [r]) k ∧
    Led h₀ L h7 ((RL, W.listOf ((rows.map fun q : RowS => Value.ref q.ra).toArray.push (.ref r.ra)) n) :: rest [RL] led6) imm6 (pre ++ chOf RL (rows ++ [r])) ∧
    ∀ a o, a ≠ RL → (a, o) ∈ led6 → (a, o) ∈ (RL, W.listOf ((rows.map fun q : RowS => Value.ref q.ra).toArray.push (.ref r.ra)) n) :: rest [RL] led6 := by
  have fRL := ch_RL nd
  have d6' := d6.perm (chp_grow pre r)
  have keep : ∀ a o, a ≠ RL → (a, o) ∈ led6 → (a, o) ∈ (RL, W.listOf ((rows.map fun q : RowS => Value.ref q.ra).toArray.push (.ref r.ra)) n) :: rest [RL] led6 := fun a o ha ho =>
    List.mem_cons_of_mem _ (mem_rest.mpr ⟨ho, fun hm => ha (List.mem_singleton.mp hm)⟩)
  have nd' : (chOf RL (rows ++ [r])).Nodup := (List.nodup_append.mp d6'.nd).2.1
  have mr : r ∈ rows ++ [r] := List.mem_append_right _ List.mem_cons_self
  refine ⟨st.grow nd (fun a h1 h2 h3 _ o ho => keep a o h3 (kp a o h1 h2 ho)) s (t1.keep (fun o ho => keep _ o (fun e => fRL (e ▸ (by decide : (226 : Addr) ∈ fixed))) ho) fun p hp => hp) (t2.keep (fun o ho => keep _ o (fun e => fRL (e ▸ (by decide : (447 : Addr) ∈ fixed))) ho) fun p hp => hp) ⟨n, ?_⟩ (fun p hp => keep p.1 p.2 (ch_rows nd' mr (pl_ads hp)).2 (hpl p hp)) ok, ?_, keep⟩
  · rw [← List.push_toArray]
    exact List.mem_cons_self
  · have t := d6'.turn (A := [RL]) (own := []) (pl := [(RL, W.listOf ((rows.map fun q : RowS => Value.ref q.ra).toArray.push (.ref r.ra)) n)]) N7 (List.forall_mem_cons.mpr ⟨mem_chp RL_ch, List.forall_mem_nil _⟩) (List.forall_mem_cons.mpr ⟨⟨_, List.mem_cons_self⟩, List.forall_mem_nil _⟩) (fun p hp => by cases hp)
    exact t
/-- a turn's end: the iterator set apart -/
theorem turn_end (st : LawSt w led imm RL rows k) (d : Led h₀ L h led imm (I :: chOf RL rows)) (mI : (I, it) ∈ led) :
    News h₀ L h ((I, it) :: rest [I] led) ∧ (∀ p ∈ rest [I] led, p.1 ≠ I) ∧ LawSt w (rest [I] led) imm RL rows k ∧ ∀ h', News h₀ L h' (rest [I] led) → Led h₀ L h' (rest [I] led) imm (chOf RL rows) := by
  have nI := (List.nodup_cons.mp d.nd).1
  have dd := d.drop
  refine ⟨news_add dd.N d.N mI, fun p hp => fun e => (mem_rest.mp hp).2 (e ▸ List.mem_cons_self), st.keep (fun a ha o ho => mem_rest.mpr ⟨ho, fun hm => nI ((List.mem_singleton.mp hm : a = I) ▸ ha)⟩) (fun p hp => hp) (Nat.le_refl _), fun h' N' => ⟨N', dd.sub, dd.off, dd.nd, dd.has⟩⟩
end
section
variable {w : World} {l : List (Addr × Obj)} {C : Conv}
theorem ent_tO (h : Firsts l C.x C.tO C.tB C.tC) : EntAt l C.x C.tO .tO := let ⟨f, b, m, a, q⟩ := h.o; ⟨f, b, m, q, a⟩
theorem ent_tB (h : Firsts l C.x C.tO C.tB C.tC) : EntAt l C.x C.tB .tB := let ⟨f, g, m, a, q⟩ := h.b; ⟨f, g, m, a, q⟩
theorem ent_tC (h : Firsts l C.x C.tO C.tB C.tC) : EntAt l C.x C.tC .tC := let ⟨f, m, a⟩ := h.c; ⟨f, 299, m, a, rfl⟩
theorem hooks_nil {od : Obj} (h : od.IsDictOf (strKind PROG w) []) : HooksN w l od (hmap []) 0 := ⟨[], h, Nat.le_refl _, fun _ _ => rfl⟩
end
end
example {M : Model} {A : Around} {E Q : Value → Shared → Prop} {s : Shared} (h : wpAny M A (pure .none) Q E s) : wpAny M A (pure .none) Q E s := by
  w_top off
  first
    | (walk1; fail)
    | exact h
section
local macro_rules | `(tactic| walk_at "MY:mem") => `(tactic| first | exact List.mem_cons_self | (refine' List.mem_cons_of_mem _ ?_; walk_at "MY:mem") | assumption | ktr_member)
local macro_rules | `(tactic| walk_at "eval Name") => `(tactic| (k_here; k_dflt (refine' ld ?k1 ?k2 ?_; (case k1 => k_asm); (case k2 => first | exact rfl | assumption))))
noncomputable def scAt (P : Params) (a : Addr) : Scope := match (Mine.hd.heap_39 P).lookup a with
  | some o => match o.data with
    | .func fd => fd.scope
    | _ => default
  | _ => default
def lawL' : {l : List Stmt // ∀ P, bodyAt P 529 = l} := ⟨_, fun _ => rfl⟩
def lawSc' : {l : Scope // ∀ P, scAt P 529 = l} := ⟨_, fun _ => rfl⟩
abbrev lawL := lawL'.1
abbrev lawSc := lawSc'.1
def forBody : Stmt → List Stmt
  | .For _ _ b _ _ => b
  | _ => []
def forTgt : Stmt → Option Expr
  | .For t _ _ _ _ => some t
  | _ => none
def body1' : {l : List Stmt // (lawL[1]?).map forBody = some l} := ⟨_, rfl⟩
abbrev body1 := body1'.1
/-- between the turns of the first loop -/
def J1 (w : World) (h₀ : Heap) (L sl RL : Addr) (i : Nat) (g : Heap) (m : Str → Option Value) (nw : List (Addr × Obj)) : Prop :=
  g = h₀ ∧ m "script" = some (.ref sl) ∧ m "rows" = some (.ref RL) ∧ ∃ imm rows, LawSt w nw imm RL rows 0 ∧ rows.length = i ∧ ∀ h, News h₀ L h nw → Led h₀ L h nw imm (chOf RL rows)
theorem cover {A : List Addr} {pl led : List (Addr × Obj)} {x : Addr} (h : ∀ q ∈ pl ++ rest A led, @LT.lt Nat _ q.1 x) (hA : ∀ a ∈ A, ∃ o, (a, o) ∈ pl) : ∀ q ∈ led, @LT.lt Nat _ q.1 x := fun q hq => by
  by_cases hm : q.1 ∈ A
  · obtain ⟨o, ho⟩ := hA _ hm
    exact h (q.1, o) (List.mem_append_left _ ho)
  · exact h q (List.mem_append_right _ (mem_rest.mpr ⟨hq, hm⟩))
section
variable {w : World} {A₀ : Around} {base h₀ : Heap} {L fa : Addr} {cd : Value} {gd : List Value} {m mg mb : Str → Option Value} {p : Program} {loose : List Str} {mean : ExcName → Option Value} {s : Shared} {E : Value → Shared → Prop} {R : Result → Shared → Prop}
abbrev lawEnv (L fa : Addr) (cd : Value) : Env := envOf "law" lawSc L fa cd
theorem turn1 {sl RL I : Addr} {it : Obj} {items : Array Value} {i : Nat} {k : Tok} {m₁ : Str → Option Value} {news₁ : List (Addr × Obj)} {hx : Heap} {tkx : Nat} {pos : Pos} {gd}
    (B : Below A₀ base [] h₀) (X : (Mine.hd.heap_39 w.params).In h₀) (T : Top p loose mean mg mb h₀) (hs : h₀.IsList sl items) (hi : ∀ (i : Nat) v, items[i]? = some v → ∃ c t, v = .int c t) (hsz : items.size ≤ 1000)
    (hlt : i < 8) (hJ : J1 w h₀ L sl RL i h₀ m₁ news₁) (hoff : ∀ p ∈ news₁, p.1 ≠ I) (F1 : Fr h₀ L hx m₁) (N1 : News h₀ L hx ((I, it) :: news₁)) :
    wpAny (model PROG w) (⟨none, 310, some [lawEnv L fa cd], gd, 500⟩ : Around) (assign (.Name "k" pos) (lawEnv L fa cd) (.int (0 + (i : Int)) k)) (fun _ s₂ => wpAny (model PROG w) (⟨none, 310, some [lawEnv L fa cd], gd, 500⟩ : Around) (execs body1 (lawEnv L fa cd)) (TPost L s I it (J1 w h₀ L sl RL (i + 1)) R) E s₂) E { s with heap := hx, toks := tkx } := by
  obtain ⟨_, hscr, hrows, imm, rows, st, hlen, hled⟩ := hJ
  have d := (hled hx (fun p hp => N1 p (List.mem_cons_of_mem _ hp))).add N1 hoff
  rw [Int.zero_add]
  obtain ⟨q1, mt1, tq1⟩ := st.t.a
  obtain ⟨q2, mt2, tq2⟩ := st.t.b
  have c1 : (226 : Addr) ∈ I :: chOf RL rows := List.mem_cons_of_mem _ (List.mem_append_left _ (by decide))
  have c2 : (447 : Addr) ∈ I :: chOf RL rows := List.mem_cons_of_mem _ (List.mem_append_left _ (by decide))
  have hA : ∀ a ∈ ([226, 447] : List Addr), a ∈ I :: chOf RL rows := List.forall_mem_cons.mpr ⟨c1, List.forall_mem_cons.mpr ⟨c2, List.forall_mem_nil _⟩⟩
  (focus ((iterate 22 walk1)))
  refine spec_cell (by rfl) (by rfl) (Nat.le_of_ble_eq_true (by rfl)) (Nat.le_of_ble_eq_true (by rfl)) (by rfl) (by rfl) (by k_asm) (by k_asm) (by k_asm) (by k_asm) (by k_asm) hs hi hsz (by omega) ?_
  intro c tc h2 tk2 F2 N2
  (focus ((iterate 2 walk1)))
  have d2 : Led h₀ L h2 ((I, it) :: news₁) imm (I :: chOf RL rows) := ⟨by k_asm, d.sub, d.off, d.nd, d.has⟩
  refine spec_new (imm := imm) (news := rest [226, 447] ((I, it) :: news₁)) (by rfl) (by rfl) (Nat.le_of_ble_eq_true (by rfl)) (Nat.le_of_ble_eq_true (by rfl)) (by rfl) (by rfl) (by k_asm) (by k_asm) (by k_asm) (by k_asm) (d2.front (A := [226, 447]) (pl := [(226, tabObj q1), (447, tabObj q2)]) (List.forall_mem_cons.mpr ⟨List.mem_cons_of_mem _ mt1, List.forall_mem_cons.mpr ⟨List.mem_cons_of_mem _ mt2, List.forall_mem_nil _⟩⟩)) tq1 tq2 (d2.subRest hA) (fun p hp => (mem_rest.mp hp).2) ?_
  intro C ow tp odO odI nO nI ps' qs' own h3 tk3 F3 N3 mtp cv fb tqa tqb dO dI fr offo
  have hcov : ∀ a ∈ ([226, 447] : List Addr), ∃ o, (a, o) ∈ [((226 : Addr), tabObj q1), ((447 : Addr), tabObj q2)] := List.forall_mem_cons.mpr ⟨⟨_, List.mem_cons_self⟩, List.forall_mem_cons.mpr ⟨⟨_, List.mem_cons_of_mem _ List.mem_cons_self⟩, List.forall_mem_nil _⟩⟩
  have fr1 := cover (led := (I, it) :: news₁) fr.lo1 hcov
  have fr2 := cover (led := (I, it) :: news₁) fr.lo2 hcov
  have fr3 := cover (led := (I, it) :: news₁) fr.lo3 hcov
  have fr4 := cover (led := (I, it) :: news₁) fr.lo4 hcov
  have d3 := d2.grow (A := [226, 447]) (own := own) (B := [C.O.hp, C.O.dd, C.I.hp, C.I.dd])
    (pl := [(226, tabObj ps'), (447, tabObj qs'), (C.O.hp, W.listOf [.ref C.tO].toArray nO), (C.O.dd, odO), (C.I.hp, W.listOf [.ref C.tC, .ref C.tB].toArray nI), (C.I.dd, odI)]) N3 hA
    (List.forall_mem_cons.mpr ⟨⟨_, List.mem_cons_self⟩, List.forall_mem_cons.mpr ⟨⟨_, List.mem_cons_of_mem _ List.mem_cons_self⟩, List.forall_mem_nil _⟩⟩)
    (fun p hp => (fr.own p hp).2.2.2.2.imp (fun h => cover h hcov) id)
    (List.forall_mem_cons.mpr ⟨⟨_, by k_mem⟩, List.forall_mem_cons.mpr ⟨⟨_, by k_mem⟩, List.forall_mem_cons.mpr ⟨⟨_, by k_mem⟩, List.forall_mem_cons.mpr ⟨⟨_, by k_mem⟩, List.forall_mem_nil _⟩⟩⟩⟩)
    (List.forall_mem_cons.mpr ⟨fr1, List.forall_mem_cons.mpr ⟨fr2, List.forall_mem_cons.mpr ⟨fr3, List.forall_mem_cons.mpr ⟨fr4, List.forall_mem_nil _⟩⟩⟩⟩)
    (by
      have e1 := fr.n1; have e2 := fr.n2; have e3 := fr.n3; have e4 := fr.n4; have e5 := fr.n5; have e6 := fr.n6
      simp only [List.nodup_cons, List.mem_cons, List.not_mem_nil, or_false, not_or, List.nodup_nil, not_false_eq_true, and_true]
      exact ⟨⟨e1, e2, e3⟩, ⟨e4, e5⟩, e6⟩)
    (fun p hp => by
      obtain ⟨a1, a2, a3, a4, _⟩ := fr.own p hp
      simp only [List.mem_cons, List.not_mem_nil, or_false, not_or]
      exact ⟨a1, a2, a3, a4⟩)
  have kp3 : ∀ a o, a ≠ 226 → a ≠ 447 → (a, o) ∈ (I, it) :: news₁ → (a, o) ∈ [(226, tabObj ps'), (447, tabObj qs'), (C.O.hp, W.listOf [.ref C.tO].toArray nO), (C.O.dd, odO), (C.I.hp, W.listOf [.ref C.tC, .ref C.tB].toArray nI), (C.I.dd, odI)] ++ (own ++ rest [226, 447] ((I, it) :: news₁)) := fun a o h1 h2 ho => d2.kept ho (by
    simp only [List.mem_cons, List.not_mem_nil, or_false, not_or]
    exact ⟨h1, h2⟩)
  have mtp3 : (tp, tupObj [.ref C.x, .bool ow]) ∈ [(226, tabObj ps'), (447, tabObj qs'), (C.O.hp, W.listOf [.ref C.tO].toArray nO), (C.O.dd, odO), (C.I.hp, W.listOf [.ref C.tC, .ref C.tB].toArray nI), (C.I.dd, odI)] ++ (own ++ rest [226, 447] ((I, it) :: news₁)) := List.mem_append_right _ (List.mem_append_left _ mtp)
  have mpl : ∀ p ∈ [(226, tabObj ps'), (447, tabObj qs'), (C.O.hp, W.listOf [.ref C.tO].toArray nO), (C.O.dd, odO), (C.I.hp, W.listOf [.ref C.tC, .ref C.tB].toArray nI), (C.I.dd, odI)], p ∈ [(226, tabObj ps'), (447, tabObj qs'), (C.O.hp, W.listOf [.ref C.tO].toArray nO), (C.O.dd, odO), (C.I.hp, W.listOf [.ref C.tC, .ref C.tB].toArray nI), (C.I.dd, odI)] ++ (own ++ rest [226, 447] ((I, it) :: news₁)) := fun p hp => List.mem_append_left _ hp
  have N3' : News h₀ L h3 ([(226, tabObj ps'), (447, tabObj qs'), (C.O.hp, W.listOf [.ref C.tO].toArray nO), (C.O.dd, odO), (C.I.hp, W.listOf [.ref C.tC, .ref C.tB].toArray nI), (C.I.dd, odI)] ++ (own ++ rest [226, 447] ((I, it) :: news₁))) := N3
  clear N3 hcov fr1 fr2 fr3 fr4
  generalize [(226, tabObj ps'), (447, tabObj qs'), (C.O.hp, W.listOf [.ref C.tO].toArray nO), (C.O.dd, odO), (C.I.hp, W.listOf [.ref C.tC, .ref C.tB].toArray nI), (C.I.dd, odI)] ++ (own ++ rest [226, 447] ((I, it) :: news₁)) = led3 at d3 kp3 mtp3 mpl N3'
  have sI : ∀ p ∈ imm, p ∈ own ++ imm := fun p hp => List.mem_append_right _ hp
  have cv3 : ConvAt w (own ++ imm) C := cv.mono fun p hp => List.mem_append_left _ hp
  have fb3 : FbAt (own ++ imm) C ow (.int (i : Int) k) := fb.mono fun p hp => List.mem_append_left _ hp
  have fs1 := fr.s1
  have fs2 := fr.s2
  have nI226 : I ≠ 226 := fun e => hoff _ mt1 e.symm
  have nI447 : I ≠ 447 := fun e => hoff _ mt2 e.symm
  have mI3 := kp3 I it nI226 nI447 List.mem_cons_self
  clear cv fb fr offo mtp
  generalize own ++ imm = imm3 at d3 sI cv3 fb3 tqa tqb
  obtain ⟨nR, mR⟩ := st.rl
  have fRL := ch_RL (List.nodup_cons.mp d.nd).2
  have mR3 := kp3 RL _ (fun e => fRL (e ▸ (by decide : (226 : Addr) ∈ fixed))) (fun e => fRL (e ▸ (by decide : (447 : Addr) ∈ fixed))) (List.mem_cons_of_mem _ mR)
  have nIR : I ≠ RL := fun e => hoff _ mR e.symm
  simp only [List.forall_mem_cons] at mpl
  obtain ⟨mp1, mp2, mp3, mp4, mp5, mp6, _⟩ := mpl
  cases ow
  · (focus ((iterate 13 walk1)))
    k_dflt (refine' listMethod_K ?N ?m PySem.F.slot_list_append PySem.F.type_list_append ?_; (case N => k_asm); (case m => k_mem))
    (focus ((iterate 6 walk1)))
    k_dflt (refine' newDict_K ?k1 ?k2 (TopRead.nolimit (by k_asm)) ?_; (case k1 => k_asm); (case k2 => k_asm))
    intro dhi h4 oi F4 N4 l4 lo4 hs4 _ _ _
    (focus (walk1))
    k_dflt (refine' newDict_K ?k1 ?k2 (TopRead.nolimit (by k_asm)) ?_; (case k1 => k_asm); (case k2 => k_asm))
    intro dho h5 oo F5 N5 l5 lo5 hs5 _ _ _
    (focus ((iterate 10 walk1)))
    k_dflt (refine' newList_K ?k1 ?k2 ?_; (case k1 => k_asm); (case k2 => k_asm))
    intro ra h6 F6 N6 l6
    (focus (walk1))
    have d6 := ((d3.addN N4 l4).addN N5 l5).push N6 l6
    have fiC := cv3.fi
    refine append_K (news' := (RL, W.listOf ((rows.map fun r => Value.ref r.ra).toArray.push (.ref ra)) (nR + 1)) :: rest [RL] _) F6 (d6.front (A := [RL]) (pl := [(RL, W.listOf (rows.map fun r => Value.ref r.ra).toArray nR)]) (List.forall_mem_cons.mpr ⟨List.mem_cons_of_mem _ (List.mem_cons_of_mem _ (List.mem_cons_of_mem _ mR3)), List.forall_mem_nil _⟩)) (Upd.head fun p hp e => (mem_rest.mp hp).2 (e ▸ List.mem_cons_self)) ?_ ?z
    case z => simp only [List.size_toArray, List.length_map, sizeLine_eq]; omega
    intro h7 F7 N7
    have imL := fun (x : Addr × Obj) (p : Addr × Obj) (hp : p ∈ imm3) => List.mem_cons_of_mem x hp
    obtain ⟨st7, d7, keep7⟩ := row_added (k := 0) (pre := [I]) (r := ⟨C, ra, dhi, dho, false, (i : Int), [], [], [.ref C.tC, .ref C.tB], nI, [.ref C.tO], nO, odI, odO, oi, oo⟩) st (List.nodup_cons.mp d.nd).2 d6
      (fun a o h1 h2 ho => List.mem_cons_of_mem _ (List.mem_cons_of_mem _ (List.mem_cons_of_mem _ (kp3 a o h1 h2 (List.mem_cons_of_mem _ ho))))) (fun p hp => List.mem_cons_of_mem _ (sI p hp))
      ⟨ps', List.mem_cons_of_mem _ (List.mem_cons_of_mem _ (List.mem_cons_of_mem _ mp1)), tqa.mono (imL _)⟩ ⟨qs', List.mem_cons_of_mem _ (List.mem_cons_of_mem _ (List.mem_cons_of_mem _ mp2)), tqb.mono (imL _)⟩
      (List.forall_mem_cons.mpr ⟨List.mem_cons_of_mem _ (List.mem_cons_of_mem _ (List.mem_cons_of_mem _ mp5)), List.forall_mem_cons.mpr ⟨List.mem_cons_of_mem _ (List.mem_cons_of_mem _ (List.mem_cons_of_mem _ mp6)), List.forall_mem_cons.mpr ⟨List.mem_cons_of_mem _ (List.mem_cons_of_mem _ List.mem_cons_self), List.forall_mem_cons.mpr ⟨List.mem_cons_of_mem _ (List.mem_cons_of_mem _ (List.mem_cons_of_mem _ mp3)), List.forall_mem_cons.mpr ⟨List.mem_cons_of_mem _ (List.mem_cons_of_mem _ (List.mem_cons_of_mem _ mp4)), List.forall_mem_cons.mpr ⟨List.mem_cons_of_mem _ List.mem_cons_self, List.forall_mem_nil _⟩⟩⟩⟩⟩⟩)
      ⟨cv3.mono (imL _), ⟨k, fb3.mono (imL _)⟩, Int.natCast_nonneg i, ⟨_, _, List.mem_cons_self⟩, (Ents.nil.cons (ent_tB (fiC.mono (imL _)))).cons (ent_tC (fiC.mono (imL _))), Ents.nil.cons (ent_tO (fiC.mono (imL _))), List.forall_mem_nil _, List.forall_mem_nil _, dI, dO, hooks_nil hs4, hooks_nil hs5, fs2, fs1, lo4, lo5, Nat.le_refl _, Nat.le_refl _⟩ N7
    obtain ⟨NN, offN, stN, ledN⟩ := turn_end (it := it) st7 d7 (keep7 I it nIR (List.mem_cons_of_mem _ (List.mem_cons_of_mem _ (List.mem_cons_of_mem _ mI3))))
    (focus (walk1))
    exact ⟨h₀, h7, _, _, _, rfl, F7, NN, offN, rfl, hscr, hrows, _, rows ++ [_], stN, by rw [List.length_append, hlen]; rfl, ledN⟩
  · (focus ((iterate 13 walk1)))
    k_dflt (refine' listMethod_K ?N ?m PySem.F.slot_list_append PySem.F.type_list_append ?_; (case N => k_asm); (case m => k_mem))
    (focus ((iterate 6 walk1)))
    k_dflt (refine' newDict_K ?k1 ?k2 (TopRead.nolimit (by k_asm)) ?_; (case k1 => k_asm); (case k2 => k_asm))
    intro dhi h4 oi F4 N4 l4 lo4 hs4 _ _ _
    (focus (walk1))
    k_dflt (refine' newDict_K ?k1 ?k2 (TopRead.nolimit (by k_asm)) ?_; (case k1 => k_asm); (case k2 => k_asm))
    intro dho h5 oo F5 N5 l5 lo5 hs5 _ _ _
    (focus ((iterate 8 walk1)))
    k_dflt (refine' newList_K ?k1 ?k2 ?_; (case k1 => k_asm); (case k2 => k_asm))
    intro ra h6 F6 N6 l6
    (focus (walk1))
    have d6 := ((d3.addN N4 l4).addN N5 l5).push N6 l6
    have fiC := cv3.fi
    refine append_K (news' := (RL, W.listOf ((rows.map fun r => Value.ref r.ra).toArray.push (.ref ra)) (nR + 1)) :: rest [RL] _) F6 (d6.front (A := [RL]) (pl := [(RL, W.listOf (rows.map fun r => Value.ref r.ra).toArray nR)]) (List.forall_mem_cons.mpr ⟨List.mem_cons_of_mem _ (List.mem_cons_of_mem _ (List.mem_cons_of_mem _ mR3)), List.forall_mem_nil _⟩)) (Upd.head fun p hp e => (mem_rest.mp hp).2 (e ▸ List.mem_cons_self)) ?_ ?z
    case z => simp only [List.size_toArray, List.length_map, sizeLine_eq]; omega
    intro h7 F7 N7
    have imL := fun (x : Addr × Obj) (p : Addr × Obj) (hp : p ∈ imm3) => List.mem_cons_of_mem x hp
    obtain ⟨st7, d7, keep7⟩ := row_added (k := 0) (pre := [I]) (r := ⟨C, ra, dhi, dho, true, (i : Int), [], [], [.ref C.tC, .ref C.tB], nI, [.ref C.tO], nO, odI, odO, oi, oo⟩) st (List.nodup_cons.mp d.nd).2 d6
      (fun a o h1 h2 ho => List.mem_cons_of_mem _ (List.mem_cons_of_mem _ (List.mem_cons_of_mem _ (kp3 a o h1 h2 (List.mem_cons_of_mem _ ho))))) (fun p hp => List.mem_cons_of_mem _ (sI p hp))
      ⟨ps', List.mem_cons_of_mem _ (List.mem_cons_of_mem _ (List.mem_cons_of_mem _ mp1)), tqa.mono (imL _)⟩ ⟨qs', List.mem_cons_of_mem _ (List.mem_cons_of_mem _ (List.mem_cons_of_mem _ mp2)), tqb.mono (imL _)⟩
      (List.forall_mem_cons.mpr ⟨List.mem_cons_of_mem _ (List.mem_cons_of_mem _ (List.mem_cons_of_mem _ mp5)), List.forall_mem_cons.mpr ⟨List.mem_cons_of_mem _ (List.mem_cons_of_mem _ (List.mem_cons_of_mem _ mp6)), List.forall_mem_cons.mpr ⟨List.mem_cons_of_mem _ (List.mem_cons_of_mem _ List.mem_cons_self), List.forall_mem_cons.mpr ⟨List.mem_cons_of_mem _ (List.mem_cons_of_mem _ (List.mem_cons_of_mem _ mp3)), List.forall_mem_cons.mpr ⟨List.mem_cons_of_mem _ (List.mem_cons_of_mem _ (List.mem_cons_of_mem _ mp4)), List.forall_mem_cons.mpr ⟨List.mem_cons_of_mem _ List.mem_cons_self, List.forall_mem_nil _⟩⟩⟩⟩⟩⟩)
      ⟨cv3.mono (imL _), ⟨k, fb3.mono (imL _)⟩, Int.natCast_nonneg i, ⟨_, _, List.mem_cons_self⟩, (Ents.nil.cons (ent_tB (fiC.mono (imL _)))).cons (ent_tC (fiC.mono (imL _))), Ents.nil.cons (ent_tO (fiC.mono (imL _))), List.forall_mem_nil _, List.forall_mem_nil _, dI, dO, hooks_nil hs4, hooks_nil hs5, fs2, fs1, lo4, lo5, Nat.le_refl _, Nat.le_refl _⟩ N7
    obtain ⟨NN, offN, stN, ledN⟩ := turn_end (it := it) st7 d7 (keep7 I it nIR (List.mem_cons_of_mem _ (List.mem_cons_of_mem _ (List.mem_cons_of_mem _ mI3))))
    (focus (walk1))
    exact ⟨h₀, h7, _, _, _, rfl, F7, NN, offN, rfl, hscr, hrows, _, rows ++ [_], stN, by rw [List.length_append, hlen]; rfl, ledN⟩
end
end
example {M : Model} {A : Around} {E Q : Value → Shared → Prop} {s : Shared} (h : wpAny M A (pure .none) Q E s) : wpAny M A (pure .none) Q E s := by
  w_top off
  first
    | (walk1; fail)
    | exact h
section
local macro_rules | `(tactic| walk_at "MY:mem") => `(tactic| first | exact List.mem_cons_self | (refine' List.mem_cons_of_mem _ ?_; walk_at "MY:mem") | assumption | ktr_member)
section
variable {w : World} {h₀ h2 h3 : Heap} {L : Addr} {led imm own : List (Addr × Obj)} {pre : List Addr} {RL : Addr} {rows : List RowS} {C' : Conv} {ps' q1 : Array Value} {o1 o2 o3 o4 : Obj}
theorem cover2 {A : List Addr} {pl led : List (Addr × Obj)} {x : Addr} (h : ∀ q ∈ pl ++ rest A led, @LT.lt Nat _ q.1 x) (hA : ∀ a ∈ A, ∃ o, (a, o) ∈ pl) : ∀ q ∈ led, @LT.lt Nat _ q.1 x := fun q hq => by
  by_cases hm : q.1 ∈ A
  · obtain ⟨o, ho⟩ := hA _ hm
    exact h (q.1, o) (List.mem_append_left _ ho)
  · exact h q (List.mem_append_right _ (mem_rest.mpr ⟨hq, hm⟩))
theorem copied_led (d2 : Led h₀ L h2 led imm (pre ++ chOf RL rows)) (N3 : News h₀ L h3 ((226, tabObj ps') :: (C'.O.hp, o1) :: (C'.O.dd, o2) :: (C'.I.hp, o3) :: (C'.I.dd, o4) :: (own ++ rest [226] led))) (fr : Fresh4 ((226, tabObj q1) :: rest [226] led) own imm C') :
    Led h₀ L h3 ((226, tabObj ps') :: (C'.O.hp, o1) :: (C'.O.dd, o2) :: (C'.I.hp, o3) :: (C'.I.dd, o4) :: (own ++ rest [226] led)) (own ++ imm) ([C'.O.hp, C'.O.dd, C'.I.hp, C'.I.dd] ++ (pre ++ chOf RL rows)) ∧
    ∀ a o, a ≠ 226 → (a, o) ∈ led → (a, o) ∈ (226, tabObj ps') :: (C'.O.hp, o1) :: (C'.O.dd, o2) :: (C'.I.hp, o3) :: (C'.I.dd, o4) :: (own ++ rest [226] led) := by
  have hcov : ∀ a ∈ ([226] : List Addr), ∃ o, (a, o) ∈ [((226 : Addr), tabObj q1)] := List.forall_mem_cons.mpr ⟨⟨_, List.mem_cons_self⟩, List.forall_mem_nil _⟩
  have fr1 := cover2 (led := led) fr.lo1 hcov
  have fr2 := cover2 (led := led) fr.lo2 hcov
  have fr3 := cover2 (led := led) fr.lo3 hcov
  have fr4 := cover2 (led := led) fr.lo4 hcov
  have hA : ∀ a ∈ ([226] : List Addr), a ∈ pre ++ chOf RL rows := List.forall_mem_cons.mpr ⟨mem_chp (fixed_ch (by decide)), List.forall_mem_nil _⟩
  refine ⟨d2.grow (A := [226]) (own := own) (B := [C'.O.hp, C'.O.dd, C'.I.hp, C'.I.dd]) (pl := [(226, tabObj ps'), (C'.O.hp, o1), (C'.O.dd, o2), (C'.I.hp, o3), (C'.I.dd, o4)]) N3 hA
    (List.forall_mem_cons.mpr ⟨⟨_, List.mem_cons_self⟩, List.forall_mem_nil _⟩)
    (fun p hp => (fr.own p hp).2.2.2.2.imp (fun h => cover2 h hcov) id)
    (List.forall_mem_cons.mpr ⟨⟨_, by k_mem⟩, List.forall_mem_cons.mpr ⟨⟨_, by k_mem⟩, List.forall_mem_cons.mpr ⟨⟨_, by k_mem⟩, List.forall_mem_cons.mpr ⟨⟨_, by k_mem⟩, List.forall_mem_nil _⟩⟩⟩⟩)
    (List.forall_mem_cons.mpr ⟨fr1, List.forall_mem_cons.mpr ⟨fr2, List.forall_mem_cons.mpr ⟨fr3, List.forall_mem_cons.mpr ⟨fr4, List.forall_mem_nil _⟩⟩⟩⟩)
    (by
      have e1 := fr.n1; have e2 := fr.n2; have e3 := fr.n3; have e4 := fr.n4; have e5 := fr.n5; have e6 := fr.n6
      simp only [List.nodup_cons, List.mem_cons, List.not_mem_nil, or_false, not_or, List.nodup_nil, not_false_eq_true, and_true]
      exact ⟨⟨e1, e2, e3⟩, ⟨e4, e5⟩, e6⟩)
    (fun p hp => by
      obtain ⟨a1, a2, a3, a4, _⟩ := fr.own p hp
      simp only [List.mem_cons, List.not_mem_nil, or_false, not_or]
      exact ⟨a1, a2, a3, a4⟩), fun a o h1 ho => ?_⟩
  have := d2.kept (A := [226]) (own := own) (pl := [(226, tabObj ps'), (C'.O.hp, o1), (C'.O.dd, o2), (C'.I.hp, o3), (C'.I.dd, o4)]) ho (fun hm => h1 (List.mem_singleton.mp hm))
  exact this
end
theorem ent_hook {l : List (Addr × Obj)} {x x' a : Addr} {way : Nat} {k : Kd} {mk : Int} (h : EntAt l x a (.hook way k mk)) : EntAt l x' a (.hook way k mk) := h
theorem Ents.front {l : List (Addr × Obj)} {x x' : Addr} {vs : List Value} {hk tl : List Ent} (h : Ents l x vs (hk ++ tl)) (ok : ∀ e ∈ hk, ∃ way k mk, e = .hook way k mk) : Ents l x' (vs.take (vs.length - tl.length)) hk := by
  have hl : vs.length - tl.length = hk.length := by rw [h.1, List.length_append]; omega
  rw [hl]
  refine ⟨by rw [List.length_take, h.1, List.length_append]; omega, fun i v e h1 h2 => ?_⟩
  have hi : i < hk.length := (List.getElem?_eq_some_iff.mp h2).1
  have h1' : vs[i]? = some v := by rw [List.getElem?_take_of_lt hi] at h1; exact h1
  have h2' : (hk ++ tl)[i]? = some e := by rw [List.getElem?_append_left hi]; exact h2
  obtain ⟨a, e1, e2⟩ := h.2 i v e h1' h2'
  obtain ⟨way, k, mk, rfl⟩ := ok e (List.mem_of_getElem? h2)
  exact ⟨a, e1, ent_hook e2⟩
theorem Ents.append {l : List (Addr × Obj)} {x : Addr} {vs us : List Value} {es fs : List Ent} (h : Ents l x vs es) (g : Ents l x us fs) : Ents l x (vs ++ us) (es ++ fs) := by
  refine ⟨by rw [List.length_append, List.length_append, h.1, g.1], fun i v e h1 h2 => ?_⟩
  by_cases hi : i < vs.length
  · rw [List.getElem?_append_left hi] at h1
    rw [List.getElem?_append_left (h.1 ▸ hi)] at h2
    exact h.2 i v e h1 h2
  · rw [List.getElem?_append_right (Nat.le_of_not_lt hi)] at h1
    rw [List.getElem?_append_right (h.1 ▸ Nat.le_of_not_lt hi), ← h.1] at h2
    exact g.2 _ v e h1 h2
theorem hkO.ex {e : Ent} (h : hkO e) : ∃ way k mk, e = .hook way k mk := by cases e <;> first | exact ⟨_, _, _, rfl⟩ | exact h.elim
theorem hkI.ex {e : Ent} (h : hkI e) : ∃ way k mk, e = .hook way k mk := by cases e <;> first | exact ⟨_, _, _, rfl⟩ | exact h.elim
/-- the row of a copy -/
theorem row_copied {w : World} {imm imm' : List (Addr × Obj)} {k : Nat} {r : RowS} {C' : Conv} {ra dhi dho : Addr} {nI nO : Nat} {odI odO oi oo : Obj} {kvsI kvsO : List (Str × Value)} {tmr : Tok} {nmr : Nat}
    (rok : RowOk w imm k r) (s : ∀ p ∈ imm, p ∈ imm') (e1 : C'.uf = .ref (plainO C'.k)) (e2 : C'.sf = .ref (plainI C'.k)) (cv : ConvAt w imm' C') (hrow : (ra, W.listOf #[.ref C'.x, .ref dhi, .ref dho, .int (-1) tmr] nmr) ∈ imm')
    (dI : odI.IsDictOf (strKind PROG w) []) (dO : odO.IsDictOf (strKind PROG w) []) (pI : HooksN w imm' oi (hmap r.hI) k) (pO : HooksN w imm' oo (hmap r.hO) k)
    (s1 : (C'.I.dd == sysModules) = false) (s2 : (C'.O.dd == sysModules) = false) (s3 : (dhi == sysModules) = false) (s4 : (dho == sysModules) = false) :
    RowOk w imm' k ⟨C', ra, dhi, dho, false, 0, r.hI, r.hO, r.vsI.take (r.vsI.length - 2) ++ [.ref C'.tC, .ref C'.tB], nI, r.vsO.take (r.vsO.length - 1) ++ [.ref C'.tO], nO, odI, odO, oi, oo⟩ :=
  ⟨cv, ⟨0, .inl ⟨rfl, e1, e2⟩⟩, Int.le_refl _, ⟨_, _, hrow⟩, ((rok.eI.mono s).front fun e he => (rok.kI e he).ex).append ((Ents.nil.cons (ent_tB cv.fi)).cons (ent_tC cv.fi)), ((rok.eO.mono s).front fun e he => (rok.kO e he).ex).append (Ents.nil.cons (ent_tO cv.fi)), rok.kI, rok.kO, dI, dO, pI, pO, s1, s2, s3, s4, rok.lI, rok.lO⟩
end
example {M : Model} {A : Around} {E Q : Value → Shared → Prop} {s : Shared} (h : wpAny M A (pure .none) Q E s) : wpAny M A (pure .none) Q E s := by
  w_top off
  first
    | (walk1; fail)
    | exact h
section
theorem ite_yes {c : Prop} [Decidable c] {p q : Prop} (hc : c) (h : p) : if c then p else q := by rw [if_pos hc]; exact h
theorem ite_no {c : Prop} [Decidable c] {p q : Prop} (hc : ¬ c) (h : q) : if c then p else q := by rw [if_neg hc]; exact h
theorem ent_of {l : List (Addr × Obj)} {x tup : Addr} {way : Nat} {j : Kd} {tk tm : Tok} {mk : Int} (h : HookAt l way tup (kdV j tk) (.int mk tm)) : EntAt l x tup (.hook way j mk) :=
  let ⟨f, g, cl, cm, a, b, c, d, e⟩ := h; ⟨f, g, a, ⟨cl, tk, b, c⟩, ⟨cm, tm, d, e⟩⟩
theorem pl_rest {w : World} {nw led imm : List (Addr × Obj)} {RL : Addr} {rows : List RowS} {r : RowS} {k : Nat} {A : List Addr} (st : LawSt w nw imm RL rows k) (nd : (chOf RL rows).Nodup) (hr : r ∈ rows) (sub : ∀ p ∈ nw, p ∈ led) (hA : ∀ a ∈ A, a ∈ fixed) : ∀ p ∈ r.pl, p ∈ rest A led :=
  fun p hp => mem_rest.mpr ⟨sub p (st.pl r hr p hp), fun hm => (ch_rows nd hr (pl_ads hp)).1 (hA _ hm)⟩
section
variable (r : RowS)
theorem RowS.p1 : (r.C.I.hp, W.listOf r.vsI.toArray r.nI) ∈ r.pl := List.mem_cons_self
theorem RowS.p2 : (r.C.I.dd, r.odI) ∈ r.pl := List.mem_cons_of_mem _ List.mem_cons_self
theorem RowS.p3 : (r.hi, r.oi) ∈ r.pl := List.mem_cons_of_mem _ (List.mem_cons_of_mem _ List.mem_cons_self)
theorem RowS.p4 : (r.C.O.hp, W.listOf r.vsO.toArray r.nO) ∈ r.pl := List.mem_cons_of_mem _ (List.mem_cons_of_mem _ (List.mem_cons_of_mem _ List.mem_cons_self))
theorem RowS.p5 : (r.C.O.dd, r.odO) ∈ r.pl := List.mem_cons_of_mem _ (List.mem_cons_of_mem _ (List.mem_cons_of_mem _ (List.mem_cons_of_mem _ List.mem_cons_self)))
theorem RowS.p6 : (r.ho, r.oo) ∈ r.pl := List.mem_cons_of_mem _ (List.mem_cons_of_mem _ (List.mem_cons_of_mem _ (List.mem_cons_of_mem _ (List.mem_cons_of_mem _ List.mem_cons_self))))
theorem RowS.a1 : r.C.I.hp ∈ r.ads := pl_ads r.p1
theorem RowS.a2 : r.C.I.dd ∈ r.ads := pl_ads r.p2
theorem RowS.a3 : r.hi ∈ r.ads := pl_ads r.p3
theorem RowS.a4 : r.C.O.hp ∈ r.ads := pl_ads r.p4
theorem RowS.a5 : r.C.O.dd ∈ r.ads := pl_ads r.p5
theorem RowS.a6 : r.ho ∈ r.ads := pl_ads r.p6
end
/-- the six places of a row stand apart -/
theorem ads_ne {r : RowS} (nd : r.ads.Nodup) : (r.C.I.hp ≠ r.C.I.dd ∧ r.C.I.hp ≠ r.hi ∧ r.C.I.hp ≠ r.C.O.hp ∧ r.C.I.hp ≠ r.C.O.dd ∧ r.C.I.hp ≠ r.ho) ∧ (r.C.I.dd ≠ r.hi ∧ r.C.I.dd ≠ r.C.O.hp ∧ r.C.I.dd ≠ r.C.O.dd ∧ r.C.I.dd ≠ r.ho) ∧ (r.hi ≠ r.C.O.hp ∧ r.hi ≠ r.C.O.dd ∧ r.hi ≠ r.ho) ∧ (r.C.O.hp ≠ r.C.O.dd ∧ r.C.O.hp ≠ r.ho) ∧ r.C.O.dd ≠ r.ho := by
  unfold RowS.ads at nd
  simpa only [List.nodup_cons, List.mem_cons, List.not_mem_nil, or_false, not_or, List.nodup_nil, not_false_eq_true, and_true] using nd
theorem HooksN.copy {w : World} {l : List (Addr × Obj)} {od : Obj} {H : Kd → Option (Bool × Int)} {n : Nat} (h : HooksN w l od H n) : ∃ kvs, od.IsDictOf (strKind PROG w) kvs ∧ kvs.length ≤ n ∧ ∀ l' od', od'.IsDictOf (strKind PROG w) kvs → (∀ p ∈ l, p ∈ l') → HooksN w l' od' H n := by
  obtain ⟨kvs, a, c, b⟩ := h
  refine ⟨kvs, a, c, fun l' od' hd s => ?_⟩
  exact HooksN.mono (l := l) ⟨kvs, hd, c, b⟩ s (Nat.le_refl _)
theorem HooksN.open {w : World} {l : List (Addr × Obj)} {od : Obj} {hk : List Ent} {n : Nat} (h : HooksN w l od (hmap hk) n) : ∃ kvs, od.IsDictOf (strKind PROG w) kvs ∧ kvs.length ≤ n ∧ ∀ (l' : List (Addr × Obj)) (od' : Obj) a t1 t2 way k mk, (∀ p ∈ l, p ∈ l') → od'.IsDictOf (strKind PROG w) (stored kvs (kdX k) (.ref a)) → anyNB k = false → (a, tupObj [.str (if Nat.blt way 2 then "hook" else "made") t1, .int mk t2]) ∈ l' → HooksN w l' od' (hmap (.hook way k mk :: hk)) (n + 1) := by
  obtain ⟨kvs, hd, hl, hv⟩ := h
  refine ⟨kvs, hd, hl, fun l' od' a t1 t2 way k mk s hd' hk' m => ?_⟩
  obtain ⟨kvs', a1, a2, a3⟩ := HooksN.mono (l := l) (od := od) (n' := n) ⟨kvs, hd, hl, hv⟩ s (Nat.le_refl _)
  refine HooksN.store (od := od) (kvs := kvs) hl (fun j hj => ?_) hd' hk' m
  have := hv j hj
  revert this
  cases hmap hk j with
  | none => exact id
  | some p => exact fun ⟨a, t1, t2, e, m⟩ => ⟨a, t1, t2, e, s _ m⟩
section
variable {w : World} {h₀ h h1 : Heap} {L : Addr} {nw led led3 imm imm3 own : List (Addr × Obj)} {P : List Addr} {RL I : Addr} {rows pre post : List RowS} {r r' : RowS} {k : Nat} {a b : Addr} {o1 o2 o3 o4 x1 x2 x3 x4 it : Obj}
/-- the ledger behind a registration -/
theorem reg_led (d : Led h₀ L h led imm (P ++ chOf RL rows)) (hr : r ∈ rows) (ha : a ∈ r.ads) (hb : b ∈ r.ads)
    (N1 : News h₀ L h1 ((454, o1) :: (482, o2) :: (a, o3) :: (b, o4) :: (own ++ rest [454, 482, a, b] led))) (off : OwnOff [454, 482, a, b] ((454, x1) :: (482, x2) :: (a, x3) :: (b, x4) :: rest [454, 482, a, b] led) own imm) :
    Led h₀ L h1 ((454, o1) :: (482, o2) :: (a, o3) :: (b, o4) :: (own ++ rest [454, 482, a, b] led)) (own ++ imm) (P ++ chOf RL rows) ∧
    ∀ x o, x ≠ 454 → x ≠ 482 → x ≠ a → x ≠ b → (x, o) ∈ led → (x, o) ∈ (454, o1) :: (482, o2) :: (a, o3) :: (b, o4) :: (own ++ rest [454, 482, a, b] led) := by
  have hcov : ∀ y ∈ ([454, 482, a, b] : List Addr), ∃ o, (y, o) ∈ [((454 : Addr), x1), (482, x2), (a, x3), (b, x4)] :=
    List.forall_mem_cons.mpr ⟨⟨x1, by simp⟩, List.forall_mem_cons.mpr ⟨⟨x2, by simp⟩, List.forall_mem_cons.mpr ⟨⟨x3, by simp⟩, List.forall_mem_cons.mpr ⟨⟨x4, by simp⟩, List.forall_mem_nil _⟩⟩⟩⟩
  have hcov2 : ∀ y ∈ ([454, 482, a, b] : List Addr), ∃ o, (y, o) ∈ [((454 : Addr), o1), (482, o2), (a, o3), (b, o4)] :=
    List.forall_mem_cons.mpr ⟨⟨o1, by simp⟩, List.forall_mem_cons.mpr ⟨⟨o2, by simp⟩, List.forall_mem_cons.mpr ⟨⟨o3, by simp⟩, List.forall_mem_cons.mpr ⟨⟨o4, by simp⟩, List.forall_mem_nil _⟩⟩⟩⟩
  have hA : ∀ y ∈ ([454, 482, a, b] : List Addr), y ∈ P ++ chOf RL rows := List.forall_mem_cons.mpr ⟨mem_chp (fixed_ch (by decide)), List.forall_mem_cons.mpr ⟨mem_chp (fixed_ch (by decide)), List.forall_mem_cons.mpr ⟨mem_chp (mem_ch hr ha), List.forall_mem_cons.mpr ⟨mem_chp (mem_ch hr hb), List.forall_mem_nil _⟩⟩⟩⟩
  refine ⟨d.turn (A := [454, 482, a, b]) (own := own) (pl := [(454, o1), (482, o2), (a, o3), (b, o4)]) N1 hA hcov2 (fun p hp => (off p hp).2.imp (fun h => cover2 h hcov) id), fun x o n1 n2 n3 n4 ho => ?_⟩
  have := d.kept (A := [454, 482, a, b]) (own := own) (pl := [(454, o1), (482, o2), (a, o3), (b, o4)]) ho (by simp only [List.mem_cons, List.not_mem_nil, or_false, not_or]; exact ⟨n1, n2, n3, n4⟩)
  exact this
/-- the turn's end behind a registration -/
theorem reg_end (st : LawSt w nw imm RL (pre ++ r :: post) k) (nd : (chOf RL (pre ++ r :: post)).Nodup) (d : Led h₀ L h led3 imm3 (I :: chOf RL (pre ++ r :: post))) (mI : (I, it) ∈ led3)
    (kp : ∀ x o, x ≠ 454 → x ≠ 482 → x ∉ r.ads → (x, o) ∈ nw → (x, o) ∈ led3) (s : ∀ p ∈ imm, p ∈ imm3) (t1 : TabIn led3 imm3 454 (qLam "_law_is")) (t2 : TabIn led3 imm3 482 (qLam "_law_register"))
    (hp : ∀ p ∈ r'.pl, p ∈ led3) (ok : RowOk w imm3 (k + 1) r') (ea : r'.ads = r.ads) (ra : r'.ra = r.ra) :
    News h₀ L h ((I, it) :: rest [I] led3) ∧ (∀ p ∈ rest [I] led3, p.1 ≠ I) ∧ LawSt w (rest [I] led3) imm3 RL (pre ++ r' :: post) (k + 1) ∧ ∀ h', News h₀ L h' (rest [I] led3) → Led h₀ L h' (rest [I] led3) imm3 (chOf RL (pre ++ r' :: post)) := by
  have e := ch_set (RL := RL) (pre := pre) (post := post) ea
  refine turn_end (st.set nd (fun a h1 h2 h3 _ o ho => kp a o h1 h2 h3 ho) s t1 t2 hp ok ra (Nat.le_succ k)) ?_ mI
  rw [e]
  exact d
/-- the same, with the ledger out of sight -/
theorem reg_led2 {x tup : Addr} {way : Nat} {j : Kd} {tk tm : Tok} {mk : Int} {ps' qs' : Array Value} (d : Led h₀ L h led imm (P ++ chOf RL rows)) (hr : r ∈ rows) (ha : a ∈ r.ads) (hb : b ∈ r.ads)
    (N1 : News h₀ L h1 ((454, tabObj ps') :: (482, tabObj qs') :: (a, o3) :: (b, o4) :: (own ++ rest [454, 482, a, b] led))) (off : OwnOff [454, 482, a, b] ((454, x1) :: (482, x2) :: (a, x3) :: (b, x4) :: rest [454, 482, a, b] led) own imm)
    (hk : HookAt own way tup (kdV j tk) (.int mk tm)) (t1 : TabQ (qLam "_law_is") ps' (own ++ imm)) (t2 : TabQ (qLam "_law_register") qs' (own ++ imm)) :
    ∃ led5 imm5, Led h₀ L h1 led5 imm5 (P ++ chOf RL rows) ∧ (∀ y o, y ≠ 454 → y ≠ 482 → y ≠ a → y ≠ b → (y, o) ∈ led → (y, o) ∈ led5) ∧ (∀ p ∈ imm, p ∈ imm5) ∧ TabIn led5 imm5 454 (qLam "_law_is") ∧ TabIn led5 imm5 482 (qLam "_law_register") ∧ EntAt imm5 x tup (.hook way j mk) ∧ (a, o3) ∈ led5 ∧ (b, o4) ∈ led5 := by
  obtain ⟨u1, u2⟩ := reg_led d hr ha hb N1 off
  exact ⟨_, own ++ imm, u1, u2, fun p hp => List.mem_append_right _ hp, ⟨_, List.mem_cons_self, t1⟩, ⟨_, List.mem_cons_of_mem _ List.mem_cons_self, t2⟩, ent_of (hk.mono fun p hp => List.mem_append_left _ hp), List.mem_cons_of_mem _ (List.mem_cons_of_mem _ List.mem_cons_self), List.mem_cons_of_mem _ (List.mem_cons_of_mem _ (List.mem_cons_of_mem _ List.mem_cons_self))⟩
theorem copied_led2 {C' : Conv} {ps' q1 : Array Value} {q : Str} (d2 : Led h₀ L h led imm (P ++ chOf RL rows)) (N3 : News h₀ L h1 ((226, tabObj ps') :: (C'.O.hp, o1) :: (C'.O.dd, o2) :: (C'.I.hp, o3) :: (C'.I.dd, o4) :: (own ++ rest [226] led))) (fr : Fresh4 ((226, tabObj q1) :: rest [226] led) own imm C')
    (tq : TabQ q ps' (own ++ imm)) (cv : ConvAt w own C') :
    ∃ led5 imm5, Led h₀ L h1 led5 imm5 ([C'.O.hp, C'.O.dd, C'.I.hp, C'.I.dd] ++ (P ++ chOf RL rows)) ∧ (∀ y o, y ≠ 226 → (y, o) ∈ led → (y, o) ∈ led5) ∧ (∀ p ∈ imm, p ∈ imm5) ∧ TabIn led5 imm5 226 q ∧ ConvAt w imm5 C' ∧ (C'.O.hp, o1) ∈ led5 ∧ (C'.O.dd, o2) ∈ led5 ∧ (C'.I.hp, o3) ∈ led5 ∧ (C'.I.dd, o4) ∈ led5 := by
  obtain ⟨u1, u2⟩ := copied_led d2 N3 fr
  exact ⟨_, own ++ imm, u1, u2, fun p hp => List.mem_append_right _ hp, ⟨_, List.mem_cons_self, tq⟩, cv.mono fun p hp => List.mem_append_left _ hp, List.mem_cons_of_mem _ List.mem_cons_self, List.mem_cons_of_mem _ (List.mem_cons_of_mem _ List.mem_cons_self), List.mem_cons_of_mem _ (List.mem_cons_of_mem _ (List.mem_cons_of_mem _ List.mem_cons_self)), List.mem_cons_of_mem _ (List.mem_cons_of_mem _ (List.mem_cons_of_mem _ (List.mem_cons_of_mem _ List.mem_cons_self)))⟩
/-- a tuple made, and a dict of the row turned -/
theorem set_led {tv : Addr} {ot o7 : Obj} (d5 : Led h₀ L h led imm (P ++ chOf RL rows)) (Ny : News h₀ L h1 ((tv, ot) :: led)) (ly : ∀ p ∈ led, @LT.lt Nat _ p.1 tv) {h7 : Heap} (hr : r ∈ rows) (ha : a ∈ r.ads) (N7 : News h₀ L h7 ((a, o7) :: rest [a] ((tv, ot) :: led))) :
    ∃ led7 imm7, Led h₀ L h7 led7 imm7 (P ++ chOf RL rows) ∧ (∀ y o, y ≠ a → (y, o) ∈ led → (y, o) ∈ led7) ∧ (∀ p ∈ imm, p ∈ imm7) ∧ (tv, ot) ∈ imm7 ∧ (a, o7) ∈ led7 := by
  have d6 := d5.push Ny ly
  exact ⟨_, _, d6.turn (A := [a]) (own := []) (pl := [(a, o7)]) N7 (List.forall_mem_cons.mpr ⟨mem_chp (mem_ch hr ha), List.forall_mem_nil _⟩) (List.forall_mem_cons.mpr ⟨⟨_, List.mem_cons_self⟩, List.forall_mem_nil _⟩) (fun p hp => by cases hp),
    fun y o hn ho => List.mem_cons_of_mem _ (mem_rest.mpr ⟨List.mem_cons_of_mem _ ho, fun hm => hn (List.mem_singleton.mp hm)⟩), fun p hp => List.mem_cons_of_mem _ hp, List.mem_cons_self, List.mem_cons_self⟩
end
end
example {M : Model} {A : Around} {E Q : Value → Shared → Prop} {s : Shared} (h : wpAny M A (pure .none) Q E s) : wpAny M A (pure .none) Q E s := by
  w_top off
  first
    | (walk1; fail)
    | exact h
section
local macro_rules | `(tactic| walk_at "MY:mem") => `(tactic| first | exact List.mem_cons_self | (refine' List.mem_cons_of_mem _ ?_; walk_at "MY:mem") | assumption | ktr_member)
local macro_rules | `(tactic| walk_at "eval Name") => `(tactic| (k_here; k_dflt (refine' ld ?k1 ?k2 ?_; (case k1 => k_asm); (case k2 => first | exact rfl | assumption))))
def body2' : {l : List Stmt // (lawL[2]?).map forBody = some l} := ⟨_, rfl⟩
abbrev body2 := body2'.1
/-- between the turns of the second loop -/
def J2 (w : World) (h₀ : Heap) (L sl RL : Addr) (i : Nat) (g : Heap) (m : Str → Option Value) (nw : List (Addr × Obj)) : Prop :=
  g = h₀ ∧ m "script" = some (.ref sl) ∧ m "rows" = some (.ref RL) ∧ ∃ imm rows, LawSt w nw imm RL rows i ∧ 1 ≤ rows.length ∧ rows.length ≤ 8 ∧ ∀ h, News h₀ L h nw → Led h₀ L h nw imm (chOf RL rows)
section
variable {w : World} {A₀ : Around} {base h₀ : Heap} {L fa : Addr} {cd : Value} {m mg mb : Str → Option Value} {p : Program} {loose : List Str} {mean : ExcName → Option Value} {s : Shared} {E : Value → Shared → Prop} {R : Result → Shared → Prop}
theorem turn2 {sl RL I : Addr} {it : Obj} {items : Array Value} {i : Nat} {k : Tok} {m₁ : Str → Option Value} {news₁ : List (Addr × Obj)} {hx : Heap} {tkx : Nat} {pos : Pos} {gd}
    (B : Below A₀ base [] h₀) (X : (Mine.hd.heap_39 w.params).In h₀) (T : Top p loose mean mg mb h₀) (hs : h₀.IsList sl items) (hi : ∀ (i : Nat) v, items[i]? = some v → ∃ c t, v = .int c t) (hsz : items.size ≤ 1000)
    (hlt : i < 8) (hJ : J2 w h₀ L sl RL i h₀ m₁ news₁) (hoff : ∀ p ∈ news₁, p.1 ≠ I) (F1 : Fr h₀ L hx m₁) (N1 : News h₀ L hx ((I, it) :: news₁))
    (hB : ∀ m' nw h' tk imm rows, m' "script" = some (.ref sl) → m' "rows" = some (.ref RL) → LawSt w nw imm RL rows 8 → 1 ≤ rows.length → rows.length ≤ 8 → Led h₀ L h' nw imm (chOf RL rows) → Fr h₀ L h' m' → R (.ok .next) { s with heap := h', toks := tk }) :
    wpAny (model PROG w) (⟨none, 310, some [lawEnv L fa cd], gd, 500⟩ : Around) (assign (.Name "k" pos) (lawEnv L fa cd) (.int (0 + (i : Int)) k)) (fun _ s₂ => wpAny (model PROG w) (⟨none, 310, some [lawEnv L fa cd], gd, 500⟩ : Around) (execs body2 (lawEnv L fa cd)) (TPost L s I it (J2 w h₀ L sl RL (i + 1)) R) E s₂) E { s with heap := hx, toks := tkx } := by
  obtain ⟨_, hscr, hrows, imm, rows, st, hl1, hl8, hled⟩ := hJ
  have d0 := hled hx (fun p hp => N1 p (List.mem_cons_of_mem _ hp))
  have d := d0.add N1 hoff
  rw [Int.zero_add]
  obtain ⟨nR, mR⟩ := st.rl
  (focus ((iterate 16 walk1)))
  refine spec_cell (by rfl) (by rfl) (Nat.le_of_ble_eq_true (by rfl)) (Nat.le_of_ble_eq_true (by rfl)) (by rfl) (by rfl) (by k_asm) (by k_asm) (by k_asm) (by k_asm) (by k_asm) hs hi hsz (by omega) ?_
  intro c tc h2 tk2 F2 N2
  (focus ((iterate 15 walk1)))
  refine PyProof.Rows.len_list (isList_keep hs (by k_asm : Fr h₀ L _ _).keep) (by omega) ?_
  (focus ((iterate 2 walk1)))
  refine ite_both (fun _ => ?_) (fun _ => ?_)
  · (focus ((iterate 3 walk1)))
    (try dsimp only [TPost])
    rename News _ L _ _ => NN
    rename Fr _ L _ _ => FF
    exact hB _ _ _ _ imm rows (by exact hscr) (by exact hrows) ((st.keep (fun a _ o ho => List.mem_cons_of_mem _ ho) (fun p hp => hp) (by omega) : LawSt w ((I, it) :: news₁) imm RL rows 8)) hl1 hl8 (d0.skip NN) FF
  · (focus ((iterate 17 walk1)))
    refine PyProof.Rows.len_list (News.isList (by k_asm) (by k_mem)) (by simp only [List.size_toArray, List.length_map]; omega) ?_
    have esz : (rows.map fun r => Value.ref r.ra).toArray.size = rows.length := by simp only [List.size_toArray, List.length_map]
    rw [esz]
    skip
    refine PyProof.Rows.mod_int (by omega) ?_
    have hn0 := Int.fmod_nonneg_of_pos (c.fdiv 5) (show (0 : Int) < rows.length by omega)
    have hn1 := Int.fmod_lt_of_pos (c.fdiv 5) (show (0 : Int) < rows.length by omega)
    generalize (c.fdiv 5).fmod (rows.length : Int) = ix at hn0 hn1 ⊢
    obtain ⟨pre, r, post, erows, hix⟩ : ∃ pre r post, rows = pre ++ r :: post ∧ (rows.map fun r => Value.ref r.ra).toArray[ix.toNat]? = some (Value.ref r.ra) := by
      have h1 : ix.toNat < rows.length := by omega
      obtain ⟨pre, post, e⟩ := List.append_of_mem (List.getElem_mem h1)
      exact ⟨pre, _, post, e, by simp [h1]⟩
    have mr : r ∈ rows := by rw [erows]; exact List.mem_append_right _ List.mem_cons_self
    have rok := st.ok r mr
    obtain ⟨tmr, nmr, mrow⟩ := rok.row
    have mrow2 := d.sub _ mrow
    skip
    refine PyProof.Rows.item_list (News.isList (by k_asm) (by k_mem)) hn0 (by omega) hix ?_
    (focus ((iterate 21 walk1)))
    refine PyProof.Rows.mod_int (by decide) ?_
    have hw0 := Int.fmod_nonneg_of_pos c (show (0 : Int) < 5 by decide)
    have hw1 := Int.fmod_lt_of_pos c (show (0 : Int) < 5 by decide)
    have hk0 := Int.fmod_nonneg_of_pos (c.fdiv 60) (show (0 : Int) < 4 by decide)
    have hk1 := Int.fmod_lt_of_pos (c.fdiv 60) (show (0 : Int) < 4 by decide)
    have nd := d0.nd
    have nIR : I ≠ RL := fun e => hoff _ mR e.symm
    have nI226 : (226 : Addr) ≠ I := fun e => (List.nodup_cons.mp d.nd).1 (e ▸ fixed_ch (by decide))
    (focus ((iterate 3 walk1)))
    (try dsimp only)
    refine ite_both (fun h4 => ?_) (fun h4 => ?_)
    · (focus ((iterate 10 walk1)))
      refine PyProof.Rows.len_list (News.isList (by k_asm) (by k_mem)) (by simp only [List.size_toArray, List.length_map]; omega) ?_
      rw [esz]
      (focus ((iterate 3 walk1)))
      (try dsimp only)
      refine ite_both (fun h8 => ?_) (fun _ => ?_)
      · have h8' := of_decide_eq_true h8
        (focus ((iterate 4 walk1)))
        k_dflt (refine' listMethod_K ?N ?m PySem.F.slot_list_append PySem.F.type_list_append ?_; (case N => k_asm); (case m => k_mem))
        (focus ((iterate 16 walk1)))
        (try dsimp only)
        obtain ⟨q1, mt1, tq1⟩ := st.t.a
        rename News _ L _ _ => NN
        have d2 : Led h₀ L _ ((I, it) :: news₁) imm ([I] ++ chOf RL rows) := ⟨NN, d.sub, d.off, d.nd, d.has⟩
        have hA : ∀ a ∈ ([226] : List Addr), a ∈ [I] ++ chOf RL rows := List.forall_mem_cons.mpr ⟨mem_chp (fixed_ch (by decide)), List.forall_mem_nil _⟩
        have hpl := pl_rest (A := [226]) (led := (I, it) :: news₁) st nd mr (fun p hp => List.mem_cons_of_mem _ hp) (List.forall_mem_cons.mpr ⟨by decide, List.forall_mem_nil _⟩)
        have lI := rok.lI; have lO := rok.lO
        have eI1 := rok.eI.1; have eO1 := rok.eO.1
        rw [List.length_append, List.length_cons, List.length_cons, List.length_nil] at eI1
        rw [List.length_append, List.length_cons, List.length_nil] at eO1
        refine spec_copied (C := r.C) (imm := imm) (ps := q1) (xsO := r.vsO) (xsI := r.vsI) (nO := r.nO) (nI := r.nI) (news := rest [226] ((I, it) :: news₁)) (by rfl) (by rfl) (Nat.le_of_ble_eq_true (by rfl)) (Nat.le_of_ble_eq_true (by rfl)) (by rfl) (by rfl) (by k_asm) (by k_asm) (by k_asm) (by k_asm) (d2.front (A := [226]) (pl := [(226, tabObj q1)]) (List.forall_mem_cons.mpr ⟨List.mem_cons_of_mem _ mt1, List.forall_mem_nil _⟩)) tq1 (d2.subRest hA) (fun p hp e => (mem_rest.mp hp).2 (e ▸ List.mem_cons_self)) (rok.cv.mono (d2.subRest hA)) (hpl _ r.p4) (hpl _ r.p1) (by omega) (by omega) (by omega) (by omega) ?_
        intro C' odO odI nO' nI' ps' own h3 tk3 e1 e2 e3 F3 N3 cv tq dO dI fr
        obtain ⟨led3, imm3, d3, kp3, s3, t226, cv3, mp1, mp2, mp3, mp4⟩ := copied_led2 (P := [I]) d2 N3 fr tq cv
        have fs1 := fr.s1
        have fs2 := fr.s2
        clear N3 fr tq cv hA hpl
        obtain ⟨kvI, hkI, hlI, cpI⟩ := rok.pI.copy
        obtain ⟨kvO, hkO, hlO, cpO⟩ := rok.pO.copy
        have nf := fun a (ha : a ∈ r.ads) => (ch_rows nd mr ha).1
        have mhi := kp3 r.hi r.oi (fun e => nf _ r.a3 (e ▸ by decide)) (List.mem_cons_of_mem _ (st.pl r mr _ r.p3))
        have mho := kp3 r.ho r.oo (fun e => nf _ r.a6 (e ▸ by decide)) (List.mem_cons_of_mem _ (st.pl r mr _ r.p6))
        have mI3 := kp3 I it (fun e => nI226 e.symm) List.mem_cons_self
        have mR3 := kp3 RL _ (fun e => ch_RL nd (e ▸ by decide)) (List.mem_cons_of_mem _ mR)
        have N3 := d3.N
        (focus ((iterate 7 walk1)))
        refine dict_copy_any (kvs := kvI) (knd := strKind PROG w) (by k_asm) N3 (Top.nolimit (by k_asm)) (kda_dict N3 mhi hkI) rok.s3 (by rw [sizeLine_eq]; omega) ?_
        intro dhi h4 oi F4 N4 l4 lo4 hd4
        (try dsimp only)
        (focus ((iterate 7 walk1)))
        refine dict_copy_any (kvs := kvO) (knd := strKind PROG w) (by k_asm) N4 (Top.nolimit (by k_asm)) (kda_dict N4 (List.mem_cons_of_mem _ mho) hkO) rok.s4 (by rw [sizeLine_eq]; omega) ?_
        intro dho h5 oo F5 N5 l5 lo5 hd5
        (try dsimp only)
        (focus ((iterate 5 walk1)))
        k_dflt (refine' newList_K ?k1 ?k2 ?_; (case k1 => k_asm); (case k2 => k_asm))
        intro ra h6 F6 N6 l6
        (focus (walk1))
        have d6 := ((d3.addN N4 l4).addN N5 l5).push N6 l6
        refine append_K (news' := (RL, W.listOf ((rows.map fun r => Value.ref r.ra).toArray.push (.ref ra)) (nR + 1)) :: rest [RL] _) F6 (d6.front (A := [RL]) (pl := [(RL, W.listOf (rows.map fun r => Value.ref r.ra).toArray nR)]) (List.forall_mem_cons.mpr ⟨List.mem_cons_of_mem _ (List.mem_cons_of_mem _ (List.mem_cons_of_mem _ mR3)), List.forall_mem_nil _⟩)) (Upd.head fun p hp e => (mem_rest.mp hp).2 (e ▸ List.mem_cons_self)) ?_ ?z
        case z => simp only [List.size_toArray, List.length_map, sizeLine_eq]; omega
        intro h7 F7 N7
        have s6 := fun (x : Addr × Obj) (p : Addr × Obj) (hp : p ∈ imm) => List.mem_cons_of_mem x (s3 p hp)
        obtain ⟨st7, d7, keep7⟩ := row_added (k := i) (pre := [I]) (r := ⟨C', ra, dhi, dho, false, 0, r.hI, r.hO, r.vsI.take (r.vsI.length - 2) ++ [.ref C'.tC, .ref C'.tB], nI', r.vsO.take (r.vsO.length - 1) ++ [.ref C'.tO], nO', odI, odO, oi, oo⟩) st nd d6
          (fun a o h1 h2 ho => List.mem_cons_of_mem _ (List.mem_cons_of_mem _ (List.mem_cons_of_mem _ (kp3 a o h1 (List.mem_cons_of_mem _ ho))))) (s6 _)
          (t226.keep (fun o ho => List.mem_cons_of_mem _ (List.mem_cons_of_mem _ (List.mem_cons_of_mem _ ho))) fun p hp => List.mem_cons_of_mem _ hp)
          (st.t.b.keep (fun o ho => List.mem_cons_of_mem _ (List.mem_cons_of_mem _ (List.mem_cons_of_mem _ (kp3 _ o (fun e => absurd e (by decide)) (List.mem_cons_of_mem _ ho))))) (s6 _))
          (List.forall_mem_cons.mpr ⟨List.mem_cons_of_mem _ (List.mem_cons_of_mem _ (List.mem_cons_of_mem _ mp3)), List.forall_mem_cons.mpr ⟨List.mem_cons_of_mem _ (List.mem_cons_of_mem _ (List.mem_cons_of_mem _ mp4)), List.forall_mem_cons.mpr ⟨List.mem_cons_of_mem _ (List.mem_cons_of_mem _ List.mem_cons_self), List.forall_mem_cons.mpr ⟨List.mem_cons_of_mem _ (List.mem_cons_of_mem _ (List.mem_cons_of_mem _ mp1)), List.forall_mem_cons.mpr ⟨List.mem_cons_of_mem _ (List.mem_cons_of_mem _ (List.mem_cons_of_mem _ mp2)), List.forall_mem_cons.mpr ⟨List.mem_cons_of_mem _ List.mem_cons_self, List.forall_mem_nil _⟩⟩⟩⟩⟩⟩)
          (row_copied (kvsI := kvI) (kvsO := kvO) rok (s6 _) (by rw [e1]; exact e2) (by rw [e1]; exact e3) (cv3.mono fun p hp => List.mem_cons_of_mem _ hp) List.mem_cons_self dI dO (cpI _ _ hd4 (s6 _)) (cpO _ _ hd5 (s6 _)) fs2 fs1 lo4 lo5) N7
        obtain ⟨NN', offN, stN, ledN⟩ := turn_end (it := it) (st7.keep (fun _ _ _ h => h) (fun _ h => h) (Nat.le_succ i)) d7 (keep7 I it nIR (List.mem_cons_of_mem _ (List.mem_cons_of_mem _ (List.mem_cons_of_mem _ mI3))))
        (focus ((iterate 3 walk1)))
        (try dsimp only [TPost])
        exact ⟨h₀, h7, _, _, _, rfl, F7, NN', offN, rfl, hscr, hrows, _, rows ++ [_], stN, by rw [List.length_append]; exact Nat.le_trans hl1 (Nat.le_add_right _ _), by rw [List.length_append, List.length_singleton]; omega, ledN⟩
      · (focus ((iterate 4 walk1)))
        (try dsimp only)
        rename News _ L _ _ => NN
        rename Fr _ L _ _ => FF
        have d2 : Led h₀ L _ ((I, it) :: news₁) imm (I :: chOf RL rows) := ⟨NN, d.sub, d.off, d.nd, d.has⟩
        obtain ⟨NN', offN, stN, ledN⟩ := turn_end (it := it) (st.keep (led' := (I, it) :: news₁) (imm' := imm) (fun a _ o ho => List.mem_cons_of_mem _ ho) (fun _ h => h) (Nat.le_succ i)) d2 List.mem_cons_self
        exact ⟨h₀, _, _, _, _, rfl, FF, NN', offN, rfl, hscr, hrows, _, rows, stN, hl1, hl8, ledN⟩
    · (focus ((iterate 8 walk1)))
      refine spec_kinds (by rfl) (by rfl) (Nat.le_of_ble_eq_true (by rfl)) (Nat.le_of_ble_eq_true (by rfl)) (by rfl) (by rfl) (by k_asm) (by k_asm) (by k_asm) (by k_asm) (by k_asm) ?_
      intro lst t1 t2 t3 t4 t5 nk h3 tk3 F3 N3 l3
      (focus ((iterate 7 walk1)))
      obtain ⟨ji, hji, eji⟩ : ∃ ji : Nat, ji < 4 ∧ (c.fdiv 60).fmod 4 = (ji : Int) := ⟨((c.fdiv 60).fmod 4).toNat, by omega, by omega⟩
      rw [eji]
      obtain ⟨tj, hx6⟩ := kd_item (show ji < 6 by omega) t1 t2 t3 t4 t5
      refine kba_turn (value' := .Name "x" { line := 0, col := 0, endLine := 0, endCol := 0 }) (fun r => rfl) (PyProof.Rows.item_list (News.isList (by k_asm) List.mem_cons_self) (by omega) (by omega) hx6 ?_)
      have hj : anyNB (kdAt ji) = false := by
        match ji, hji with
        | 0, _ => rfl
        | 1, _ => rfl
        | 2, _ => rfl
        | 3, _ => rfl
      clear hx6
      generalize kdAt ji = j at hj
      (try dsimp only)
      (focus ((iterate 23 walk1)))
      (try dsimp only)
      have hway : c.fmod 5 = 0 ∨ c.fmod 5 = 1 ∨ c.fmod 5 = 2 ∨ c.fmod 5 = 3 := by
        have : c.fmod 5 ≠ 4 := fun e => h4 (by rw [e]; rfl)
        omega
      have lI := rok.lI; have lO := rok.lO
      have eI1 := rok.eI.1; have eO1 := rok.eO.1
      rw [List.length_append, List.length_cons, List.length_cons, List.length_nil] at eI1
      rw [List.length_append, List.length_cons, List.length_nil] at eO1
      obtain ⟨q3, mt3, tq3⟩ := st.t.c
      obtain ⟨q4, mt4, tq4⟩ := st.t.d
      rename News _ L _ _ => NN
      have d3 : Led h₀ L _ (_ :: (I, it) :: news₁) imm ([I] ++ chOf RL rows) := ⟨NN, fun p hp => List.mem_cons_of_mem _ (d.sub p hp), d.off, d.nd, fun a ha => let ⟨o, ho⟩ := d.has a ha; ⟨o, List.mem_cons_of_mem _ ho⟩⟩
      obtain ⟨⟨ne12, ne13, ne14, ne15, ne16⟩, ⟨ne23, ne24, ne25, ne26⟩, ⟨ne34, ne35, ne36⟩, ⟨ne45, ne46⟩, ne56⟩ := ads_ne (ch_split (erows ▸ nd)).1
      have nf := fun a (ha : a ∈ r.ads) (b : Addr) (hb : b ∈ fixed) (e : a = b) => (ch_rows nd mr ha).1 (e ▸ hb)
      have nIf := fun (b : Addr) (hb : b ∈ fixed) (e : I = b) => (List.nodup_cons.mp d.nd).1 (e ▸ fixed_ch hb)
      have nIr := fun a (ha : a ∈ r.ads) (e : I = a) => (List.nodup_cons.mp d.nd).1 (e ▸ mem_ch mr ha)
      have up2 := fun (x y p : Addr × Obj) (l : List (Addr × Obj)) (hp : p ∈ l) => List.mem_cons_of_mem x (List.mem_cons_of_mem y hp)
      rcases hway with hw | hw | hw | hw
      · rw [hw]
        have hA4 : ∀ a ∈ ([454, 482, r.C.I.hp, r.C.I.dd] : List Addr), a ∈ [I] ++ chOf RL rows := List.forall_mem_cons.mpr ⟨mem_chp (fixed_ch (by decide)), List.forall_mem_cons.mpr ⟨mem_chp (fixed_ch (by decide)), List.forall_mem_cons.mpr ⟨mem_chp (mem_ch mr r.a1), List.forall_mem_cons.mpr ⟨mem_chp (mem_ch mr r.a2), List.forall_mem_nil _⟩⟩⟩⟩
        refine spec_reg0 (C := r.C) (imm := imm) (ps := q3) (qs := q4) (od := r.odI) (xs := r.vsI) (n := r.nI) (news := rest [454, 482, r.C.I.hp, r.C.I.dd] _) (by rfl) (by rfl) (Nat.le_of_ble_eq_true (by rfl)) (Nat.le_of_ble_eq_true (by rfl)) (by rfl) (by rfl) (by k_asm) (by k_asm) (by k_asm) (by k_asm) (d3.front (A := [454, 482, r.C.I.hp, r.C.I.dd]) (pl := [(454, tabObj q3), (482, tabObj q4), (r.C.I.hp, W.listOf r.vsI.toArray r.nI), (r.C.I.dd, r.odI)]) (List.forall_mem_cons.mpr ⟨up2 _ _ _ _ mt3, List.forall_mem_cons.mpr ⟨up2 _ _ _ _ mt4, List.forall_mem_cons.mpr ⟨up2 _ _ _ _ (st.pl r mr _ r.p1), List.forall_mem_cons.mpr ⟨up2 _ _ _ _ (st.pl r mr _ r.p2), List.forall_mem_nil _⟩⟩⟩⟩)) rok.dI tq3 tq4 (d3.subRest hA4) (fun p hp => (mem_rest.mp hp).2) ne12 (nf _ r.a1 454 (by decide)) (nf _ r.a2 454 (by decide)) (nf _ r.a1 482 (by decide)) (nf _ r.a2 482 (by decide)) (by omega) (rok.cv.mono (d3.subRest hA4)) ?_
        intro tup od' ps' qs' own h5 tk5 F5 N5 hook tqa tqb off hd'
        obtain ⟨led5, imm5, d5, kp5, s5, t454, t482, ent, mp1, mp2⟩ := reg_led2 (x := r.C.x) (P := [I]) d3 mr r.a1 r.a2 N5 off hook tqa tqb
        clear N5 off hook tqa tqb hA4
        have N5 := d5.N
        have mI5 := kp5 I it (fun e => nIf 454 (by decide) e) (fun e => nIf 482 (by decide) e) (fun e => nIr _ r.a1 e) (fun e => nIr _ r.a2 e) (List.mem_cons_of_mem _ List.mem_cons_self)
        have mh5 := kp5 r.hi r.oi (nf _ r.a3 454 (by decide)) (nf _ r.a3 482 (by decide)) (Ne.symm ne13) (Ne.symm ne23) (up2 _ _ _ _ (st.pl r mr _ r.p3))
        (focus ((iterate 14 walk1)))
        (try dsimp only)
        refine ite_yes (by rw [hw]; rfl) ?_
        (focus ((iterate 16 walk1)))
        (try dsimp only)
        refine ite_yes (by rw [hw]; rfl) ?_
        (focus ((iterate 10 walk1)))
        (try dsimp only)
        rename_i tv hy Fy Ny ly
        have d6 := d5.push Ny ly
        obtain ⟨kvs, hkd, hkl, hst⟩ := rok.pI.open
        rw [kdV_str hj]
        refine kda_set (knd := strKind PROG w) (kvs := kvs) (k := kdX j) (o := r.oi) (g := fun o' => (r.hi, o') :: rest [r.hi] _) Fy (d6.front (A := [r.hi]) (pl := [(r.hi, r.oi)]) (List.forall_mem_cons.mpr ⟨List.mem_cons_of_mem _ mh5, List.forall_mem_nil _⟩)) (UpdF.head fun p hp e => (mem_rest.mp hp).2 (e ▸ List.mem_cons_self)) hkd (strKind_is _ _ _ _) (by rw [sizeLine_eq]; omega) ?_
        intro h7 od7 F7 N7 hd7
        obtain ⟨led7, imm7, d7, kp7, up7, mt7, md7⟩ := set_led (P := [I]) d5 Ny ly mr r.a3 N7
        have oth := fun (p : Addr × Obj) (hp : p ∈ r.pl) (n1 : p.1 ≠ r.C.I.hp) (n2 : p.1 ≠ r.C.I.dd) (n3 : p.1 ≠ r.hi) => kp7 p.1 p.2 n3 (kp5 p.1 p.2 (nf _ (pl_ads hp) 454 (by decide)) (nf _ (pl_ads hp) 482 (by decide)) n1 n2 (up2 _ _ _ _ (st.pl r mr p hp)))
        have s7 := fun (p : Addr × Obj) (hp : p ∈ imm) => up7 p (s5 p hp)
        have rk := rok.mono s7 (Nat.le_succ i)
        have mI7 := kp7 I it (nIr _ r.a3) mI5
        have pI7 := hst _ _ tv _ _ 0 j (10 + (i : Int)) s7 hd7 hj mt7
        have T1 := t454.keep (fun o ho => kp7 454 o (fun e => nf _ r.a3 454 (by decide) e.symm) ho) up7
        have T2 := t482.keep (fun o ho => kp7 482 o (fun e => nf _ r.a3 482 (by decide) e.symm) ho) up7
        subst erows
        obtain ⟨NN', offN, stN, ledN⟩ := reg_end (r' := { r with hI := .hook 0 j (10 + (i : Int)) :: r.hI, vsI := .ref tup :: r.vsI, nI := r.nI + 1, odI := od', oi := od7 }) st nd d7 mI7
          (fun x o n1 n2 n3 ho => kp7 x o (fun e => n3 (e ▸ r.a3)) (kp5 x o n1 n2 (fun e => n3 (e ▸ r.a1)) (fun e => n3 (e ▸ r.a2)) (up2 _ _ _ _ ho))) s7 T1 T2
          (List.forall_mem_cons.mpr ⟨kp7 _ _ (ne13) mp1, List.forall_mem_cons.mpr ⟨kp7 _ _ (ne23) mp2, List.forall_mem_cons.mpr ⟨md7, List.forall_mem_cons.mpr ⟨oth _ r.p4 (Ne.symm ne14) (Ne.symm ne24) (Ne.symm ne34), List.forall_mem_cons.mpr ⟨oth _ r.p5 (Ne.symm ne15) (Ne.symm ne25) (Ne.symm ne35), List.forall_mem_cons.mpr ⟨oth _ r.p6 (Ne.symm ne16) (Ne.symm ne26) (Ne.symm ne36), List.forall_mem_nil _⟩⟩⟩⟩⟩⟩)
          ⟨rk.cv, rk.fb, rk.nn, rk.row, rk.eI.cons (ent.mono up7), rk.eO, List.forall_mem_cons.mpr ⟨⟨.inl rfl, hj⟩, rk.kI⟩, rk.kO, hd', rk.dO, pI7, rk.pO, rk.s1, rk.s2, rk.s3, rk.s4, Nat.succ_le_succ rok.lI, rk.lO⟩ rfl rfl
        (focus (walk1))
        (try dsimp only [TPost])
        exact ⟨h₀, h7, _, _, _, rfl, F7, NN', offN, rfl, hscr, hrows, _, _, stN, by rw [List.length_append, List.length_cons] at hl1 ⊢; exact hl1, by rw [List.length_append, List.length_cons] at hl8 ⊢; exact hl8, ledN⟩
      · rw [hw]
        have hA4 : ∀ a ∈ ([454, 482, r.C.O.hp, r.C.O.dd] : List Addr), a ∈ [I] ++ chOf RL rows := List.forall_mem_cons.mpr ⟨mem_chp (fixed_ch (by decide)), List.forall_mem_cons.mpr ⟨mem_chp (fixed_ch (by decide)), List.forall_mem_cons.mpr ⟨mem_chp (mem_ch mr r.a4), List.forall_mem_cons.mpr ⟨mem_chp (mem_ch mr r.a5), List.forall_mem_nil _⟩⟩⟩⟩
        refine spec_reg1 (C := r.C) (imm := imm) (ps := q3) (qs := q4) (od := r.odO) (xs := r.vsO) (n := r.nO) (news := rest [454, 482, r.C.O.hp, r.C.O.dd] _) (by rfl) (by rfl) (Nat.le_of_ble_eq_true (by rfl)) (Nat.le_of_ble_eq_true (by rfl)) (by rfl) (by rfl) (by k_asm) (by k_asm) (by k_asm) (by k_asm) (d3.front (A := [454, 482, r.C.O.hp, r.C.O.dd]) (pl := [(454, tabObj q3), (482, tabObj q4), (r.C.O.hp, W.listOf r.vsO.toArray r.nO), (r.C.O.dd, r.odO)]) (List.forall_mem_cons.mpr ⟨up2 _ _ _ _ mt3, List.forall_mem_cons.mpr ⟨up2 _ _ _ _ mt4, List.forall_mem_cons.mpr ⟨up2 _ _ _ _ (st.pl r mr _ r.p4), List.forall_mem_cons.mpr ⟨up2 _ _ _ _ (st.pl r mr _ r.p5), List.forall_mem_nil _⟩⟩⟩⟩)) rok.dO tq3 tq4 (d3.subRest hA4) (fun p hp => (mem_rest.mp hp).2) ne45 (nf _ r.a4 454 (by decide)) (nf _ r.a5 454 (by decide)) (nf _ r.a4 482 (by decide)) (nf _ r.a5 482 (by decide)) (by omega) (rok.cv.mono (d3.subRest hA4)) ?_
        intro tup od' ps' qs' own h5 tk5 F5 N5 hook tqa tqb off hd'
        obtain ⟨led5, imm5, d5, kp5, s5, t454, t482, ent, mp1, mp2⟩ := reg_led2 (x := r.C.x) (P := [I]) d3 mr r.a4 r.a5 N5 off hook tqa tqb
        clear N5 off hook tqa tqb hA4
        have N5 := d5.N
        have mI5 := kp5 I it (fun e => nIf 454 (by decide) e) (fun e => nIf 482 (by decide) e) (fun e => nIr _ r.a4 e) (fun e => nIr _ r.a5 e) (List.mem_cons_of_mem _ List.mem_cons_self)
        have mh5 := kp5 r.ho r.oo (nf _ r.a6 454 (by decide)) (nf _ r.a6 482 (by decide)) (Ne.symm ne46) (Ne.symm ne56) (up2 _ _ _ _ (st.pl r mr _ r.p6))
        (focus ((iterate 14 walk1)))
        (try dsimp only)
        refine ite_no (fun e => absurd e (by rw [hw]; decide)) ?_
        (focus ((iterate 16 walk1)))
        (try dsimp only)
        refine ite_yes (by rw [hw]; rfl) ?_
        (focus ((iterate 10 walk1)))
        (try dsimp only)
        rename_i tv hy Fy Ny ly
        have d6 := d5.push Ny ly
        obtain ⟨kvs, hkd, hkl, hst⟩ := rok.pO.open
        rw [kdV_str hj]
        refine kda_set (knd := strKind PROG w) (kvs := kvs) (k := kdX j) (o := r.oo) (g := fun o' => (r.ho, o') :: rest [r.ho] _) Fy (d6.front (A := [r.ho]) (pl := [(r.ho, r.oo)]) (List.forall_mem_cons.mpr ⟨List.mem_cons_of_mem _ mh5, List.forall_mem_nil _⟩)) (UpdF.head fun p hp e => (mem_rest.mp hp).2 (e ▸ List.mem_cons_self)) hkd (strKind_is _ _ _ _) (by rw [sizeLine_eq]; omega) ?_
        intro h7 od7 F7 N7 hd7
        obtain ⟨led7, imm7, d7, kp7, up7, mt7, md7⟩ := set_led (P := [I]) d5 Ny ly mr r.a6 N7
        have oth := fun (p : Addr × Obj) (hp : p ∈ r.pl) (n1 : p.1 ≠ r.C.O.hp) (n2 : p.1 ≠ r.C.O.dd) (n3 : p.1 ≠ r.ho) => kp7 p.1 p.2 n3 (kp5 p.1 p.2 (nf _ (pl_ads hp) 454 (by decide)) (nf _ (pl_ads hp) 482 (by decide)) n1 n2 (up2 _ _ _ _ (st.pl r mr p hp)))
        have s7 := fun (p : Addr × Obj) (hp : p ∈ imm) => up7 p (s5 p hp)
        have rk := rok.mono s7 (Nat.le_succ i)
        have mI7 := kp7 I it (nIr _ r.a6) mI5
        have pI7 := hst _ _ tv _ _ 1 j (10 + (i : Int)) s7 hd7 hj mt7
        have T1 := t454.keep (fun o ho => kp7 454 o (fun e => nf _ r.a6 454 (by decide) e.symm) ho) up7
        have T2 := t482.keep (fun o ho => kp7 482 o (fun e => nf _ r.a6 482 (by decide) e.symm) ho) up7
        subst erows
        obtain ⟨NN', offN, stN, ledN⟩ := reg_end (r' := { r with hO := .hook 1 j (10 + (i : Int)) :: r.hO, vsO := .ref tup :: r.vsO, nO := r.nO + 1, odO := od', oo := od7 }) st nd d7 mI7
          (fun x o n1 n2 n3 ho => kp7 x o (fun e => n3 (e ▸ r.a6)) (kp5 x o n1 n2 (fun e => n3 (e ▸ r.a4)) (fun e => n3 (e ▸ r.a5)) (up2 _ _ _ _ ho))) s7 T1 T2
          (List.forall_mem_cons.mpr ⟨oth _ r.p1 ne14 ne15 ne16, List.forall_mem_cons.mpr ⟨oth _ r.p2 ne24 ne25 ne26, List.forall_mem_cons.mpr ⟨oth _ r.p3 ne34 ne35 ne36, List.forall_mem_cons.mpr ⟨kp7 _ _ (ne46) mp1, List.forall_mem_cons.mpr ⟨kp7 _ _ (ne56) mp2, List.forall_mem_cons.mpr ⟨md7, List.forall_mem_nil _⟩⟩⟩⟩⟩⟩)
          ⟨rk.cv, rk.fb, rk.nn, rk.row, rk.eI, rk.eO.cons (ent.mono up7), rk.kI, List.forall_mem_cons.mpr ⟨⟨.inl rfl, hj⟩, rk.kO⟩, rk.dI, hd', rk.pI, pI7, rk.s1, rk.s2, rk.s3, rk.s4, rk.lI, Nat.succ_le_succ rok.lO⟩ rfl rfl
        (focus (walk1))
        (try dsimp only [TPost])
        exact ⟨h₀, h7, _, _, _, rfl, F7, NN', offN, rfl, hscr, hrows, _, _, stN, by rw [List.length_append, List.length_cons] at hl1 ⊢; exact hl1, by rw [List.length_append, List.length_cons] at hl8 ⊢; exact hl8, ledN⟩
      · rw [hw]
        have hA4 : ∀ a ∈ ([454, 482, r.C.I.hp, r.C.I.dd] : List Addr), a ∈ [I] ++ chOf RL rows := List.forall_mem_cons.mpr ⟨mem_chp (fixed_ch (by decide)), List.forall_mem_cons.mpr ⟨mem_chp (fixed_ch (by decide)), List.forall_mem_cons.mpr ⟨mem_chp (mem_ch mr r.a1), List.forall_mem_cons.mpr ⟨mem_chp (mem_ch mr r.a2), List.forall_mem_nil _⟩⟩⟩⟩
        refine spec_reg2 (C := r.C) (imm := imm) (ps := q3) (qs := q4) (od := r.odI) (xs := r.vsI) (n := r.nI) (news := rest [454, 482, r.C.I.hp, r.C.I.dd] _) (by rfl) (by rfl) (Nat.le_of_ble_eq_true (by rfl)) (Nat.le_of_ble_eq_true (by rfl)) (by rfl) (by rfl) (by k_asm) (by k_asm) (by k_asm) (by k_asm) (d3.front (A := [454, 482, r.C.I.hp, r.C.I.dd]) (pl := [(454, tabObj q3), (482, tabObj q4), (r.C.I.hp, W.listOf r.vsI.toArray r.nI), (r.C.I.dd, r.odI)]) (List.forall_mem_cons.mpr ⟨up2 _ _ _ _ mt3, List.forall_mem_cons.mpr ⟨up2 _ _ _ _ mt4, List.forall_mem_cons.mpr ⟨up2 _ _ _ _ (st.pl r mr _ r.p1), List.forall_mem_cons.mpr ⟨up2 _ _ _ _ (st.pl r mr _ r.p2), List.forall_mem_nil _⟩⟩⟩⟩)) rok.dI tq3 tq4 (d3.subRest hA4) (fun p hp => (mem_rest.mp hp).2) ne12 (nf _ r.a1 454 (by decide)) (nf _ r.a2 454 (by decide)) (nf _ r.a1 482 (by decide)) (nf _ r.a2 482 (by decide)) (by omega) (rok.cv.mono (d3.subRest hA4)) ?_
        intro tup od' ps' qs' own h5 tk5 F5 N5 hook tqa tqb off hd'
        obtain ⟨led5, imm5, d5, kp5, s5, t454, t482, ent, mp1, mp2⟩ := reg_led2 (x := r.C.x) (P := [I]) d3 mr r.a1 r.a2 N5 off hook tqa tqb
        clear N5 off hook tqa tqb hA4
        have N5 := d5.N
        have mI5 := kp5 I it (fun e => nIf 454 (by decide) e) (fun e => nIf 482 (by decide) e) (fun e => nIr _ r.a1 e) (fun e => nIr _ r.a2 e) (List.mem_cons_of_mem _ List.mem_cons_self)
        have mh5 := kp5 r.hi r.oi (nf _ r.a3 454 (by decide)) (nf _ r.a3 482 (by decide)) (Ne.symm ne13) (Ne.symm ne23) (up2 _ _ _ _ (st.pl r mr _ r.p3))
        (focus ((iterate 14 walk1)))
        (try dsimp only)
        refine ite_yes (by rw [hw]; rfl) ?_
        (focus ((iterate 16 walk1)))
        (try dsimp only)
        refine ite_no (fun e => absurd e (by rw [hw]; decide)) ?_
        (focus ((iterate 10 walk1)))
        (try dsimp only)
        rename_i tv hy Fy Ny ly
        have d6 := d5.push Ny ly
        obtain ⟨kvs, hkd, hkl, hst⟩ := rok.pI.open
        rw [kdV_str hj]
        refine kda_set (knd := strKind PROG w) (kvs := kvs) (k := kdX j) (o := r.oi) (g := fun o' => (r.hi, o') :: rest [r.hi] _) Fy (d6.front (A := [r.hi]) (pl := [(r.hi, r.oi)]) (List.forall_mem_cons.mpr ⟨List.mem_cons_of_mem _ mh5, List.forall_mem_nil _⟩)) (UpdF.head fun p hp e => (mem_rest.mp hp).2 (e ▸ List.mem_cons_self)) hkd (strKind_is _ _ _ _) (by rw [sizeLine_eq]; omega) ?_
        intro h7 od7 F7 N7 hd7
        obtain ⟨led7, imm7, d7, kp7, up7, mt7, md7⟩ := set_led (P := [I]) d5 Ny ly mr r.a3 N7
        have oth := fun (p : Addr × Obj) (hp : p ∈ r.pl) (n1 : p.1 ≠ r.C.I.hp) (n2 : p.1 ≠ r.C.I.dd) (n3 : p.1 ≠ r.hi) => kp7 p.1 p.2 n3 (kp5 p.1 p.2 (nf _ (pl_ads hp) 454 (by decide)) (nf _ (pl_ads hp) 482 (by decide)) n1 n2 (up2 _ _ _ _ (st.pl r mr p hp)))
        have s7 := fun (p : Addr × Obj) (hp : p ∈ imm) => up7 p (s5 p hp)
        have rk := rok.mono s7 (Nat.le_succ i)
        have mI7 := kp7 I it (nIr _ r.a3) mI5
        have pI7 := hst _ _ tv _ _ 2 j (10 + (i : Int)) s7 hd7 hj mt7
        have T1 := t454.keep (fun o ho => kp7 454 o (fun e => nf _ r.a3 454 (by decide) e.symm) ho) up7
        have T2 := t482.keep (fun o ho => kp7 482 o (fun e => nf _ r.a3 482 (by decide) e.symm) ho) up7
        subst erows
        obtain ⟨NN', offN, stN, ledN⟩ := reg_end (r' := { r with hI := .hook 2 j (10 + (i : Int)) :: r.hI, vsI := .ref tup :: r.vsI, nI := r.nI + 1, odI := od', oi := od7 }) st nd d7 mI7
          (fun x o n1 n2 n3 ho => kp7 x o (fun e => n3 (e ▸ r.a3)) (kp5 x o n1 n2 (fun e => n3 (e ▸ r.a1)) (fun e => n3 (e ▸ r.a2)) (up2 _ _ _ _ ho))) s7 T1 T2
          (List.forall_mem_cons.mpr ⟨kp7 _ _ (ne13) mp1, List.forall_mem_cons.mpr ⟨kp7 _ _ (ne23) mp2, List.forall_mem_cons.mpr ⟨md7, List.forall_mem_cons.mpr ⟨oth _ r.p4 (Ne.symm ne14) (Ne.symm ne24) (Ne.symm ne34), List.forall_mem_cons.mpr ⟨oth _ r.p5 (Ne.symm ne15) (Ne.symm ne25) (Ne.symm ne35), List.forall_mem_cons.mpr ⟨oth _ r.p6 (Ne.symm ne16) (Ne.symm ne26) (Ne.symm ne36), List.forall_mem_nil _⟩⟩⟩⟩⟩⟩)
          ⟨rk.cv, rk.fb, rk.nn, rk.row, rk.eI.cons (ent.mono up7), rk.eO, List.forall_mem_cons.mpr ⟨⟨.inr rfl, hj⟩, rk.kI⟩, rk.kO, hd', rk.dO, pI7, rk.pO, rk.s1, rk.s2, rk.s3, rk.s4, Nat.succ_le_succ rok.lI, rk.lO⟩ rfl rfl
        (focus (walk1))
        (try dsimp only [TPost])
        exact ⟨h₀, h7, _, _, _, rfl, F7, NN', offN, rfl, hscr, hrows, _, _, stN, by rw [List.length_append, List.length_cons] at hl1 ⊢; exact hl1, by rw [List.length_append, List.length_cons] at hl8 ⊢; exact hl8, ledN⟩
      · rw [hw]
        have hA4 : ∀ a ∈ ([454, 482, r.C.O.hp, r.C.O.dd] : List Addr), a ∈ [I] ++ chOf RL rows := List.forall_mem_cons.mpr ⟨mem_chp (fixed_ch (by decide)), List.forall_mem_cons.mpr ⟨mem_chp (fixed_ch (by decide)), List.forall_mem_cons.mpr ⟨mem_chp (mem_ch mr r.a4), List.forall_mem_cons.mpr ⟨mem_chp (mem_ch mr r.a5), List.forall_mem_nil _⟩⟩⟩⟩
        refine spec_reg3 (C := r.C) (imm := imm) (ps := q3) (qs := q4) (od := r.odO) (xs := r.vsO) (n := r.nO) (news := rest [454, 482, r.C.O.hp, r.C.O.dd] _) (by rfl) (by rfl) (Nat.le_of_ble_eq_true (by rfl)) (Nat.le_of_ble_eq_true (by rfl)) (by rfl) (by rfl) (by k_asm) (by k_asm) (by k_asm) (by k_asm) (d3.front (A := [454, 482, r.C.O.hp, r.C.O.dd]) (pl := [(454, tabObj q3), (482, tabObj q4), (r.C.O.hp, W.listOf r.vsO.toArray r.nO), (r.C.O.dd, r.odO)]) (List.forall_mem_cons.mpr ⟨up2 _ _ _ _ mt3, List.forall_mem_cons.mpr ⟨up2 _ _ _ _ mt4, List.forall_mem_cons.mpr ⟨up2 _ _ _ _ (st.pl r mr _ r.p4), List.forall_mem_cons.mpr ⟨up2 _ _ _ _ (st.pl r mr _ r.p5), List.forall_mem_nil _⟩⟩⟩⟩)) rok.dO tq3 tq4 (d3.subRest hA4) (fun p hp => (mem_rest.mp hp).2) ne45 (nf _ r.a4 454 (by decide)) (nf _ r.a5 454 (by decide)) (nf _ r.a4 482 (by decide)) (nf _ r.a5 482 (by decide)) (by omega) (rok.cv.mono (d3.subRest hA4)) ?_
        intro tup od' ps' qs' own h5 tk5 F5 N5 hook tqa tqb off hd'
        obtain ⟨led5, imm5, d5, kp5, s5, t454, t482, ent, mp1, mp2⟩ := reg_led2 (x := r.C.x) (P := [I]) d3 mr r.a4 r.a5 N5 off hook tqa tqb
        clear N5 off hook tqa tqb hA4
        have N5 := d5.N
        have mI5 := kp5 I it (fun e => nIf 454 (by decide) e) (fun e => nIf 482 (by decide) e) (fun e => nIr _ r.a4 e) (fun e => nIr _ r.a5 e) (List.mem_cons_of_mem _ List.mem_cons_self)
        have mh5 := kp5 r.ho r.oo (nf _ r.a6 454 (by decide)) (nf _ r.a6 482 (by decide)) (Ne.symm ne46) (Ne.symm ne56) (up2 _ _ _ _ (st.pl r mr _ r.p6))
        (focus ((iterate 14 walk1)))
        (try dsimp only)
        refine ite_no (fun e => absurd e (by rw [hw]; decide)) ?_
        (focus ((iterate 16 walk1)))
        (try dsimp only)
        refine ite_no (fun e => absurd e (by rw [hw]; decide)) ?_
        (focus ((iterate 10 walk1)))
        (try dsimp only)
        rename_i tv hy Fy Ny ly
        have d6 := d5.push Ny ly
        obtain ⟨kvs, hkd, hkl, hst⟩ := rok.pO.open
        rw [kdV_str hj]
        refine kda_set (knd := strKind PROG w) (kvs := kvs) (k := kdX j) (o := r.oo) (g := fun o' => (r.ho, o') :: rest [r.ho] _) Fy (d6.front (A := [r.ho]) (pl := [(r.ho, r.oo)]) (List.forall_mem_cons.mpr ⟨List.mem_cons_of_mem _ mh5, List.forall_mem_nil _⟩)) (UpdF.head fun p hp e => (mem_rest.mp hp).2 (e ▸ List.mem_cons_self)) hkd (strKind_is _ _ _ _) (by rw [sizeLine_eq]; omega) ?_
        intro h7 od7 F7 N7 hd7
        obtain ⟨led7, imm7, d7, kp7, up7, mt7, md7⟩ := set_led (P := [I]) d5 Ny ly mr r.a6 N7
        have oth := fun (p : Addr × Obj) (hp : p ∈ r.pl) (n1 : p.1 ≠ r.C.O.hp) (n2 : p.1 ≠ r.C.O.dd) (n3 : p.1 ≠ r.ho) => kp7 p.1 p.2 n3 (kp5 p.1 p.2 (nf _ (pl_ads hp) 454 (by decide)) (nf _ (pl_ads hp) 482 (by decide)) n1 n2 (up2 _ _ _ _ (st.pl r mr p hp)))
        have s7 := fun (p : Addr × Obj) (hp : p ∈ imm) => up7 p (s5 p hp)
        have rk := rok.mono s7 (Nat.le_succ i)
        have mI7 := kp7 I it (nIr _ r.a6) mI5
        have pI7 := hst _ _ tv _ _ 3 j (10 + (i : Int)) s7 hd7 hj mt7
        have T1 := t454.keep (fun o ho => kp7 454 o (fun e => nf _ r.a6 454 (by decide) e.symm) ho) up7
        have T2 := t482.keep (fun o ho => kp7 482 o (fun e => nf _ r.a6 482 (by decide) e.symm) ho) up7
        subst erows
        obtain ⟨NN', offN, stN, ledN⟩ := reg_end (r' := { r with hO := .hook 3 j (10 + (i : Int)) :: r.hO, vsO := .ref tup :: r.vsO, nO := r.nO + 1, odO := od', oo := od7 }) st nd d7 mI7
          (fun x o n1 n2 n3 ho => kp7 x o (fun e => n3 (e ▸ r.a6)) (kp5 x o n1 n2 (fun e => n3 (e ▸ r.a4)) (fun e => n3 (e ▸ r.a5)) (up2 _ _ _ _ ho))) s7 T1 T2
          (List.forall_mem_cons.mpr ⟨oth _ r.p1 ne14 ne15 ne16, List.forall_mem_cons.mpr ⟨oth _ r.p2 ne24 ne25 ne26, List.forall_mem_cons.mpr ⟨oth _ r.p3 ne34 ne35 ne36, List.forall_mem_cons.mpr ⟨kp7 _ _ (ne46) mp1, List.forall_mem_cons.mpr ⟨kp7 _ _ (ne56) mp2, List.forall_mem_cons.mpr ⟨md7, List.forall_mem_nil _⟩⟩⟩⟩⟩⟩)
          ⟨rk.cv, rk.fb, rk.nn, rk.row, rk.eI, rk.eO.cons (ent.mono up7), rk.kI, List.forall_mem_cons.mpr ⟨⟨.inr rfl, hj⟩, rk.kO⟩, rk.dI, hd', rk.pI, pI7, rk.s1, rk.s2, rk.s3, rk.s4, rk.lI, Nat.succ_le_succ rok.lO⟩ rfl rfl
        (focus (walk1))
        (try dsimp only [TPost])
        exact ⟨h₀, h7, _, _, _, rfl, F7, NN', offN, rfl, hscr, hrows, _, _, stN, by rw [List.length_append, List.length_cons] at hl1 ⊢; exact hl1, by rw [List.length_append, List.length_cons] at hl8 ⊢; exact hl8, ledN⟩
end
end
example {M : Model} {A : Around} {E Q : Value → Shared → Prop} {s : Shared} (h : wpAny M A (pure .none) Q E s) : wpAny M A (pure .none) Q E s := by
  w_top off
  first
    | (walk1; fail)
    | exact h
section
section
variable {prog : Program} {w : World} {A : Around} {E : Value → Shared → Prop} {s : Shared} {env : Env} {target : Expr} {body : List Stmt} {R : Result → Shared → Prop} {h₀ : Heap} {lst : Addr} {vs : List Value} {nn : Nat} {m₀ : Str → Option Value} {news : List (Addr × Obj)}

theorem for_list2 (J : Nat → (Str → Option Value) → List (Addr × Obj) → Prop)
    (hh : A.handled = none) (F : Fr h₀ env.locals s.heap m₀) (N : News h₀ env.locals s.heap news) (hJ : J 0 m₀ news)
    (hmem : ∀ i m₁ news₁, J i m₁ news₁ → (lst, W.listOf vs.toArray nn) ∈ news₁)
    (turn : ∀ I i v m₁ news₁ h tk it, vs[i]? = some v → J i m₁ news₁ → (∀ p ∈ news, p.1 < I) → (∀ p ∈ news₁, p.1 ≠ I) → (∃ x y, it.data = .fields #[.ref x, .int y 0]) → Fr h₀ env.locals h m₁ → News h₀ env.locals h ((I, it) :: news₁) →
      wpAny (model prog w) A (assign target env v) (fun _ s₂ => wpAny (model prog w) A (execs body env) (LPost h₀ env.locals s I it (J (i + 1)) R) (notedBy (model prog w) A env fun e s' => R (.error e) s') s₂)
        (notedBy (model prog w) A env fun e s' => R (.error e) s') { s with heap := h, toks := tk })
    (done : ∀ m₁ news₁ h tk, J vs.length m₁ news₁ → Fr h₀ env.locals h m₁ → News h₀ env.locals h news₁ → R (.ok .next) { s with heap := h, toks := tk }) :
    wpAny (model prog w) A (pyIter (.ref lst)) (fun it s₂ => codeAny (model prog w) A (.forLoop target it body [] env) R s₂) E s := by
  have isL : ∀ {h : Heap} {l : List (Addr × Obj)}, News h₀ env.locals h l → (lst, W.listOf vs.toArray nn) ∈ l → h.IsList lst vs.toArray := fun N hm => ⟨_, (N _ hm).1, rfl, nn, rfl⟩
  refine wpAny_pyIter_list (isL N (hmem _ _ _ hJ)) ?_
  have hI : ∀ p ∈ news, p.1 < s.heap.objs.size := fun p hp => Heap.lt_size (N p hp).1
  have hfree : h₀.get? s.heap.objs.size = none := by
    cases q : h₀.get? s.heap.objs.size with
    | none => rfl
    | some o => exact absurd (Heap.lt_size (F.keep _ _ q)) (Nat.lt_irrefl _)
  have hIL : s.heap.objs.size ≠ env.locals := Nat.ne_of_gt F.ns.lt
  generalize hgI : s.heap.objs.size = I at hI hfree hIL ⊢
  have N1 : News h₀ env.locals (s.heap.push { cls := .type "list_iterator", data := .fields #[.ref lst, .int 0 0] }) ((I, { cls := .type "list_iterator", data := .fields #[.ref lst, .int 0 0] }) :: news) := hgI ▸ N.push F _
  refine codeAny_forLoop_any (fun n s' => ∃ i m₁ news₁ h tk it, n = vs.length - i ∧ i ≤ vs.length ∧ s' = { s with heap := h, toks := tk } ∧ it.cls = .type "list_iterator" ∧ it.data = .fields #[.ref lst, .int i 0] ∧ Fr h₀ env.locals h m₁ ∧ News h₀ env.locals h ((I, it) :: news₁) ∧ (∀ p ∈ news₁, p.1 ≠ I) ∧ J i m₁ news₁) ?_ vs.length
    ⟨0, m₀, news, _, s.toks, _, (Nat.sub_zero _).symm, Nat.zero_le _, rfl, rfl, rfl, F.push _, N1, fun p hp => Nat.ne_of_lt (hI p hp), hJ⟩
  rintro n _ ⟨i, m₁, news₁, h, tk, it, rfl, hi, rfl, hc, hd, F₁, N₁, off, hJ₁⟩
  have hm₁ := hmem _ _ _ hJ₁
  have L₁ := isL N₁ (List.mem_cons_of_mem _ hm₁)
  have It : Heap.IsListIter h I lst i := ⟨it, (N₁ _ List.mem_cons_self).1, hc, hd⟩
  by_cases hlt : i < vs.length
  · obtain ⟨v, hv⟩ : ∃ v, vs[i]? = some v := ⟨vs[i], by simp [hlt]⟩
    refine wpAny_pyNext_list_item (s := { s with heap := h, toks := tk }) It L₁ (x := v) (by simpa using hv) fun h' It' hs => ?_
    dsimp only
    obtain ⟨it', hit', hc', hd'⟩ := It'
    have F₂ : Fr h₀ env.locals h' m₁ := F₁.change hs hIL hfree
    have N₂ : News h₀ env.locals h' ((I, it') :: news₁) := fun p hp => by
      rcases List.mem_cons.mp hp with rfl | hp
      · exact ⟨hit', hIL, hfree⟩
      · have y := N₁ p (List.mem_cons_of_mem _ hp)
        exact ⟨(hs.2 _ (off p hp)).trans y.1, y.2⟩
    refine wp_letOwned (I := I) (n := "list_iterator") (it := it') hit' hc' (by decide) ?_
    refine wpAny_mono (turn I i v m₁ news₁ h' tk it' hv hJ₁ hI off ⟨_, _, hd'⟩ F₂ N₂) (fun _ s₂ h₂ => wpAny_mono h₂ (fun f s₃ h₃ => ?_) fun _ _ e => e) fun _ _ e => e
    have fin : LEnd h₀ env.locals s I it' (J (i + 1)) s₃ → ∃ k, k < vs.length - i ∧ ∃ i m₁ news₁ h tk it, k = vs.length - i ∧ i ≤ vs.length ∧ s₃ = { s with heap := h, toks := tk } ∧ it.cls = .type "list_iterator" ∧ it.data = .fields #[.ref lst, .int i 0] ∧ Fr h₀ env.locals h m₁ ∧ News h₀ env.locals h ((I, it) :: news₁) ∧ (∀ p ∈ news₁, p.1 ≠ I) ∧ J i m₁ news₁ := by
      rintro ⟨hx, tk₃, m₃, news₃, rfl, F₃, N₃, off₃, hJ₃⟩
      exact ⟨vs.length - (i + 1), by omega, i + 1, m₃, news₃, hx, tk₃, it', rfl, hlt, rfl, hc', hd', F₃, N₃, off₃, hJ₃⟩
    cases f with
    | next => exact fin h₃
    | cont => exact fin h₃
    | brk => exact h₃
    | ret v => exact h₃
  · obtain rfl : i = vs.length := by omega
    refine wpAny_pyNext_list_end (s := { s with heap := h, toks := tk }) hh It L₁ (by simp) fun h' hs => ?_
    dsimp only
    refine wpAny_execs_nil (done m₁ news₁ h' tk hJ₁ ?_ ?_)
    · exact ⟨F₁.ns.extBut hs hIL.symm, fun b o e => hs b o (fun q => by rw [q, hfree] at e; cases e) (F₁.keep b o e), F₁.above⟩
    · intro p hp
      have y := N₁ p (List.mem_cons_of_mem _ hp)
      exact ⟨hs _ _ (off p hp) y.1, y.2⟩
end
end
example {M : Model} {A : Around} {E Q : Value → Shared → Prop} {s : Shared} (h : wpAny M A (pure .none) Q E s) : wpAny M A (pure .none) Q E s := by
  w_top off
  first
    | (walk1; fail)
    | exact h
section
theorem tabQ_but2 {h₀ h : Heap} {L I : Addr} {it : Obj} {ws : Array Value} {q : Str} {ps : Array Value} {l : List (Addr × Obj)} (T : TabQ q ps l) (N : News h₀ L h l) (hI : h.get? I = some it) (hd : it.data = .fields ws) (hy : ∀ a t, ws[1]? ≠ some (.str a t)) : TabQ q ps (but I l) := by
  refine ⟨T.1, fun pos cv h => ?_⟩
  obtain ⟨c', oc, vs, t, e, m, d, v⟩ := T.2 pos cv h
  refine ⟨c', oc, vs, t, e, mem_but.mpr ⟨m, fun z => ?_⟩, d, v⟩
  have h1 := (N _ m).1
  dsimp only at z h1
  rw [z, hI] at h1
  cases h1
  rw [hd] at d
  cases d
  exact hy _ _ v
theorem tn_but2 {h₀ h : Heap} {L I : Addr} {it : Obj} {ws : Array Value} {l : List (Addr × Obj)} (N : TN h₀ h L l) (hI : (I, it) ∈ l) (hd : it.data = .fields ws) (hy : ∀ a t, ws[1]? ≠ some (.str a t)) : TN h₀ h L (but I l) := by
  obtain ⟨ta, tb, tc, td, N, q1, q2, q3, q4, off⟩ := N
  have Nl : News h₀ L h l := nSub N fun p hp => List.mem_cons_of_mem _ (List.mem_cons_of_mem _ (List.mem_cons_of_mem _ (List.mem_cons_of_mem _ hp)))
  have g := (Nl _ hI).1
  refine ⟨ta, tb, tc, td, nSub N fun p hp => ?_, tabQ_but2 q1 Nl g hd hy, tabQ_but2 q2 Nl g hd hy, tabQ_but2 q3 Nl g hd hy, tabQ_but2 q4 Nl g hd hy, fun p hp => off p (mem_but.mp hp).1⟩
  simp only [List.mem_cons] at hp ⊢
  rcases hp with h | h | h | h | h
  · simp only [h, true_or]
  · simp only [h, true_or, or_true]
  · simp only [h, true_or, or_true]
  · simp only [h, true_or, or_true]
  · simp only [(mem_but.mp h).1, or_true]
end
example {M : Model} {A : Around} {E Q : Value → Shared → Prop} {s : Shared} (h : wpAny M A (pure .none) Q E s) : wpAny M A (pure .none) Q E s := by
  w_top off
  first
    | (walk1; fail)
    | exact h
section
local macro_rules | `(tactic| walk_at "MY:mem") => `(tactic| first | exact List.mem_cons_self | (refine' List.mem_cons_of_mem _ ?_; walk_at "MY:mem") | assumption | ktr_member)
local macro_rules | `(tactic| walk_at "eval Name") => `(tactic| (k_here; k_dflt (refine' ld ?k1 ?k2 ?_; (case k1 => k_asm); (case k2 => first | exact rfl | assumption))))
def body3' : {l : List Stmt // (lawL[4]?).map forBody = some l} := ⟨_, rfl⟩
abbrev body3 := body3'.1
def tgt3' : {l : Expr // (lawL[4]?).bind forTgt = some l} := ⟨_, rfl⟩
abbrev tgt3 := tgt3'.1
/-- between the turns of the third loop -/
def J3 (b0 : List (Addr × Obj)) (_ : Nat) (_ : Str → Option Value) (nw : List (Addr × Obj)) : Prop :=
  ∃ ta tb tc td nn, nw = (433, tabObj ta) :: (440, tabObj tb) :: (468, tabObj tc) :: (475, tabObj td) :: nn ∧ TabQ (qLam "_law_last_out") ta nn ∧ TabQ (qLam "_law_last_in") tb nn ∧ TabQ (qLam "_law_made_in") tc nn ∧ TabQ (qLam "_law_made_out") td nn ∧
    (∀ p ∈ nn, p.1 ≠ 433 ∧ p.1 ≠ 440 ∧ p.1 ≠ 468 ∧ p.1 ≠ 475) ∧ ∀ p ∈ b0, p ∈ nn
section
variable {w : World} {A₀ : Around} {base h₀ : Heap} {L fa : Addr} {cd : Value} {m mg mb : Str → Option Value} {p : Program} {loose : List Str} {mean : ExcName → Option Value} {s : Shared} {E : Value → Shared → Prop} {R : Result → Shared → Prop}
theorem turn3 {I : Addr} {it : Obj} {i kk : Nat} {r : RowS} {imm b0 : List (Addr × Obj)} {m₁ : Str → Option Value} {news₁ : List (Addr × Obj)} {hx : Heap} {tkx : Nat} {gd}
    (B : Below A₀ base [] h₀) (X : (Mine.hd.heap_39 w.params).In h₀) (T : Top p loose mean mg mb h₀) (rok : RowOk w imm kk r) (sb : ∀ p ∈ imm, p ∈ b0) (pb : ∀ p ∈ r.pl, p ∈ b0)
    (hJ : J3 b0 i m₁ news₁) (hoff : ∀ p ∈ news₁, p.1 ≠ I) (hd : ∃ x y, it.data = .fields #[.ref x, .int y 0]) (F1 : Fr h₀ L hx m₁) (N1 : News h₀ L hx ((I, it) :: news₁)) :
    wpAny (model PROG w) (⟨none, 310, some [lawEnv L fa cd], gd, 500⟩ : Around) (assign tgt3 (lawEnv L fa cd) (.ref r.ra)) (fun _ s₂ => wpAny (model PROG w) (⟨none, 310, some [lawEnv L fa cd], gd, 500⟩ : Around) (execs body3 (lawEnv L fa cd)) (LPost h₀ L s I it (J3 b0 (i + 1)) R) E s₂) E { s with heap := hx, toks := tkx } := by
  obtain ⟨ta, tb, tc, td, nn, rfl, q1, q2, q3, q4, off, sub⟩ := hJ
  obtain ⟨ix, iy, hdata⟩ := hd
  obtain ⟨tmr, nmr, mrow⟩ := rok.row
  have mrow2 := sub _ (sb _ mrow)
  dsimp only [tgt3, tgt3']
  (focus ((iterate 31 walk1)))
  (try dsimp only)
  rename News _ L _ _ => NN
  have tn := tn_with NN q1 q2 q3 q4 off hoff
  have sI : ∀ p ∈ imm, p ∈ (I, it) :: nn := fun p hp => List.mem_cons_of_mem _ (sub _ (sb p hp))
  have pI : ∀ p ∈ r.pl, p ∈ (I, it) :: nn := fun p hp => List.mem_cons_of_mem _ (sub _ (pb p hp))
  have k1 := hoff (433, _) List.mem_cons_self
  have k2 := hoff (440, _) (List.mem_cons_of_mem _ List.mem_cons_self)
  have k3 := hoff (468, _) (List.mem_cons_of_mem _ (List.mem_cons_of_mem _ List.mem_cons_self))
  have k4 := hoff (475, _) (List.mem_cons_of_mem _ (List.mem_cons_of_mem _ (List.mem_cons_of_mem _ List.mem_cons_self)))
  refine spec_told (by rfl) (by rfl) (Nat.le_of_ble_eq_true (by rfl)) (Nat.le_of_ble_eq_true (by rfl)) (by rfl) (by k_asm) (by k_asm) (by k_asm) (by k_asm) tn (rok.at sI pI) (pI _ r.p3) (pI _ r.p6) (rok.pI.mono sI (Nat.le_refl _)).at (rok.pO.mono sI (Nat.le_refl _)).at rok.s3 rok.s4 (fun j => plain_in rok.kI rok.nn j) (fun j _ => plain_out rok.kO rok.nn j) (out_non_ne rok.kO) ?_
  intro news' h2 tk2 F2 tn2 s2
  (focus ((iterate 4 walk1)))
  obtain ⟨ta9, tb9, tc9, td9, N9, y1, y2, y3, y4, off9⟩ := tn_but2 tn2 (s2 _ List.mem_cons_self) hdata (fun _ _ e => by cases e)
  exact ⟨h2, tk2, _, _, rfl, F2, news_add N9 tn2.news (s2 _ List.mem_cons_self), List.forall_mem_cons.mpr ⟨k1, List.forall_mem_cons.mpr ⟨k2, List.forall_mem_cons.mpr ⟨k3, List.forall_mem_cons.mpr ⟨k4, fun p hp => (mem_but.mp hp).2⟩⟩⟩⟩, ta9, tb9, tc9, td9, _, rfl, y1, y2, y3, y4, off9,
    fun p hp => mem_but.mpr ⟨s2 p (List.mem_cons_of_mem _ (sub p hp)), fun e => hoff p (List.mem_cons_of_mem _ (List.mem_cons_of_mem _ (List.mem_cons_of_mem _ (List.mem_cons_of_mem _ (sub p hp))))) e⟩⟩
end
end
example {M : Model} {A : Around} {E Q : Value → Shared → Prop} {s : Shared} (h : wpAny M A (pure .none) Q E s) : wpAny M A (pure .none) Q E s := by
  w_top off
  first
    | (walk1; fail)
    | exact h
section
local macro_rules | `(tactic| walk_at "MY:mem") => `(tactic| first | exact List.mem_cons_self | (refine' List.mem_cons_of_mem _ ?_; walk_at "MY:mem") | assumption | ktr_member)
local macro_rules | `(tactic| walk_at "eval Name") => `(tactic| (k_here; k_dflt (refine' ld ?k1 ?k2 ?_; (case k1 => k_asm); (case k2 => first | exact rfl | assumption))))
def s3' : {l : Stmt // lawL[3]? = some l} := ⟨_, rfl⟩
def s4' : {l : Stmt // lawL[4]? = some l} := ⟨_, rfl⟩
def s5' : {l : Stmt // lawL[5]? = some l} := ⟨_, rfl⟩
abbrev tail4 : List Stmt := [s4'.1, s5'.1]
abbrev tail3 : List Stmt := [s3'.1, s4'.1, s5'.1]
section
variable {w : World} {A₀ : Around} {base h₀ : Heap} {L fa : Addr} {cd : Value} {m mg mb : Str → Option Value} {p : Program} {loose : List Str} {mean : ExcName → Option Value} {s : Shared} {E : Value → Shared → Prop} {Q : Flow → Shared → Prop}
theorem law3 {RL : Addr} {rows : List RowS} {k : Nat} {led imm : List (Addr × Obj)} {gd}
    (B : Below A₀ base [] h₀) (X : (Mine.hd.heap_39 w.params).In h₀) (T : Top p loose mean mg mb h₀) (hrows : m "rows" = some (.ref RL)) (st : LawSt w led imm RL rows k) (d : Led h₀ L s.heap led imm (chOf RL rows)) (F : Fr h₀ L s.heap m)
    (hQ : ∀ h' tk m' nw, Fr h₀ L h' m' → News h₀ L h' nw → (∀ a ∈ fixed, ∃ ps, (a, tabObj ps) ∈ nw) → Q (.ret (.bool true)) { s with heap := h', toks := tk }) :
    wpAny (model PROG w) (⟨none, 310, some [lawEnv L fa cd], gd, 500⟩ : Around) (execs tail4 (lawEnv L fa cd)) Q E s := by
  obtain ⟨nR, mR⟩ := st.rl
  have N := d.N
  dsimp only [tail4, s4', s5']
  (focus (walk1))
  refine wpAny_For ?_
  (focus (walk1))
  obtain ⟨ta, m1, q1⟩ := st.t.e
  obtain ⟨tb, m2, q2⟩ := st.t.f
  obtain ⟨tc, m3, q3⟩ := st.t.g
  obtain ⟨td, m4, q4⟩ := st.t.h
  have hA : ∀ a ∈ ([433, 440, 468, 475] : List Addr), a ∈ chOf RL rows := List.forall_mem_cons.mpr ⟨fixed_ch (by decide), List.forall_mem_cons.mpr ⟨fixed_ch (by decide), List.forall_mem_cons.mpr ⟨fixed_ch (by decide), List.forall_mem_cons.mpr ⟨fixed_ch (by decide), List.forall_mem_nil _⟩⟩⟩⟩
  have sb : ∀ p ∈ imm, p ∈ rest [433, 440, 468, 475] led := d.subRest hA
  have pb := fun (r : RowS) (hr : r ∈ rows) => pl_rest (A := [433, 440, 468, 475]) (led := led) st d.nd hr (fun p hp => hp) (List.forall_mem_cons.mpr ⟨by decide, List.forall_mem_cons.mpr ⟨by decide, List.forall_mem_cons.mpr ⟨by decide, List.forall_mem_cons.mpr ⟨by decide, List.forall_mem_nil _⟩⟩⟩⟩)
  have nRL := ch_RL d.nd
  have bR : (RL, W.listOf (rows.map fun r => Value.ref r.ra).toArray nR) ∈ rest [433, 440, 468, 475] led := mem_rest.mpr ⟨mR, fun hm => nRL (by
    simp only [List.mem_cons, List.not_mem_nil, or_false] at hm
    rcases hm with h | h | h | h <;> (rw [h]; decide))⟩
  have b4 : ∀ a ∈ ([226, 447, 454, 482] : List Addr), ∃ ps, (a, tabObj ps) ∈ rest [433, 440, 468, 475] led := by
    obtain ⟨x1, y1, _⟩ := st.t.a
    obtain ⟨x2, y2, _⟩ := st.t.b
    obtain ⟨x3, y3, _⟩ := st.t.c
    obtain ⟨x4, y4, _⟩ := st.t.d
    exact List.forall_mem_cons.mpr ⟨⟨_, mem_rest.mpr ⟨y1, (by decide : (226 : Addr) ∉ ([433, 440, 468, 475] : List Addr))⟩⟩, List.forall_mem_cons.mpr ⟨⟨_, mem_rest.mpr ⟨y2, (by decide : (447 : Addr) ∉ ([433, 440, 468, 475] : List Addr))⟩⟩, List.forall_mem_cons.mpr ⟨⟨_, mem_rest.mpr ⟨y3, (by decide : (454 : Addr) ∉ ([433, 440, 468, 475] : List Addr))⟩⟩, List.forall_mem_cons.mpr ⟨⟨_, mem_rest.mpr ⟨y4, (by decide : (482 : Addr) ∉ ([433, 440, 468, 475] : List Addr))⟩⟩, List.forall_mem_nil _⟩⟩⟩⟩
  have N3 := d.front (A := [433, 440, 468, 475]) (pl := [(433, tabObj ta), (440, tabObj tb), (468, tabObj tc), (475, tabObj td)]) (List.forall_mem_cons.mpr ⟨m1, List.forall_mem_cons.mpr ⟨m2, List.forall_mem_cons.mpr ⟨m3, List.forall_mem_cons.mpr ⟨m4, List.forall_mem_nil _⟩⟩⟩⟩)
  have off0 : ∀ p ∈ rest [433, 440, 468, 475] led, p.1 ≠ 433 ∧ p.1 ≠ 440 ∧ p.1 ≠ 468 ∧ p.1 ≠ 475 := fun p hp => by
    have h := (mem_rest.mp hp).2
    simp only [List.mem_cons, List.not_mem_nil, or_false, not_or] at h
    exact h
  generalize rest [433, 440, 468, 475] led = b0 at sb pb bR b4 N3 off0
  refine for_list2 (vs := rows.map fun r => Value.ref r.ra) (nn := nR) (J3 b0) rfl F N3 ⟨ta, tb, tc, td, b0, rfl, q1.mono sb, q2.mono sb, q3.mono sb, q4.mono sb, off0, fun p hp => hp⟩ ?_ ?_ ?_
  · rintro i m' nw ⟨_, _, _, _, nn, rfl, _, _, _, _, _, sub⟩
    exact List.mem_cons_of_mem _ (List.mem_cons_of_mem _ (List.mem_cons_of_mem _ (List.mem_cons_of_mem _ (sub _ bR))))
  · rintro I i v m₁ news₁ hx tkx it hv hJ hI hoff hd F1 N1
    rw [List.getElem?_map] at hv
    obtain ⟨r, hr, rfl⟩ := Option.map_eq_some_iff.mp hv
    have mr := List.mem_of_getElem? hr
    exact turn3 B X T (st.ok r mr) sb (pb r mr) hJ hoff hd F1 N1
  · rintro m₁ news₁ hx tkx ⟨xa, xb, xc, xd, nn, rfl, _, _, _, _, _, sub⟩ F1 N1
    (try dsimp only)
    (focus ((iterate 3 walk1)))
    (try dsimp only)
    have up := fun (p : Addr × Obj) (hp : p ∈ b0) => List.mem_cons_of_mem (433, tabObj xa) (List.mem_cons_of_mem (440, tabObj xb) (List.mem_cons_of_mem (468, tabObj xc) (List.mem_cons_of_mem (475, tabObj xd) (sub p hp))))
    simp only [List.forall_mem_cons] at b4
    obtain ⟨⟨_, z1⟩, ⟨_, z2⟩, ⟨_, z3⟩, ⟨_, z4⟩, _⟩ := b4
    exact hQ hx _ m₁ _ F1 N1 (List.forall_mem_cons.mpr ⟨⟨_, up _ z1⟩, List.forall_mem_cons.mpr ⟨⟨_, up _ z2⟩, List.forall_mem_cons.mpr ⟨⟨_, up _ z3⟩, List.forall_mem_cons.mpr ⟨⟨_, up _ z4⟩,
      List.forall_mem_cons.mpr ⟨⟨_, List.mem_cons_self⟩, List.forall_mem_cons.mpr ⟨⟨_, List.mem_cons_of_mem _ List.mem_cons_self⟩, List.forall_mem_cons.mpr ⟨⟨_, List.mem_cons_of_mem _ (List.mem_cons_of_mem _ List.mem_cons_self)⟩, List.forall_mem_cons.mpr ⟨⟨_, List.mem_cons_of_mem _ (List.mem_cons_of_mem _ (List.mem_cons_of_mem _ List.mem_cons_self))⟩, List.forall_mem_nil _⟩⟩⟩⟩⟩⟩⟩⟩)
end
end
example {M : Model} {A : Around} {E Q : Value → Shared → Prop} {s : Shared} (h : wpAny M A (pure .none) Q E s) : wpAny M A (pure .none) Q E s := by
  w_top off
  first
    | (walk1; fail)
    | exact h
section
local macro_rules | `(tactic| walk_at "MY:mem") => `(tactic| first | exact List.mem_cons_self | (refine' List.mem_cons_of_mem _ ?_; walk_at "MY:mem") | assumption | ktr_member)
local macro_rules | `(tactic| walk_at "eval Name") => `(tactic| (k_here; k_dflt (refine' ld ?k1 ?k2 ?_; (case k1 => k_asm); (case k2 => first | exact rfl | assumption))))
section
variable {w : World} {A₀ : Around} {base h₀ : Heap} {L fa : Addr} {cd : Value} {m mg mb : Str → Option Value} {p : Program} {loose : List Str} {mean : ExcName → Option Value} {s : Shared} {E : Value → Shared → Prop} {Q : Flow → Shared → Prop}
theorem law2 {RL : Addr} {rows : List RowS} {k : Nat} {led imm : List (Addr × Obj)} {gd}
    (B : Below A₀ base [] h₀) (X : (Mine.hd.heap_39 w.params).In h₀) (T : Top p loose mean mg mb h₀) (hrows : m "rows" = some (.ref RL)) (st : LawSt w led imm RL rows k) (hl1 : 1 ≤ rows.length) (hl8 : rows.length ≤ 8) (hk : k ≤ 8) (d : Led h₀ L s.heap led imm (chOf RL rows)) (F : Fr h₀ L s.heap m)
    (hQ : ∀ h' tk m' nw, Fr h₀ L h' m' → News h₀ L h' nw → (∀ a ∈ fixed, ∃ ps, (a, tabObj ps) ∈ nw) → Q (.ret (.bool true)) { s with heap := h', toks := tk }) :
    wpAny (model PROG w) (⟨none, 310, some [lawEnv L fa cd], gd, 500⟩ : Around) (execs tail3 (lawEnv L fa cd)) Q E s := by
  obtain ⟨nR, mR⟩ := st.rl
  have N := d.N
  have nd := d.nd
  obtain ⟨r, mr, hix⟩ : ∃ r, r ∈ rows ∧ (rows.map fun r => Value.ref r.ra).toArray[(0 : Int).toNat]? = some (Value.ref r.ra) := by
    have h1 : 0 < rows.length := hl1
    exact ⟨rows[0], List.getElem_mem h1, by simp [h1]⟩
  have esz : (rows.map fun r => Value.ref r.ra).toArray.size = rows.length := by simp only [List.size_toArray, List.length_map]
  have rok := st.ok r mr
  obtain ⟨tmr, nmr, mrow⟩ := rok.row
  have mrow2 := d.sub _ mrow
  obtain ⟨q1, mt1, tq1⟩ := st.t.a
  have d2 : Led h₀ L s.heap led imm ([] ++ chOf RL rows) := d
  have hA : ∀ a ∈ ([226] : List Addr), a ∈ [] ++ chOf RL rows := List.forall_mem_cons.mpr ⟨mem_chp (fixed_ch (by decide)), List.forall_mem_nil _⟩
  have hpl := pl_rest (A := [226]) (led := led) st nd mr (fun p hp => hp) (List.forall_mem_cons.mpr ⟨by decide, List.forall_mem_nil _⟩)
  have lI := rok.lI; have lO := rok.lO
  have eI1 := rok.eI.1; have eO1 := rok.eO.1
  rw [List.length_append, List.length_cons, List.length_cons, List.length_nil] at eI1
  rw [List.length_append, List.length_cons, List.length_nil] at eO1
  have hC := rok.cv.mono (d2.subRest hA)
  have hNf := d2.front (A := [226]) (pl := [(226, tabObj q1)]) (List.forall_mem_cons.mpr ⟨mt1, List.forall_mem_nil _⟩)
  have hx0 : (#[Value.ref r.C.x, .ref r.hi, .ref r.ho, .int (if r.ow then r.mrk else -1) tmr] : Array Value)[(0 : Int).toNat]? = some (.ref r.C.x) := rfl
  have hx1 : (#[Value.ref r.C.x, .ref r.hi, .ref r.ho, .int (if r.ow then r.mrk else -1) tmr] : Array Value)[(1 : Int).toNat]? = some (.ref r.hi) := rfl
  have hx2 : (#[Value.ref r.C.x, .ref r.hi, .ref r.ho, .int (if r.ow then r.mrk else -1) tmr] : Array Value)[(2 : Int).toNat]? = some (.ref r.ho) := rfl
  have nf := fun a (ha : a ∈ r.ads) => (ch_rows nd mr ha).1
  obtain ⟨kvI, hkI, hlI, cpI⟩ := rok.pI.copy
  obtain ⟨kvO, hkO, hlO, cpO⟩ := rok.pO.copy
  dsimp only [tail3, s3', s4', s5']
  (focus ((iterate 4 walk1)))
  k_dflt (refine' listMethod_K ?N ?m PySem.F.slot_list_append PySem.F.type_list_append ?_; (case N => exact N); (case m => exact mR))
  (focus ((iterate 9 walk1)))
  refine PyProof.Rows.item_list (News.isList N mR) (by decide) (by decide) hix ?_
  (focus (walk1))
  refine kba_turn (value' := .Name "x" { line := 0, col := 0, endLine := 0, endCol := 0 }) (fun r => rfl) (PyProof.Rows.item_list (News.isList N mrow2) (by decide) (by decide) hx0 ?_)
  skip
  have hobj := hC.obj
  rcases hobj with ⟨dx, fb, om, ov, ua, pv, dv, i1, i2, hk', ho, hd0, hov⟩ | ⟨dx, pv, dv, i1, i2, hk', ho, hd0⟩
  all_goals (
    (focus ((iterate 2 walk1)))
    (try dsimp only)
    first
      | refine spec_copyC (C := r.C) (imm := imm) (ps := q1) (pa := .none) (da := .none) (xsO := r.vsO) (xsI := r.vsI) (nO := r.nO) (nI := r.nI) (news := rest [226] led) (by rfl) (by rfl) (Nat.le_of_ble_eq_true (by rfl)) (Nat.le_of_ble_eq_true (by rfl)) (by rfl) (by rfl) (by k_asm) (by k_asm) (by k_asm) (by k_asm) ?hb (.inl ⟨rfl, rfl⟩) hNf tq1 (d2.subRest hA) (fun p hp e => (mem_rest.mp hp).2 (e ▸ List.mem_cons_self)) hC hk' (hpl _ r.p4) (hpl _ r.p1) (by omega) (by omega) (by omega) (by omega) ?hQ
      | refine spec_copyB (C := r.C) (imm := imm) (ps := q1) (pa := .none) (da := .none) (xsO := r.vsO) (xsI := r.vsI) (nO := r.nO) (nI := r.nI) (news := rest [226] led) (by rfl) (by rfl) (Nat.le_of_ble_eq_true (by rfl)) (Nat.le_of_ble_eq_true (by rfl)) (by rfl) (by rfl) (by k_asm) (by k_asm) (by k_asm) (by k_asm) ?hb (.inl ⟨rfl, rfl⟩) hNf tq1 (d2.subRest hA) (fun p hp e => (mem_rest.mp hp).2 (e ▸ List.mem_cons_self)) hC hk' (hpl _ r.p4) (hpl _ r.p1) (by omega) (by omega) (by omega) (by omega) ?hQ
    case hb => exact ⟨_, _, by k_is, rfl, binds_K (by k_in) rfl (by k_is) rfl rfl rfl⟩
    case hQ =>
      intro C' odO odI nO' nI' ps' own h3 tk3 e1 e2 e3 F3 N3 cv tq dO dI fr
      obtain ⟨led3, imm3, d3, kp3, s3, t226, cv3, mp1, mp2, mp3, mp4⟩ := copied_led2 (P := []) d2 N3 fr tq cv
      have fs1 := fr.s1
      have fs2 := fr.s2
      clear N3 fr tq cv hA hpl hC hNf ho hd0
      have mhi := kp3 r.hi r.oi (fun e => nf _ r.a3 (e ▸ by decide)) (st.pl r mr _ r.p3)
      have mho := kp3 r.ho r.oo (fun e => nf _ r.a6 (e ▸ by decide)) (st.pl r mr _ r.p6)
      have mR3 := kp3 RL _ (fun e => ch_RL nd (e ▸ by decide)) mR
      have mrow3 := d3.sub _ (s3 _ mrow)
      have N3 := d3.N
      (focus ((iterate 9 walk1)))
      refine PyProof.Rows.item_list (News.isList N3 mR3) (by decide) (by decide) hix ?_
      (focus (walk1))
      refine kba_turn (value' := .Name "x" { line := 0, col := 0, endLine := 0, endCol := 0 }) (fun r => rfl) (PyProof.Rows.item_list (News.isList N3 mrow3) (by decide) (by decide) hx1 ?_)
      (focus (walk1))
      refine dict_copy_any (kvs := kvI) (knd := strKind PROG w) (by k_asm) N3 (Top.nolimit (by k_asm)) (kda_dict N3 mhi hkI) rok.s3 (by rw [sizeLine_eq]; omega) ?_
      intro dhi h4 oi F4 N4 l4 lo4 hd4
      (try dsimp only)
      (focus ((iterate 9 walk1)))
      refine PyProof.Rows.item_list (News.isList N4 (List.mem_cons_of_mem _ mR3)) (by decide) (by decide) hix ?_
      (focus (walk1))
      refine kba_turn (value' := .Name "x" { line := 0, col := 0, endLine := 0, endCol := 0 }) (fun r => rfl) (PyProof.Rows.item_list (News.isList N4 (List.mem_cons_of_mem _ mrow3)) (by decide) (by decide) hx2 ?_)
      (focus (walk1))
      refine dict_copy_any (kvs := kvO) (knd := strKind PROG w) (by k_asm) N4 (Top.nolimit (by k_asm)) (kda_dict N4 (List.mem_cons_of_mem _ mho) hkO) rok.s4 (by rw [sizeLine_eq]; omega) ?_
      intro dho h5 oo F5 N5 l5 lo5 hd5
      (try dsimp only)
      (focus ((iterate 5 walk1)))
      k_dflt (refine' newList_K ?k1 ?k2 ?_; (case k1 => k_asm); (case k2 => k_asm))
      intro ra h6 F6 N6 l6
      (focus (walk1))
      have d6 := ((d3.addN N4 l4).addN N5 l5).push N6 l6
      refine append_K (news' := (RL, W.listOf ((rows.map fun r => Value.ref r.ra).toArray.push (.ref ra)) (nR + 1)) :: rest [RL] _) F6 (d6.front (A := [RL]) (pl := [(RL, W.listOf (rows.map fun r => Value.ref r.ra).toArray nR)]) (List.forall_mem_cons.mpr ⟨List.mem_cons_of_mem _ (List.mem_cons_of_mem _ (List.mem_cons_of_mem _ mR3)), List.forall_mem_nil _⟩)) (Upd.head fun p hp e => (mem_rest.mp hp).2 (e ▸ List.mem_cons_self)) ?_ ?z
      case z => simp only [List.size_toArray, List.length_map, sizeLine_eq]; omega
      intro h7 F7 N7
      have s6 := fun (x : Addr × Obj) (p : Addr × Obj) (hp : p ∈ imm) => List.mem_cons_of_mem x (s3 p hp)
      obtain ⟨st7, d7, _⟩ := row_added (k := k) (pre := []) (r := ⟨C', ra, dhi, dho, false, 0, r.hI, r.hO, r.vsI.take (r.vsI.length - 2) ++ [.ref C'.tC, .ref C'.tB], nI', r.vsO.take (r.vsO.length - 1) ++ [.ref C'.tO], nO', odI, odO, oi, oo⟩) st nd d6
        (fun a o h1 h2 ho => List.mem_cons_of_mem _ (List.mem_cons_of_mem _ (List.mem_cons_of_mem _ (kp3 a o h1 ho)))) (s6 _)
        (t226.keep (fun o ho => List.mem_cons_of_mem _ (List.mem_cons_of_mem _ (List.mem_cons_of_mem _ ho))) fun p hp => List.mem_cons_of_mem _ hp)
        (st.t.b.keep (fun o ho => List.mem_cons_of_mem _ (List.mem_cons_of_mem _ (List.mem_cons_of_mem _ (kp3 _ o (fun e => absurd e (by decide)) ho)))) (s6 _))
        (List.forall_mem_cons.mpr ⟨List.mem_cons_of_mem _ (List.mem_cons_of_mem _ (List.mem_cons_of_mem _ mp3)), List.forall_mem_cons.mpr ⟨List.mem_cons_of_mem _ (List.mem_cons_of_mem _ (List.mem_cons_of_mem _ mp4)), List.forall_mem_cons.mpr ⟨List.mem_cons_of_mem _ (List.mem_cons_of_mem _ List.mem_cons_self), List.forall_mem_cons.mpr ⟨List.mem_cons_of_mem _ (List.mem_cons_of_mem _ (List.mem_cons_of_mem _ mp1)), List.forall_mem_cons.mpr ⟨List.mem_cons_of_mem _ (List.mem_cons_of_mem _ (List.mem_cons_of_mem _ mp2)), List.forall_mem_cons.mpr ⟨List.mem_cons_of_mem _ List.mem_cons_self, List.forall_mem_nil _⟩⟩⟩⟩⟩⟩)
        (row_copied (kvsI := kvI) (kvsO := kvO) rok (s6 _) (by rw [e1]; exact e2) (by rw [e1]; exact e3) (cv3.mono fun p hp => List.mem_cons_of_mem _ hp) List.mem_cons_self dI dO (cpI _ _ hd4 (s6 _)) (cpO _ _ hd5 (s6 _)) fs2 fs1 lo4 lo5) N7
      (try dsimp only)
      exact law3 B X T hrows st7 d7 F7 hQ)
end
end
example {M : Model} {A : Around} {E Q : Value → Shared → Prop} {s : Shared} (h : wpAny M A (pure .none) Q E s) : wpAny M A (pure .none) Q E s := by
  w_top off
  first
    | (walk1; fail)
    | exact h
section
local macro_rules | `(tactic| walk_at "MY:mem") => `(tactic| first | exact List.mem_cons_self | (refine' List.mem_cons_of_mem _ ?_; walk_at "MY:mem") | assumption | ktr_member)
local macro_rules | `(tactic| walk_at "eval Name") => `(tactic| (k_here; k_dflt (refine' ld ?k1 ?k2 ?_; (case k1 => k_asm); (case k2 => first | exact rfl | assumption))))
def s0' : {l : Stmt // lawL[0]? = some l} := ⟨_, rfl⟩
def s1' : {l : Stmt // lawL[1]? = some l} := ⟨_, rfl⟩
def s2' : {l : Stmt // lawL[2]? = some l} := ⟨_, rfl⟩
abbrev tail0 : List Stmt := [s0'.1, s1'.1, s2'.1, s3'.1, s4'.1, s5'.1]
theorem tabQ_nil {q : Str} {l : List (Addr × Obj)} : TabQ q #[] l := ⟨trivial, fun _ _ h => (by cases h)⟩
abbrev tabs0 : List (Addr × Obj) := [(475, tabObj #[]), (468, tabObj #[]), (454, tabObj #[]), (482, tabObj #[]), (440, tabObj #[]), (433, tabObj #[]), (226, tabObj #[]), (447, tabObj #[])]
theorem start_st {w : World} {RL : Addr} : LawSt w ((RL, W.listOf #[] 0) :: tabs0) [] RL [] 0 :=
  ⟨⟨⟨#[], by simp, tabQ_nil⟩, ⟨#[], by simp, tabQ_nil⟩, ⟨#[], by simp, tabQ_nil⟩, ⟨#[], by simp, tabQ_nil⟩, ⟨#[], by simp, tabQ_nil⟩, ⟨#[], by simp, tabQ_nil⟩, ⟨#[], by simp, tabQ_nil⟩, ⟨#[], by simp, tabQ_nil⟩⟩,
    ⟨0, List.mem_cons_self⟩, fun _ h => (by cases h), fun _ h => (by cases h)⟩
theorem start_led {h₀ h : Heap} {L RL : Addr} (N : News h₀ L h ((RL, W.listOf #[] 0) :: tabs0)) (lt : ∀ p ∈ tabs0, @LT.lt Nat _ p.1 RL) : Led h₀ L h ((RL, W.listOf #[] 0) :: tabs0) [] (chOf RL []) := by
  have nm : RL ∉ fixed := fun hm => by
    have h1 : ∃ o, (RL, o) ∈ tabs0 := by
      simp only [fixed, List.mem_cons, List.not_mem_nil, or_false] at hm
      rcases hm with rfl | rfl | rfl | rfl | rfl | rfl | rfl | rfl <;> exact ⟨tabObj #[], by simp⟩
    obtain ⟨o, ho⟩ := h1
    exact Nat.lt_irrefl _ (lt _ ho)
  refine ⟨N, fun _ h => (by cases h), fun _ h => (by cases h), List.nodup_append.mpr ⟨by decide, by simp, fun a ha b hb e => ?_⟩, fun a ha => ?_⟩
  · have : b = RL := by simpa using hb
    exact nm (this ▸ e ▸ ha)
  · rcases List.mem_append.mp ha with ha | ha
    · simp only [fixed, List.mem_cons, List.not_mem_nil, or_false] at ha
      rcases ha with rfl | rfl | rfl | rfl | rfl | rfl | rfl | rfl <;> exact ⟨tabObj #[], by simp⟩
    · have : a = RL := by simpa using ha
      subst this
      exact ⟨_, List.mem_cons_self⟩
section
variable {w : World} {A₀ : Around} {base h₀ : Heap} {L fa : Addr} {cd : Value} {m mg mb : Str → Option Value} {p : Program} {loose : List Str} {mean : ExcName → Option Value} {s : Shared} {E : Value → Shared → Prop} {Q : Flow → Shared → Prop}
theorem law1 {sl : Addr} {items : Array Value} {gd}
    (B : Below A₀ base [] h₀) (X : (Mine.hd.heap_39 w.params).In h₀) (T : Top p loose mean mg mb h₀) (hs : h₀.IsList sl items) (hi : ∀ (i : Nat) v, items[i]? = some v → ∃ c t, v = .int c t) (hsz : items.size ≤ 1000) (hm : m "script" = some (.ref sl))
    (F : Fr h₀ L s.heap m) (N : News h₀ L s.heap tabs0)
    (hQ : ∀ h' tk m' nw, Fr h₀ L h' m' → News h₀ L h' nw → (∀ a ∈ fixed, ∃ ps, (a, tabObj ps) ∈ nw) → Q (.ret (.bool true)) { s with heap := h', toks := tk }) :
    wpAny (model PROG w) (⟨none, 310, some [lawEnv L fa cd], gd, 500⟩ : Around) (execs tail0 (lawEnv L fa cd)) Q E s := by
  dsimp only [tail0, s0', s1', s2', s3', s4', s5']
  (focus ((iterate 4 walk1)))
  k_dflt (refine' newList_K ?k1 ?k2 ?_; (case k1 => k_asm); (case k2 => k_asm))
  intro RL h2 F2 N2 l2
  (focus ((iterate 3 walk1)))
  refine wpAny_For ?_
  (focus ((iterate 16 walk1)))
  refine spec_cell (by rfl) (by rfl) (Nat.le_of_ble_eq_true (by rfl)) (Nat.le_of_ble_eq_true (by rfl)) (by rfl) (by rfl) (by k_asm) (by k_asm) (by k_asm) (by k_asm) (by k_asm) hs hi hsz (by omega) ?_
  intro c tc h3 tk3 F3 N3
  have hc0 := Int.fmod_nonneg_of_pos c (show (0 : Int) < 3 by decide)
  have hc1 := Int.fmod_lt_of_pos c (show (0 : Int) < 3 by decide)
  obtain ⟨n, hn1, hn3, en⟩ : ∃ n : Nat, 1 ≤ n ∧ n ≤ 3 ∧ 1 + c.fmod 3 = (n : Int) := ⟨(1 + c.fmod 3).toNat, by omega, by omega, by omega⟩
  have hsm : Builtin.Range.small 0 (1 + c.fmod 3) 1 = true ∧ Builtin.Range.rangeSize 0 (1 + c.fmod 3) 1 = (n : Int) := by
    rw [en]
    match n, hn1, hn3 with
    | 1, _, _ => exact ⟨rfl, rfl⟩
    | 2, _, _ => exact ⟨rfl, rfl⟩
    | 3, _, _ => exact ⟨rfl, rfl⟩
  (focus ((iterate 5 walk1)))
  (try dsimp only)

  refine for_range (n := n) (J1 w h₀ L sl RL) (by rfl) (by assumption) hsm.1 hsm.2 (by k_asm) (by k_asm) ⟨rfl, by exact hm, by exact rfl, [], [], start_st, rfl, fun h N' => start_led N' l2⟩ ?_ ?_
  · rintro I i k g m₁ news₁ hx tkx it hlt hJ hI hoff hcls hdat F1 N1
    obtain rfl := hJ.1
    exact turn1 B X T hs hi hsz (by omega) hJ hoff F1 N1
  · rintro g m₁ news₁ hx tkx ⟨rfl, hscr, hrows, imm, rows, st, hlen, hled⟩ F1 N1
    (try dsimp only)
    (focus (walk1))
    refine wpAny_For ?_
    (focus ((iterate 7 walk1)))
    (try dsimp only)
    refine for_range (n := 8) (J2 w g L sl RL) (by rfl) (by assumption) (by rfl) (by rfl) (by k_asm) (by k_asm) ⟨rfl, hscr, hrows, imm, rows, st, by omega, by omega, hled⟩ ?_ ?_
    · rintro I i k g' m₂ news₂ hy tky it hlt hJ hI hoff hcls hdat F2 N2
      obtain rfl := hJ.1
      refine turn2 B X T hs hi hsz hlt hJ hoff F2 N2 ?_
      intro m' nw h' tk imm' rows' hscr' hrows' st' hl1 hl8 hled' F'
      (try dsimp only)
      exact law2 B X T hrows' st' hl1 hl8 (Nat.le_refl _) hled' F' hQ
    · rintro g' m₂ news₂ hy tky ⟨rfl, hscr', hrows', imm', rows', st', hl1, hl8, hled'⟩ F2 N2
      (try dsimp only)
      exact law2 B X T hrows' st' hl1 hl8 (Nat.le_refl _) (hled' _ N2) F2 hQ
end
end
example {M : Model} {A : Around} {E Q : Value → Shared → Prop} {s : Shared} (h : wpAny M A (pure .none) Q E s) : wpAny M A (pure .none) Q E s := by
  w_top off
  first
    | (walk1; fail)
    | exact h
section
theorem ints_mem {vs : List Value} {ns : List Int} (h : IntsAre vs ns) : ∀ v ∈ vs, ∃ c t, v = .int c t := by
  induction h with
  | nil => exact fun _ h => by cases h
  | cons n t _ ih => exact List.forall_mem_cons.mpr ⟨⟨n, t, rfl⟩, ih⟩
theorem ints_len {vs : List Value} {ns : List Int} (h : IntsAre vs ns) : vs.length = ns.length := by
  induction h with
  | nil => rfl
  | cons n t _ ih => rw [List.length_cons, List.length_cons, ih]
theorem ints_get {vs : List Value} {ns : List Int} (h : IntsAre vs ns) (i : Nat) (v : Value) (hv : vs.toArray[i]? = some v) : ∃ c t, v = .int c t := by
  rw [List.getElem?_toArray] at hv
  exact ints_mem h v (List.mem_of_getElem? hv)
theorem lawT : PySem.Challenge.rw_fq0009_01.Holds := hd (by
  k_go0
  refine wp_le 310 500 (by rfl) (by rfl) (Nat.le_of_ble_eq_true (by rfl)) (Nat.le_of_ble_eq_true (by rfl)) ?_
  rename_i lifted _ _ _ _ _ _ _ _ NN l0
  rename IntsAre _ _ => hI
  rename Fr _ _ _ _ => FF
  have hlen := ints_len hI
  refine law1 (by assumption) (by assumption) (by assumption) lifted (ints_get hI) (by rw [List.size_toArray]; omega) (by exact rfl) FF NN ?_
  intro h' tk m' nw F N hf
  (try dsimp only)
  simp only [fixed, List.forall_mem_cons] at hf
  obtain ⟨⟨_, z1⟩, ⟨_, z2⟩, ⟨_, z3⟩, ⟨_, z4⟩, ⟨_, z5⟩, ⟨_, z6⟩, ⟨_, z7⟩, ⟨_, z8⟩, _⟩ := hf
  refine ⟨?_, GrownAt.of N z8, GrownAt.of N z7, GrownAt.of N z3, GrownAt.of N z4, GrownAt.of N z6, GrownAt.of N z5, GrownAt.of N z1, GrownAt.of N z2, trivial⟩

  k_end
  wrow_close)
end
example {M : Model} {A : Around} {E Q : Value → Shared → Prop} {s : Shared} (h : wpAny M A (pure .none) Q E s) : wpAny M A (pure .none) Q E s := by
  w_top off
  first
    | (walk1; fail)
    | exact h
end Mine
theorem PySem.Challenge.cw_fq0009_01_holds : PySem.Challenge.rw_fq0009_01.Holds :=
  Mine.lawT
