import PyProof.Rows.All
import Wide.All
import OpenK.AllK
import Wide.FinOn
import PyProof.AttrMissHeap
import PyProof.AutoIntOps
import PyProof.CodeObjX
import PyProof.Cells
import PyProof.Conv_int
import PyProof.MeetsSeq3
import PyProof.ExcClass2
import PyProof.ExcBaseAll.Exception
import PyProof.ExcAttrAll.TypeError
import PyProof.StrLaws
import PyProof.GenRules
import PyProof.GenObj
import PyProof.GenArm
import PyProof.GenQ
import PyProof.TwoTypesSub
import PyProof.SumAny
import KE.KCallOwn
import KE.KDictList
import KE.KDictSum
import KE.KDictOf
import KE.KEqDict
import KE.KItemsList
import KE.KNestM
import KE.KTryMore
import Lean
import PySem.Challenge.RW_ez0179_01
set_option Elab.async false
set_option linter.unusedVariables false
set_option maxRecDepth 100000
section -- A1
open PySem PySem.W PySem.Calls PyProof.Rows
namespace Mine

abbrev PR : Program := PySem.Challenge.rw_ez0179_01.row.prog

/-- whose it is: a word of the proof's own, nothing in the heap -/
inductive Tag where
  | none | node | adj | gattr | row (n : Int) | attr (n : Int) | data (u v : Int)
/-- what the ledger says of one made object -/
inductive Cell where
  | obj (o : Obj)
  | di (tg : Tag) (kvs : List (Int × Value)) (ep : Nat)
  | ds (tg : Tag) (kvs : List (Str × Value)) (ep : Nat)
  | sm (f : Str → Option Value) (n : Nat) (hot : Bool)
  | lst (vs : List Value)
  | tup (vs : List Value)
  | cv (v : Option Value)
  | pcv (v : Option Value)
  | pl (vs : List Value)
  | exo (o : Obj)
  | lit (l : Addr) (i : Nat)
  | kit (d : Addr) (i n ep : Nat)
  | vit (d : Addr) (i n ep : Nat)
  | iit (d : Addr) (i n ep : Nat)
  | tab (ps : Array Value)
  | ns (m : List (Str × Value))
  | gen (n : Nat)

/-- an exception: its address may be low -/
def Cell.low : Cell → Bool
  | .exo _ => true
  | _ => false

/-- a frame's names, as far as they are told -/
def NsLe (h : Heap) (L : Addr) (m : List (Str × Value)) : Prop := ∃ m₀, h.Ns L m₀ ∧ ∀ x v, m.lookup x = some v → m₀ x = some v
theorem NsLe.move {h h' : Heap} {L : Addr} {m : List (Str × Value)} (x : NsLe h L m) (e : ∀ o, h.get? L = some o → h'.get? L = some o) : NsLe h' L m := by
  obtain ⟨m₀, ⟨o, es, ep, ho, r⟩, hm⟩ := x
  exact ⟨m₀, ⟨o, es, ep, e o ho, r⟩, hm⟩
theorem NsLe.some {h : Heap} {L : Addr} {m : List (Str × Value)} (x : NsLe h L m) : ∃ o, h.get? L = some o := by
  obtain ⟨m₀, ⟨o, es, ep, ho, r⟩, hm⟩ := x
  exact ⟨o, ho⟩

/-- an object's own dict; hot: it has been handed out -/
def SmAt (w : World) (h : Heap) (a : Addr) (f : Str → Option Value) (n : Nat) (hot : Bool) : Prop :=
  ∃ o es ep, h.get? a = some o ∧ (o.cls = .type "dict" ∧ o.dict = none ∧ o.slots = if hot then #[none] else #[]) ∧ o.data = .dict es ep ∧ KeysOf (strKind PR w) es ∧ (∀ k, findBy (strKind PR w).is es k = f k) ∧ es.size ≤ n
theorem SmAt.typeIs {w : World} {s : Shared} {a : Addr} {f : Str → Option Value} {n : Nat} {hot : Bool} (x : SmAt w s.heap a f n hot) : s.TypeIs (.ref a) "dict" := let ⟨o, _, _, ho, hc, _⟩ := x; ⟨o, ho, hc.1⟩
theorem SmAt.noDict {w : World} {h : Heap} {a : Addr} {f : Str → Option Value} {n : Nat} {hot : Bool} (x : SmAt w h a f n hot) : ∀ b, Value.ref a = .ref b → ∃ ob, h.get? b = some ob ∧ ob.dict = none :=
  fun b e => by injection e with e; subst e; exact let ⟨o, _, _, ho, hc, _⟩ := x; ⟨o, ho, hc.2.1⟩
def Sat (w : World) (h : Heap) (a : Addr) : Cell → Prop
  | .obj o => h.get? a = some o
  | .di _ kvs ep => h.DictAt (intKind PR w) a kvs ep
  | .ds _ kvs ep => h.DictAt (strKind PR w) a kvs ep
  | .sm f n hot => SmAt w h a f n hot
  | .lst vs => h.IsList a vs.toArray
  | .tup vs => h.get? a = some { cls := .type "tuple", data := .seq vs.toArray }
  | .cv v => h.IsCell a v
  | .pcv v => h.IsCell a v
  | .pl vs => h.IsList a vs.toArray
  | .exo o => h.get? a = some o
  | .lit l i => h.IsListIter a l i
  | .kit d i n ep => h.IsKeyIter a d i n ep
  | .vit d i n ep => h.IsValIter a d i n ep
  | .iit d i n ep => ∃ ok ov, IsItemIter h a d i n ep ok ov
  | .tab ps => h.get? a = some (tabObj ps) ∧ TriplesOk ps.toList
  | .ns m => NsLe h a m
  | .gen n => h.IsGen a n

theorem Sat.move {w : World} {h h' : Heap} {a : Addr} {c : Cell} (x : Sat w h a c) (e : ∀ o, h.get? a = some o → h'.get? a = some o) : Sat w h' a c := by
  cases c with
  | obj o => exact e _ x
  | di tg kvs ep => obtain ⟨o, es, ho, r⟩ := x; exact ⟨o, es, e _ ho, r⟩
  | ds tg kvs ep => obtain ⟨o, es, ho, r⟩ := x; exact ⟨o, es, e _ ho, r⟩
  | sm f n hot => obtain ⟨o, es, ep, ho, r⟩ := x; exact ⟨o, es, ep, e _ ho, r⟩
  | lst vs => obtain ⟨o, ho, r⟩ := x; exact ⟨o, e _ ho, r⟩
  | tup vs => exact e _ x
  | cv v => obtain ⟨o, ho, r⟩ := x; exact ⟨o, e _ ho, r⟩
  | pcv v => obtain ⟨o, ho, r⟩ := x; exact ⟨o, e _ ho, r⟩
  | pl vs => obtain ⟨o, ho, r⟩ := x; exact ⟨o, e _ ho, r⟩
  | exo o => exact e _ x
  | lit l i => obtain ⟨o, ho, r⟩ := x; exact ⟨o, e _ ho, r⟩
  | kit d i n ep => obtain ⟨o, ho, r⟩ := x; exact ⟨o, e _ ho, r⟩
  | vit d i n ep => obtain ⟨o, ho, r⟩ := x; exact ⟨o, e _ ho, r⟩
  | iit d i n ep => obtain ⟨ok, ov, h⟩ := x; exact ⟨ok, ov, e _ h⟩
  | tab ps => exact ⟨e _ x.1, x.2⟩
  | ns m => exact NsLe.move x e
  | gen n => obtain ⟨o, nm, qn, ho, r⟩ := x; exact ⟨o, nm, qn, e _ ho, r⟩

theorem Sat.some {w : World} {h : Heap} {a : Addr} {c : Cell} (x : Sat w h a c) : ∃ o, h.get? a = some o := by
  cases c with
  | obj o => exact ⟨o, x⟩
  | di tg kvs ep => obtain ⟨o, es, ho, r⟩ := x; exact ⟨o, ho⟩
  | ds tg kvs ep => obtain ⟨o, es, ho, r⟩ := x; exact ⟨o, ho⟩
  | sm f n hot => obtain ⟨o, es, ep, ho, r⟩ := x; exact ⟨o, ho⟩
  | lst vs => obtain ⟨o, ho, r⟩ := x; exact ⟨o, ho⟩
  | tup vs => exact ⟨_, x⟩
  | cv v => obtain ⟨o, ho, r⟩ := x; exact ⟨o, ho⟩
  | pcv v => obtain ⟨o, ho, r⟩ := x; exact ⟨o, ho⟩
  | pl vs => obtain ⟨o, ho, r⟩ := x; exact ⟨o, ho⟩
  | exo o => exact ⟨o, x⟩
  | lit l i => obtain ⟨o, ho, r⟩ := x; exact ⟨o, ho⟩
  | kit d i n ep => obtain ⟨o, ho, r⟩ := x; exact ⟨o, ho⟩
  | vit d i n ep => obtain ⟨o, ho, r⟩ := x; exact ⟨o, ho⟩
  | iit d i n ep => obtain ⟨ok, ov, h⟩ := x; exact ⟨_, h⟩
  | tab ps => exact ⟨_, x.1⟩
  | ns m => exact NsLe.some x
  | gen n => obtain ⟨o, nm, qn, ho, r⟩ := x; exact ⟨o, ho⟩

abbrev Led := Addr → Option Cell
def upd (C : Led) (a : Addr) (c : Cell) : Led := fun b => if b = a then some c else C b
theorem upd_same (C : Led) (a : Addr) (c : Cell) : upd C a c a = some c := if_pos rfl
theorem upd_ne {C : Led} {a b : Addr} {c : Cell} (h : b ≠ a) : upd C a c b = C b := if_neg h
theorem upd_old {C : Led} {a b : Addr} {c c' : Cell} (hb : C b = some c') (ha : C a = none) : upd C a c b = some c' := by
  rw [upd_ne (fun e => by rw [e, ha] at hb; cases hb)]; exact hb

theorem ne_of_cells {C : Led} {a b : Addr} {c c' : Cell} (ha : C a = some c) (hb : C b = some c') (h : c ≠ c') : a ≠ b := by
  rintro rfl
  rw [ha] at hb
  exact h (Option.some.inj hb)
def Ext (C C' : Led) : Prop := ∀ b c, C b = some c → C' b = some c
theorem Ext.refl (C : Led) : Ext C C := fun _ _ e => e
theorem Ext.trans {A B C : Led} (x : Ext A B) (y : Ext B C) : Ext A C := fun b c e => y b c (x b c e)
theorem Ext.upd {C : Led} {a : Addr} {c : Cell} (ha : C a = none) : Ext C (upd C a c) := fun _ _ e => upd_old e ha

/-- the frame's names that we keep track of, the frames below, the ledger, the generators, the outside; g: what stood before all -/
structure St (w : World) (g : Heap) (L : Addr) (m : List (Str × Value)) (F : List (Addr × List (Str × Value))) (C : Led) (G : Array GenState) (O : OsState) (s : Shared) : Prop where
  ns : NsLe s.heap L m
  keep : ∀ b o, g.get? b = some o → s.heap.get? b = some o
  nl : g.get? L = none
  frs : ∀ p ∈ F, NsLe s.heap p.1 p.2 ∧ p.1 ≠ L ∧ g.get? p.1 = none ∧ sysModules < p.1
  sat : ∀ a c, C a = some c → Sat w s.heap a c
  off : ∀ a c, C a = some c → (a ≠ L ∧ ∀ p ∈ F, a ≠ p.1) ∧ g.get? a = none ∧ (c.low = false → sysModules < a)
  hi : sysModules < L
  gens : s.gens = G
  os : s.os = O
  ab : g.objs.size ≤ L ∧ ∀ p ∈ F, g.objs.size ≤ p.1

theorem mem_of_lookup {x : Str} {v : Value} : ∀ {l : List (Str × Value)}, l.lookup x = some v → (x, v) ∈ l
  | [], e => by cases e
  | (y, u) :: l, e => by
    rw [List.lookup_cons] at e
    cases hxy : x == y with
    | true => rw [hxy] at e; cases e; rw [eq_of_beq hxy]; exact .head _
    | false => rw [hxy] at e; exact .tail _ (mem_of_lookup e)

section
variable {w : World} {g : Heap} {L : Addr} {m m' : List (Str × Value)} {F : List (Addr × List (Str × Value))} {C C' : Led} {G : Array GenState} {O : OsState} {s s' : Shared}

theorem St.lt (S : St w g L m F C G O s) : L < s.heap.objs.size := by obtain ⟨o, ho⟩ := S.ns.some; exact Heap.lt_size ho
theorem St.cellLt (S : St w g L m F C G O s) {a : Addr} {c : Cell} (e : C a = some c) : a < s.heap.objs.size := by
  obtain ⟨o, ho⟩ := (S.sat a c e).some; exact Heap.lt_size ho
theorem St.freeLe (S : St w g L m F C G O s) {a : Addr} (ha : s.heap.objs.size ≤ a) : C a = none := by
  cases e : C a with
  | none => rfl
  | some c => exact absurd (S.cellLt e) (Nat.not_lt.mpr ha)
theorem St.free (S : St w g L m F C G O s) : C s.heap.objs.size = none := S.freeLe (Nat.le_refl _)
theorem St.newOff (S : St w g L m F C G O s) {a : Addr} (ha : s.heap.objs.size ≤ a) : (a ≠ L ∧ ∀ p ∈ F, a ≠ p.1) ∧ g.get? a = none ∧ sysModules < a := by
  refine ⟨⟨Nat.ne_of_gt (Nat.lt_of_lt_of_le S.lt ha), fun p hp => ?_⟩, ?_, Nat.lt_trans S.hi (Nat.lt_of_lt_of_le S.lt ha)⟩
  · obtain ⟨o, ho⟩ := (S.frs p hp).1.some
    exact Nat.ne_of_gt (Nat.lt_of_lt_of_le (Heap.lt_size ho) ha)
  · cases e : g.get? a with
    | none => rfl
    | some o => exact absurd (Heap.lt_size (S.keep _ _ e)) (Nat.not_lt.mpr ha)

theorem St.sub (S : St w g L m F C G O s) (h : ∀ p ∈ m', m.lookup p.1 = some p.2) : St w g L m' F C G O s := by
  obtain ⟨m₀, hn, hm⟩ := S.ns
  exact ⟨⟨m₀, hn, fun x v e => hm x v (h _ (mem_of_lookup e))⟩, S.keep, S.nl, S.frs, S.sat, S.off, S.hi, S.gens, S.os, S.ab⟩
theorem St.forget (S : St w g L m F C G O s) (h : ∀ a c, C' a = some c → C a = some c) : St w g L m F C' G O s :=
  ⟨S.ns, S.keep, S.nl, S.frs, fun a c e => S.sat a c (h a c e), fun a c e => S.off a c (h a c e), S.hi, S.gens, S.os, S.ab⟩

/-- nothing of what stands is changed (new objects may come) -/
theorem St.grown (S : St w g L m F C G O s) (hk : ∀ b o, s.heap.get? b = some o → s'.heap.get? b = some o) (hg : s'.gens = G) (ho : s'.os = O) : St w g L m F C G O s' :=
  ⟨S.ns.move (hk L), fun b o e => hk b o (S.keep b o e), S.nl, fun p hp => ⟨(S.frs p hp).1.move (hk p.1), (S.frs p hp).2⟩, fun a c e => (S.sat a c e).move (hk a), S.off, S.hi, hg, ho, S.ab⟩
theorem St.toks (S : St w g L m F C G O s) (t : Nat) : St w g L m F C G O { s with toks := t } := S.grown (fun _ _ e => e) S.gens S.os
theorem St.new (S : St w g L m F C G O s) {a : Addr} {c : Cell} (ha : s.heap.objs.size ≤ a) (hk : ∀ b o, s.heap.get? b = some o → s'.heap.get? b = some o) (hc : Sat w s'.heap a c) (hg : s'.gens = G) (ho : s'.os = O) :
    St w g L m F (upd C a c) G O s' := by
  have S' := S.grown hk hg ho
  refine ⟨S'.ns, S'.keep, S.nl, S'.frs, fun b d e => ?_, fun b d e => ?_, S.hi, hg, ho, S.ab⟩
  · by_cases hb : b = a
    · subst hb; rw [upd_same] at e; cases e; exact hc
    · rw [upd_ne hb] at e; exact S'.sat b d e
  · by_cases hb : b = a
    · subst hb; exact let ⟨k1, k2, k3⟩ := S.newOff ha; ⟨k1, k2, fun _ => k3⟩
    · rw [upd_ne hb] at e; exact S'.off b d e
theorem St.push (S : St w g L m F C G O s) {o : Obj} {c : Cell} {t : Nat} (hc : Sat w (s.heap.push o) s.heap.objs.size c) : St w g L m F (upd C s.heap.objs.size c) G O { s with heap := s.heap.push o, toks := t } :=
  S.new (Nat.le_refl _) (fun _ _ e => Heap.get?_push_of_some _ e) hc S.gens S.os
theorem St.fr (S : St w g L m F C G O s) : ∃ m₀, Fr g L s.heap m₀ := let ⟨m₀, hn, _⟩ := S.ns; ⟨m₀, hn, S.keep, S.ab.1⟩
/-- one made object changed -/
theorem St.put (S : St w g L m F C G O s) {a : Addr} {c₀ c : Cell} (ha : C a = some c₀) (hs : Heap.SameBut a s.heap s'.heap) (hc : Sat w s'.heap a c) (hg : s'.gens = G) (ho : s'.os = O) (hlow : c.low = false → c₀.low = false := by intro h; first | rfl | exact h | cases h) :
    St w g L m F (upd C a c) G O s' := by
  obtain ⟨⟨n1, n4⟩, n2, n3⟩ := S.off a c₀ ha
  refine ⟨S.ns.move fun o q => (hs.2 L (Ne.symm n1)).trans q, fun b o e => (hs.2 b (fun q => ?_)).trans (S.keep b o e), S.nl, fun p hp => ⟨(S.frs p hp).1.move fun o q => (hs.2 p.1 (Ne.symm (n4 p hp))).trans q, (S.frs p hp).2⟩, fun b d e => ?_, fun b d e => ?_, S.hi, hg, ho, S.ab⟩
  · rw [q, n2] at e; cases e
  · by_cases hb : b = a
    · subst hb; rw [upd_same] at e; cases e; exact hc
    · rw [upd_ne hb] at e; exact (S.sat b d e).move fun o q => (hs.2 b hb).trans q
  · by_cases hb : b = a
    · subst hb; rw [upd_same] at e; cases e; exact ⟨⟨n1, n4⟩, n2, fun h => n3 (hlow h)⟩
    · rw [upd_ne hb] at e; exact S.off b d e
theorem St.putX (S : St w g L m F C G O s) {a : Addr} {c₀ c : Cell} (ha : C a = some c₀) (hs : Heap.ExtBut a s.heap s'.heap) (hc : Sat w s'.heap a c) (hg : s'.gens = G) (ho : s'.os = O) (hlow : c.low = false → c₀.low = false := by intro h; first | rfl | exact h | cases h) :
    St w g L m F (upd C a c) G O s' := by
  obtain ⟨⟨n1, n4⟩, n2, n3⟩ := S.off a c₀ ha
  refine ⟨S.ns.move fun o q => hs L o (Ne.symm n1) q, fun b o e => hs b o (fun q => ?_) (S.keep b o e), S.nl, fun p hp => ⟨(S.frs p hp).1.move fun o q => hs p.1 o (Ne.symm (n4 p hp)) q, (S.frs p hp).2⟩, fun b d e => ?_, fun b d e => ?_, S.hi, hg, ho, S.ab⟩
  · rw [q, n2] at e; cases e
  · by_cases hb : b = a
    · subst hb; rw [upd_same] at e; cases e; exact hc
    · rw [upd_ne hb] at e; exact (S.sat b d e).move fun o q => hs b o hb q
  · by_cases hb : b = a
    · subst hb; rw [upd_same] at e; cases e; exact ⟨⟨n1, n4⟩, n2, fun h => n3 (hlow h)⟩
    · rw [upd_ne hb] at e; exact S.off b d e
/-- an object that came since is told -/
theorem St.learn {C₀ : Led} {G₀ : Array GenState} {s₀ : Shared} {m₀ : List (Str × Value)} (S : St w g L m F C G O s) (S₀ : St w g L m₀ F C₀ G₀ O s₀) {a : Addr} {c : Cell} (ha : s₀.heap.objs.size ≤ a) (hc : Sat w s.heap a c) : St w g L m F (upd C a c) G O s := by
  refine ⟨S.ns, S.keep, S.nl, S.frs, fun b d e => ?_, fun b d e => ?_, S.hi, S.gens, S.os, S.ab⟩
  · by_cases hb : b = a
    · subst hb; rw [upd_same] at e; cases e; exact hc
    · rw [upd_ne hb] at e; exact S.sat b d e
  · by_cases hb : b = a
    · subst hb; exact let ⟨k1, k2, k3⟩ := S₀.newOff ha; ⟨k1, k2, fun _ => k3⟩
    · rw [upd_ne hb] at e; exact S.off b d e
theorem St.notMods (S : St w g L m F C G O s) {a : Addr} {c : Cell} (e : C a = some c) (hl : c.low = false := by rfl) : (a == sysModules) = false := beq_eq_false_iff_ne.mpr (Nat.ne_of_gt ((S.off a c e).2.2 hl))
/-- the frame's own dict changed -/
theorem St.own (S : St w g L m F C G O s) (hn : NsLe s'.heap L m') (hs : Heap.SameBut L s.heap s'.heap) (hg : s'.gens = G) (ho : s'.os = O) : St w g L m' F C G O s' :=
  ⟨hn, fun b o e => (hs.2 b (fun q => by rw [q, S.nl] at e; cases e)).trans (S.keep b o e), S.nl, fun p hp => ⟨(S.frs p hp).1.move fun o q => (hs.2 p.1 (S.frs p hp).2.1).trans q, (S.frs p hp).2⟩,
    fun a c e => (S.sat a c e).move fun o q => (hs.2 a (S.off a c e).1.1).trans q, S.off, S.hi, hg, ho, S.ab⟩
theorem nsLe_set {h' : Heap} {m₀ : Str → Option Value} {x : Str} {v : Value} (hm : ∀ y u, m.lookup y = some u → m₀ y = some u) (hn : h'.Ns L (fun y => if y = x then some v else m₀ y)) : NsLe h' L ((x, v) :: m) := by
  refine ⟨_, hn, fun y u e => ?_⟩
  rw [List.lookup_cons] at e
  by_cases hy : y = x
  · subst hy; rw [beq_self_eq_true] at e; cases e; exact if_pos rfl
  · rw [if_neg hy]
    rw [beq_eq_false_iff_ne.mpr hy] at e
    exact hm y u e
/-- into a new frame -/
theorem St.into (S : St w g L m F C G O s) {L' : Addr} (hL' : s.heap.objs.size ≤ L') (hk : ∀ b o, s.heap.get? b = some o → s'.heap.get? b = some o) (hn : NsLe s'.heap L' m') (hg : s'.gens = G) (ho : s'.os = O) :
    St w g L' m' ((L, m) :: F) C G O s' := by
  obtain ⟨⟨n1, n4⟩, n2, n3⟩ := S.newOff hL'
  refine ⟨hn, fun b o e => hk b o (S.keep b o e), n2, fun p hp => ?_, fun a c e => (S.sat a c e).move (hk a), fun a c e => ?_, n3, hg, ho, Nat.le_trans S.ab.1 (Nat.le_of_lt (Nat.lt_of_lt_of_le S.lt hL')), fun p hp => ?_⟩
  · rcases List.mem_cons.mp hp with rfl | hp
    · exact ⟨S.ns.move (hk L), Ne.symm n1, S.nl, S.hi⟩
    · exact ⟨(S.frs p hp).1.move (hk p.1), Ne.symm (n4 p hp), (S.frs p hp).2.2⟩
  · refine ⟨⟨Nat.ne_of_lt (Nat.lt_of_lt_of_le (S.cellLt e) hL'), fun p hp => ?_⟩, (S.off a c e).2⟩
    rcases List.mem_cons.mp hp with rfl | hp
    · exact (S.off a c e).1.1
    · exact (S.off a c e).1.2 p hp
  · rcases List.mem_cons.mp hp with rfl | hp
    · exact S.ab.1
    · exact S.ab.2 p hp
/-- back out of it -/
theorem St.pop {C₀ : Led} {G₀ : Array GenState} {s₀ : Shared} {L' : Addr} (S₀ : St w g L m F C₀ G₀ O s₀) (S : St w g L' m' ((L, m) :: F) C G O s) : St w g L m F C G O s := by
  obtain ⟨h1, h2, h3, h4⟩ := S.frs (L, m) (.head _)
  refine ⟨h1, S.keep, h3, fun p hp => ?_, S.sat, fun a c e => ?_, h4, S.gens, S.os, S.ab.2 (L, m) (.head _), fun p hp => S.ab.2 p (.tail _ hp)⟩
  · obtain ⟨k1, _, k3⟩ := S.frs p (.tail _ hp)
    exact ⟨k1, (S₀.frs p hp).2.1, k3⟩
  · obtain ⟨⟨_, k2⟩, k3⟩ := S.off a c e
    exact ⟨⟨k2 _ (.head _), fun p hp => k2 p (.tail _ hp)⟩, k3⟩
/-- back out of a block whose names are let go -/
theorem St.popX {C₀ : Led} {G₀ : Array GenState} {s₀ : Shared} {L' : Addr} {m₀ : List (Str × Value)} (S₀ : St w g L m₀ F C₀ G₀ O s₀) (S : St w g L' m' ((L, m) :: F) C G O s) (hs : Heap.SameBut L' s.heap s'.heap) (hg : s'.gens = G) (ho : s'.os = O) : St w g L m F C G O s' := by
  obtain ⟨h1, h2, h3, h4⟩ := S.frs (L, m) (.head _)
  refine ⟨h1.move fun o q => (hs.2 L h2).trans q, fun b o e => (hs.2 b (fun q => by rw [q, S.nl] at e; cases e)).trans (S.keep b o e), h3, fun p hp => ?_, fun a c e => (S.sat a c e).move fun o q => (hs.2 a (S.off a c e).1.1).trans q, fun a c e => ?_, h4, hg, ho, S.ab.2 (L, m) (.head _), fun p hp => S.ab.2 p (.tail _ hp)⟩
  · obtain ⟨k1, k2, k3⟩ := S.frs p (.tail _ hp)
    exact ⟨k1.move fun o q => (hs.2 p.1 k2).trans q, (S₀.frs p hp).2.1, k3⟩
  · obtain ⟨⟨_, k2⟩, k3⟩ := S.off a c e
    exact ⟨⟨k2 _ (.head _), fun p hp => k2 p (.tail _ hp)⟩, k3⟩
end
end Mine
end
section -- A2
open PySem PySem.W PySem.Calls PyProof.Rows
namespace Mine

/-- what stands before the call -/
structure Wd (K : Frag) (p : Program) (loose : List Str) (mg mb : Str → Option Value) (g : Heap) : Prop where
  X : K.In g
  T : TopRead p loose mg mb g
theorem Wd.keeps {K : Frag} {p : Program} {loose : List Str} {mg mb : Str → Option Value} {g g' : Heap} (D : Wd K p loose mg mb g) (hk : ∀ b o, g.get? b = some o → g'.get? b = some o) : Wd K p loose mg mb g' :=
  ⟨D.X.keeps hk, D.T.keeps hk⟩

section
variable {K : Frag} {p : Program} {loose : List Str} {mg mb : Str → Option Value}
  {w : World} {g : Heap} {L : Addr} {m : List (Str × Value)} {F : List (Addr × List (Str × Value))} {C : Led} {G : Array GenState} {O : OsState} {s : Shared} {A : Around} {E : Value → Shared → Prop}
  {env : Env} {x : Str} {pos : Pos} {v : Value} {Q : Value → Shared → Prop} {c : Addr}

/-- names -/
theorem r_loc (S : St w g L m F C G O s) (hv : m.lookup x = some v) (h : Q v s)
    (hk : env.scope.kind = .function := by rfl) (hx : env.kindOf x = some .local := by rfl) (hd : (x == ("__debug__" : Str)) = false := by decide) (hL : env.locals = L := by rfl) :
    wpAny (model PR w) A (eval (.Name x pos) env) Q E s := by
  obtain ⟨m₀, hn, hm⟩ := S.ns
  subst hL
  exact wpAny_Name (wpAny_loadName_local hk hx hn (hm x v hv) h) hd
theorem r_cell (S : St w g L m F C G O s) (hc : env.cells.lookup x = some c) (hC : C c = some (.cv (some v))) (h : Q v s)
    (hk : env.scope.kind = .function := by rfl) (hx : env.kindOf x = some .cell := by rfl) (hd : (x == ("__debug__" : Str)) = false := by decide) :
    wpAny (model PR w) A (eval (.Name x pos) env) Q E s :=
  wpAny_Name (wpAny_loadName_cell hk hx hc (S.sat c _ hC) h) hd
theorem r_free (S : St w g L m F C G O s) (hc : env.cells.lookup x = some c) (hC : C c = some (.cv (some v))) (h : Q v s)
    (hk : env.scope.kind = .function := by rfl) (hx : env.kindOf x = some .free := by rfl) (hd : (x == ("__debug__" : Str)) = false := by decide) (hn : (x == ("__classdict__" : Str)) = false := by decide) :
    wpAny (model PR w) A (eval (.Name x pos) env) Q E s :=
  wpAny_Name (wpAny_loadName_free hk hx hc (S.sat c _ hC) h hn) hd
theorem r_glob (S : St w g L m F C G O s) (D : Wd K p loose mg mb g) (e : nsIn K mainGlobals x = some (some v)) (h : Q v s)
    (hk : env.scope.kind = .function := by rfl) (hx : env.kindOf x = some .globalImplicit := by rfl) (hd : (x == ("__debug__" : Str)) = false := by decide) (hg : env.globals = mainGlobals := by rfl) :
    wpAny (model PR w) A (eval (.Name x pos) env) Q E s :=
  Name_function_global hk hx (loadGlobal_global (env := env) (by rw [hg]; exact D.T.g.keeps S.keep) (mg_of D.X D.T.g e) h) hd
theorem r_bi (S : St w g L m F C G O s) (D : Wd K p loose mg mb g) (e : nsIn K mainGlobals x = some none) (hv : bootBuiltins x = some v) (hn : x ≠ "__name__") (h : Q v s)
    (hk : env.scope.kind = .function := by rfl) (hx : env.kindOf x = some .globalImplicit := by rfl) (hd : (x == ("__debug__" : Str)) = false := by decide) (hg : env.globals = mainGlobals := by rfl) (hb : env.builtins = builtinsNs := by rfl) :
    wpAny (model PR w) A (eval (.Name x pos) env) Q E s :=
  Name_function_global hk hx (loadGlobal_builtin (env := env) (by rw [hg]; exact D.T.g.keeps S.keep) (mg_none_of D.X D.T.g e) (by rw [hb]; exact D.T.b.keeps S.keep) ((D.T.builtins x hn).trans hv) h) hd

/-- a name stored -/
theorem r_store {Q : Unit → Shared → Prop} (S : St w g L m F C G O s) (h : ∀ s', St w g L ((x, v) :: m) F C G O s' → Q () s')
    (hk : env.scope.kind = .function := by rfl) (hx : env.kindOf x = some .local := by rfl) (hL : env.locals = L := by rfl) :
    wpAny (model PR w) A (storeName env x v) Q E s := by
  obtain ⟨m₀, hn, hm⟩ := S.ns
  subst hL
  exact wpAny_storeName_local hx hn (fun h' hn' hs => h _ (S.own (nsLe_set hm hn') hs S.gens S.os)) (by rw [hk]; rfl)
theorem r_storec {Q : Unit → Shared → Prop} {v₀ : Option Value} (S : St w g L m F C G O s) (hc : env.cells.lookup x = some c) (hC : C c = some (.cv v₀)) (h : ∀ s', St w g L m F (upd C c (.cv (some v))) G O s' → Q () s')
    (hk : env.scope.kind = .function := by rfl) (hx : env.kindOf x = some .cell := by rfl) :
    wpAny (model PR w) A (storeName env x v) Q E s :=
  wpAny_storeName_cell hk hx hc (S.sat c _ hC) fun _ hv hs => h _ (S.put hC hs hv S.gens S.os)

/-- constants -/
theorem r_int {i : Int} {k : Nat} {env : Env} (S : St w g L m F C G O s) (h : ∀ t s', St w g L m F C G O s' → Q (.int i t) s') : wpAny (model PR w) A (eval (.Constant (.int i) k pos) env) Q E s :=
  wpAny_Constant_int (h _ _ (S.toks _))
theorem r_str {z : Str} {k : Nat} {env : Env} (S : St w g L m F C G O s) (h : ∀ t s', St w g L m F C G O s' → Q (.str z t) s') : wpAny (model PR w) A (eval (.Constant (.str z) k pos) env) Q E s :=
  wpAny_Constant_str (h _ _ (S.toks _))

/-- an object dict told by a map -/
theorem look_of_map {h : Heap} {dx : Addr} {f : Str → Option Value} {n : Nat} {hot : Bool} (hm : SmAt w h dx f n hot) : ∃ o, h.get? dx = some o ∧ ∀ name, lookIn name o = some (f name) := by
  obtain ⟨o, es, ep, ho, _, hd, hk, hf, _⟩ := hm
  refine ⟨o, ho, fun name => ?_⟩
  unfold lookIn
  rw [hd]
  dsimp only
  have hkeys : ∀ e ∈ es, ∃ z t, e.key = .str z t := fun e he => by
    obtain ⟨z, hz, _⟩ := hk e he
    obtain ⟨t, ht⟩ := Value.isStrOf_shape hz
    exact ⟨z, t, ht⟩
  have hq : (fun e : DictEntry => (strKind PR w).is name e.key) = fun e => e.key.isStr name := funext fun e => (isStr_of name e.key).symm
  have hf' := hf name
  unfold findBy at hf'
  rw [hq, ← Array.find?_toList] at hf'
  cases q : es.toList.find? fun e => e.key.isStr name with
  | some e => rw [q] at hf'; dsimp only; rw [← hf']; rfl
  | none =>
    rw [q] at hf'
    have z : es.toList.any (·.refKey) = false := by
      rw [Bool.eq_false_iff]
      intro hh
      obtain ⟨e, he, hr⟩ := List.any_eq_true.mp hh
      obtain ⟨z, t, ht⟩ := hkeys e (Array.mem_toList_iff.mp he)
      simp [DictEntry.refKey, ht] at hr
    rw [z, if_neg Bool.false_ne_true, ← hf']; rfl

theorem inst_of {xa dx cls : Addr} {f : Str → Option Value} {nf : Nat} {hot : Bool} (S : St w g L m F C G O s) (h1 : C xa = some (.obj (instObj cls dx))) (h2 : C dx = some (.sm f nf hot)) :
    ∃ o, InstAt s.heap xa (instObj cls dx) cls (some o) ∧ ∀ name, lookIn name o = some (f name) := by
  obtain ⟨o, ho, hl⟩ := look_of_map (S.sat dx _ h2)
  exact ⟨o, ⟨S.sat xa _ h1, rfl, rfl, ho⟩, hl⟩

/-- what K says of a class's field that an object's own dict may hold -/
def ownOk (K : Frag) (cls : Addr) (name : Str) : Bool :=
  plainGet K cls name && hasDictIn K cls && (match findIn K (.ref cls) name with | some attr => noGet K attr || (match attr with | some a => (specialIn K a "__get__").isSome && takesIn K a == some false | none => false) | none => false)

theorem findObj_any {cls : Addr} {o : Obj} {name : Str} (hok : ownOk K cls name = true) (hl : lookIn name o = some (some v)) : findObj K cls (some o) name = some (.value v) := by
  unfold ownOk at hok
  simp only [Bool.and_eq_true] at hok
  obtain ⟨⟨_, hh⟩, hx⟩ := hok
  obtain ⟨cd, hcd, hd⟩ := any_some hh
  cases hf : findIn K (.ref cls) name with
  | none => rw [hf] at hx; cases hx
  | some attr =>
    rw [hf] at hx
    dsimp only at hx
    have own : PySem.W.ownOf cd (some o) name = some (some v) := by unfold PySem.W.ownOf; rw [if_pos hd]; exact hl
    unfold findObj
    rw [hcd, hf]
    cases attr with
    | none => simp only [Option.bind_some, own]
    | some a =>
      cases hg : specialIn K a "__get__" with
      | none => simp [noGet, hg] at hx
      | some get =>
        cases get with
        | none => simp only [Option.bind_some, hg, own]
        | some gg =>
          have ht : takesIn K a = some false := by simpa [noGet, hg] using hx
          simp only [Option.bind_some, hg, ht, own]

/-- an field read off an object's own dict -/
theorem r_attr {xa dx cls : Addr} {f : Str → Option Value} {nf : Nat} {hot : Bool} {name : Str} {expr : Bool} (S : St w g L m F C G O s) (D : Wd K p loose mg mb g) (h1 : C xa = some (.obj (instObj cls dx))) (h2 : C dx = some (.sm f nf hot))
    (hok : ownOk K cls name = true) (hv : f name = some v) (hh : handedIn v = true) (h : ∀ s', St w g L m F C G O s' → Q v s') : wpAny (model PR w) A (getAttr (.ref xa) name expr) Q E s := by
  obtain ⟨o, I, hl⟩ := inst_of S h1 h2
  have hg : plainGet K cls name = true := by
    unfold ownOk at hok
    simp only [Bool.and_eq_true] at hok
    exact hok.1.1
  exact get_value (D.X.keeps S.keep) I (plainGet_of hg).1 (findObj_any hok (by rw [hl, hv])) hh (h _ (S.toks _))

/-- a method got off an object -/
theorem r_meth {xa dx cls fa : Addr} {f : Str → Option Value} {nf : Nat} {hot : Bool} {name : Str} {pl : Sem Bool} {Q : Value × List Value → Shared → Prop} (S : St w g L m F C G O s) (D : Wd K p loose mg mb g) (h1 : C xa = some (.obj (instObj cls dx))) (h2 : C dx = some (.sm f nf hot))
    (hg : plainGet K cls name = true) (hf : findIn K (.ref cls) name = some (some (.ref fa))) (ht : isFn K (.ref fa) = true) (hv : f name = none) (h : Q (.ref fa, [.ref xa]) s) :
    wpAny (model PR w) A (getMethod (.ref xa) name pl) Q E s := by
  obtain ⟨o, I, hl⟩ := inst_of S h1 h2
  exact method_fn (D.X.keeps S.keep) I (plainGet_of hg).1 (plainGet_of hg).2 hf (beq_iff_eq.mp ht) (by show (lookIn name o).map _ = _; rw [hl, hv]; rfl) h
end
end Mine
end
section -- A3
open PySem PySem.W PySem.Calls PyProof.Rows
namespace Mine

section
variable {w : World} {g : Heap} {L : Addr} {m : List (Str × Value)} {F : List (Addr × List (Str × Value))} {C : Led} {G : Array GenState} {O : OsState} {s : Shared} {A : Around} {E : Value → Shared → Prop} {d : Addr} {pos : Pos} {tg tg2 : Tag}

theorem empty_at {K : Type} [DecidableEq K] {knd : KeyKind PR w K} (h : Heap) : (h.push { cls := .type "dict", data := .dict #[] }).DictAt knd h.objs.size [] 0 :=
  ⟨_, #[], Heap.get?_push_size _ rfl, ⟨rfl, rfl, rfl⟩, rfl, fun _ he => by simp at he, .nil, List.nodup_nil⟩
/-- {} -/
theorem r_newdi (tg : Tag) {Q : Value → Shared → Prop} {env : Env} (S : St w g L m F C G O s) (h : ∀ d s', C d = none → St w g L m F (upd C d (.di tg [] 0)) G O s' → Q (.ref d) s') : wpAny (model PR w) A (eval (.Dict [] [] pos) env) Q E s :=
  wpAny_Dict_empty (h _ _ S.free (S.new (Nat.le_refl _) (fun _ _ e => Heap.get?_push_of_some _ e) (empty_at s.heap) S.gens S.os))
theorem r_newds (tg : Tag) {Q : Value → Shared → Prop} {env : Env} (S : St w g L m F C G O s) (h : ∀ d s', C d = none → St w g L m F (upd C d (.ds tg [] 0)) G O s' → Q (.ref d) s') : wpAny (model PR w) A (eval (.Dict [] [] pos) env) Q E s :=
  wpAny_Dict_empty (h _ _ S.free (S.new (Nat.le_refl _) (fun _ _ e => Heap.get?_push_of_some _ e) (empty_at s.heap) S.gens S.os))

theorem St.dictI (S : St w g L m F C G O s) {kvs : List (Int × Value)} {ep : Nat} (e : C d = some (.di tg kvs ep)) : s.heap.DictOf (intKind PR w) d kvs := (S.sat d _ e).dictOf
theorem St.dictS (S : St w g L m F C G O s) {kvs : List (Str × Value)} {ep : Nat} (e : C d = some (.ds tg kvs ep)) : s.heap.DictOf (strKind PR w) d kvs := (S.sat d _ e).dictOf
theorem St.nodupI (S : St w g L m F C G O s) {kvs : List (Int × Value)} {ep : Nat} (e : C d = some (.di tg kvs ep)) : (kvs.map (·.1)).Nodup := Heap.DictAt.nodup (S.sat d _ e)
theorem St.nodupS (S : St w g L m F C G O s) {kvs : List (Str × Value)} {ep : Nat} (e : C d = some (.ds tg kvs ep)) : (kvs.map (·.1)).Nodup := Heap.DictAt.nodup (S.sat d _ e)
theorem St.putI (S : St w g L m F C G O s) {c₀ : Cell} {kvs : List (Int × Value)} {s' : Shared} (e : C d = some c₀) (hd : s'.heap.DictOf (intKind PR w) d kvs) (hs : Heap.SameBut d s.heap s'.heap) (hg : s'.gens = G) (ho : s'.os = O) (hl : c₀.low = false := by rfl) :
    ∃ ep, St w g L m F (upd C d (.di tg kvs ep)) G O s' := by
  obtain ⟨ep, hx⟩ := hd.dictAt
  exact ⟨ep, S.put e hs hx hg ho fun _ => hl⟩
theorem St.putS (S : St w g L m F C G O s) {c₀ : Cell} {kvs : List (Str × Value)} {s' : Shared} (e : C d = some c₀) (hd : s'.heap.DictOf (strKind PR w) d kvs) (hs : Heap.SameBut d s.heap s'.heap) (hg : s'.gens = G) (ho : s'.os = O) (hl : c₀.low = false := by rfl) :
    ∃ ep, St w g L m F (upd C d (.ds tg kvs ep)) G O s' := by
  obtain ⟨ep, hx⟩ := hd.dictAt
  exact ⟨ep, S.put e hs hx hg ho fun _ => hl⟩

/-- k in d, k not in d -/
theorem r_inI {Q : Value → Shared → Prop} {kvs : List (Int × Value)} {ep : Nat} {k : Int} {t : Tok} (S : St w g L m F C G O s) (hd : C d = some (.di tg kvs ep)) (h : ∀ s', St w g L m F C G O s' → Q (.bool (valueAt kvs k).isSome) s') :
    wpAny (model PR w) A (compareOp .In (.int k t) (.ref d)) Q E s :=
  wpAny_in_of (intKind_is PR w k t) (S.notMods hd) (S.dictI hd).mapOf (h _ (S.toks _))
theorem r_notinI {Q : Value → Shared → Prop} {kvs : List (Int × Value)} {ep : Nat} {k : Int} {t : Tok} (S : St w g L m F C G O s) (hd : C d = some (.di tg kvs ep)) (h : ∀ s', St w g L m F C G O s' → Q (.bool (!(valueAt kvs k).isSome)) s') :
    wpAny (model PR w) A (compareOp .NotIn (.int k t) (.ref d)) Q E s :=
  wpAny_notIn_of (intKind_is PR w k t) (S.notMods hd) (S.dictI hd).mapOf (h _ (S.toks _))

/-- d[k] -/
theorem r_subI {Q : Value → Shared → Prop} {value slice : PySem.Expr} {kvs : List (Int × Value)} {ep : Nat} {k : Int} {t : Tok} {v : Value} (S : St w g L m F C G O s) (hd : C d = some (.di tg kvs ep)) (hv : valueAt kvs k = some v) (h : ∀ s', St w g L m F C G O s' → Q v s')
    (hs : subscripted slice false (.ref d) (.int k t) = operate [.ref d, .int k t] (getItem (.ref d) (.int k t)) := by with_unfolding_all rfl) :
    wpAny (model PR w) A (subscriptTail value slice (.ref d) (.int k t)) Q E s :=
  tail_any (S.dictI hd).typeIs slot_dict_getitem.lookup (wpAny_getItem_of (intKind_is PR w k t) (S.dictI hd).mapOf hv (h _ (S.toks _))) hs

/-- d[k] = v -/
theorem r_setI {Q : Unit → Shared → Prop} {kvs : List (Int × Value)} {ep : Nat} {k : Int} {t : Tok} {v : Value} (S : St w g L m F C G O s) (hd : C d = some (.di tg kvs ep)) (hz : kvs.length ≤ 1000) (h : ∀ ep' s', St w g L m F (upd C d (.di tg (stored kvs k v) ep')) G O s' → Q () s') :
    wpAny (model PR w) A (setItem (.ref d) (.int k t) v) Q E s :=
  wpAny_setItem_pairs (intKind_is PR w k t) (S.dictI hd) (fun h' hm hs => by
    obtain ⟨ep', S'⟩ := S.putI (s' := { s with heap := h', toks := s.toks + 1 }) hd hm hs S.gens S.os
    exact h ep' _ S') (by rw [sizeLine_eq]; omega)

/-- del d[k] -/
theorem r_delI {Q : Unit → Shared → Prop} {kvs : List (Int × Value)} {ep : Nat} {k : Int} {t : Tok} (S : St w g L m F C G O s) (hd : C d = some (.di tg kvs ep)) (hz : kvs.length ≤ 1000) (hin : (valueAt kvs k).isSome = true)
    (h : ∀ ep' s', St w g L m F (upd C d (.di tg (without kvs k) ep')) G O s' → Q () s') : wpAny (model PR w) A (delItem (.ref d) (.int k t)) Q E s := by
  have hD := S.dictI hd
  unfold delItem
  try with_reducible refine wpAny_holding ?_
  refine wpAny_bind (wpAny_sequenceKey hD.typeIs (by decide) ?_)
  refine wpAny_bind (wpAny_callSpecial?_slot (name := Str.ofString "__delitem__") hD.typeIs PySem.F.slot_dict_delitem
    (call_meetsIn PySem.F.slot_dict_delitem hD.typeIs PySem.F.entry_dict_delitem (PySem.F.args_dict_delitem_2 _ _) (meets_dict_delitem_pairs (intKind PR w) d (intKind_is PR w k t)) ⟨kvs, hD, (by rw [sizeLine_eq]; omega), hin, fun h' hm hs => ?_⟩))
  obtain ⟨ep', S'⟩ := S.putI (s' := { s with heap := h', toks := s.toks + 1 }) hd hm hs S.gens S.os
  exact wpAny_pure (h ep' _ S')

/-- the methods of a dict -/
theorem r_methD {Q : Value × List Value → Shared → Prop} {name : Str} {id : String} {pl : Sem Bool} {c : Cell} (S : St w g L m F C G O s) (hd : C d = some c) (hc : (∃ tg kvs ep, c = .di tg kvs ep) ∨ (∃ tg kvs ep, c = .ds tg kvs ep) ∨ ∃ f nf hot, c = .sm f nf hot)
    (slot : Slot "dict" name id) (hty : typeOf (.builtin id) = pure (.type "method_descriptor")) (h : Q (.builtin id, [.ref d]) s) : wpAny (model PR w) A (getMethod (.ref d) name pl) Q E s := by
  rcases hc with ⟨tg, kvs, ep, rfl⟩ | ⟨tg, kvs, ep, rfl⟩ | ⟨f, nf, hot, rfl⟩
  · exact getMethod_builtin (S.dictI hd).typeIs PySem.F.plainAttrs_dict slot hty (S.dictI hd).mapOf.noDict h
  · exact getMethod_builtin (S.dictS hd).typeIs PySem.F.plainAttrs_dict slot hty (S.dictS hd).mapOf.noDict h
  · exact getMethod_builtin (SmAt.typeIs (S.sat d _ hd)) PySem.F.plainAttrs_dict slot hty (SmAt.noDict (S.sat d _ hd)) h
theorem ty_get : typeOf (.builtin "dict.get") = pure (.type "method_descriptor") := by show builtinType _ = _; rw [builtinType_eq_fast]; kernel_rfl
theorem ty_update : typeOf (.builtin "dict.update") = pure (.type "method_descriptor") := by show builtinType _ = _; rw [builtinType_eq_fast]; kernel_rfl
theorem ty_items : typeOf (.builtin "dict.items") = pure (.type "method_descriptor") := by show builtinType _ = _; rw [builtinType_eq_fast]; kernel_rfl
theorem ty_values : typeOf (.builtin "dict.values") = pure (.type "method_descriptor") := by show builtinType _ = _; rw [builtinType_eq_fast]; kernel_rfl
theorem ty_clear : typeOf (.builtin "dict.clear") = pure (.type "method_descriptor") := by show builtinType _ = _; rw [builtinType_eq_fast]; kernel_rfl
theorem ty_pop : typeOf (.builtin "dict.pop") = pure (.type "method_descriptor") := by show builtinType _ = _; rw [builtinType_eq_fast]; kernel_rfl

theorem r_getI {Q : Value → Shared → Prop} {kvs : List (Int × Value)} {ep : Nat} {k : Int} {t : Tok} {v : Value} (S : St w g L m F C G O s) (hd : C d = some (.di tg kvs ep)) (h : ∀ s', St w g L m F C G O s' → Q ((valueAt kvs k).getD v) s') :
    wpAny (model PR w) A (call (.builtin "dict.get") [.ref d, .int k t, v]) Q E s :=
  call_meetsIn PySem.F.slot_dict_get (S.dictI hd).typeIs PySem.F.entry_dict_get (PySem.F.args_dict_get_3 _ _ _) (meets_dict_get_default (intKind PR w) d (intKind_is PR w k t) (S.notMods hd) v) ⟨_, (S.dictI hd).mapOf, h _ (S.toks _)⟩
theorem sm_dictGet {h : Heap} {f : Str → Option Value} {nf : Nat} {hot : Bool} {k : Str} {t : Tok} {Q : Option Value → Shared → Prop} (hm : SmAt w s.heap d f nf hot) (h : Q (f k) { s with toks := s.toks + 1 }) :
    wpAny (model PR w) A (dictGet d (.str k t)) Q E s := by
  obtain ⟨o, es, ep, ho, _, hd, hk, hf, _⟩ := hm
  unfold dictGet
  try with_reducible refine wpAny_holding ?_
  refine wpAny_bind ((strKind PR w).pyHash (strKind_is PR w k t) (wpAny_bind (wpAny_dictFind_of (s := { s with toks := s.toks + 1 }) (strKind_is PR w k t) ho hd hk ?_)))
  rw [← hf k, findBy_of_findIdx?] at h
  cases hi : es.findIdx? fun e => (strKind PR w).is k e.key with
  | none => rw [hi] at h; exact wpAny_pure h
  | some i => rw [hi] at h; exact wpAny_bind (wpAny_dictEntries (s := { s with toks := s.toks + 1 }) ho hd (wpAny_pure h))
theorem sm_get {f : Str → Option Value} {nf : Nat} {hot : Bool} {k : Str} {t : Tok} {v : Value} (hd : (d == sysModules) = false) :
    MeetsIn PR w (Builtin.«dict.get» ⟨[.ref d, .str k t, v], []⟩) (fun _ R s => SmAt w s.heap d f nf hot ∧ R (.ok (.ret ((f k).getD v))) { s with toks := s.toks + 1 }) :=
  .of_wp fun A R s ⟨hm, h⟩ => by
    show wpAny _ _ (dictGet d (.str k t) >>= _) _ _ s
    refine wpAny_bind (sm_dictGet (h := s.heap) hm ?_)
    cases hf : f k with
    | some u => rw [hf] at h; exact wpAny_pure ⟨u, rfl, h⟩
    | none =>
      rw [hf] at h
      show wpAny _ _ (Builtin.Dict.missed d (.str k t) >>= _) _ _ _
      exact wpAny_bind (wpAny_missed_other hd (wpAny_pure ⟨v, rfl, h⟩))
theorem r_getM {Q : Value → Shared → Prop} {f : Str → Option Value} {nf : Nat} {hot : Bool} {k : Str} {t : Tok} {v : Value} (S : St w g L m F C G O s) (hd : C d = some (.sm f nf hot)) (h : ∀ s', St w g L m F C G O s' → Q ((f k).getD v) s') :
    wpAny (model PR w) A (call (.builtin "dict.get") [.ref d, .str k t, v]) Q E s :=
  call_meetsIn PySem.F.slot_dict_get (SmAt.typeIs (S.sat d _ hd)) PySem.F.entry_dict_get (PySem.F.args_dict_get_3 _ _ _) (sm_get (S.notMods hd)) ⟨S.sat d _ hd, h _ (S.toks _)⟩

theorem r_updateS {Q : Value → Shared → Prop} {kvs more : List (Str × Value)} {ep ep2 : Nat} {o : Addr} (S : St w g L m F C G O s) (hd : C d = some (.ds tg kvs ep)) (ho : C o = some (.ds tg2 more ep2)) (hne : d ≠ o) (hz : kvs.length + more.length ≤ 1000)
    (h : ∀ ep' s', St w g L m F (upd C d (.ds tg (merged kvs more) ep')) G O s' → Q .none s') : wpAny (model PR w) A (call (.builtin "dict.update") [.ref d, .ref o]) Q E s := by
  refine call_meetsIn PySem.F.slot_dict_update (S.dictS hd).typeIs PySem.F.entry_dict_update (PySem.F.args_dict_update_2 _ _) (meets_dict_update (strKind PR w) d o hne (S.notMods ho)) ⟨kvs, more, S.dictS hd, S.dictS ho, (by rw [sizeLine_eq]; omega), fun h' hm _ hs => ?_⟩
  obtain ⟨ep', S'⟩ := S.putS (s' := { s with heap := h' }) hd hm hs S.gens S.os
  exact h ep' _ S'

theorem r_clearI {Q : Value → Shared → Prop} {kvs : List (Int × Value)} {ep : Nat} (S : St w g L m F C G O s) (hd : C d = some (.di tg kvs ep)) (hz : kvs.length ≤ 1000)
    (h : ∀ ep' s', St w g L m F (upd C d (.di tg [] ep')) G O s' → Q .none s') : wpAny (model PR w) A (call (.builtin "dict.clear") [.ref d]) Q E s := by
  refine call_meetsIn PySem.F.slot_dict_clear (S.dictI hd).typeIs PySem.F.entry_dict_clear (PySem.F.args_dict_clear_1 _) (meets_dict_clear (intKind PR w) d) ⟨kvs, S.dictI hd, (by rw [sizeLine_eq]; omega), fun h' hm hs => ?_⟩
  obtain ⟨ep', S'⟩ := S.putI (s' := { s with heap := h' }) hd hm hs S.gens S.os
  exact h ep' _ S'
theorem r_clearS {Q : Value → Shared → Prop} {kvs : List (Str × Value)} {ep : Nat} (S : St w g L m F C G O s) (hd : C d = some (.ds tg kvs ep)) (hz : kvs.length ≤ 1000)
    (h : ∀ ep' s', St w g L m F (upd C d (.ds tg [] ep')) G O s' → Q .none s') : wpAny (model PR w) A (call (.builtin "dict.clear") [.ref d]) Q E s := by
  refine call_meetsIn PySem.F.slot_dict_clear (S.dictS hd).typeIs PySem.F.entry_dict_clear (PySem.F.args_dict_clear_1 _) (meets_dict_clear (strKind PR w) d) ⟨kvs, S.dictS hd, (by rw [sizeLine_eq]; omega), fun h' hm hs => ?_⟩
  obtain ⟨ep', S'⟩ := S.putS (s' := { s with heap := h' }) hd hm hs S.gens S.os
  exact h ep' _ S'

abbrev itemsView (d : Addr) : Obj := { cls := .type "dict_items", data := .fields #[.ref d] }
abbrev valuesView (d : Addr) : Obj := { cls := .type "dict_values", data := .fields #[.ref d] }
theorem St.pushObj (S : St w g L m F C G O s) (o : Obj) (t : Nat) (hf : o.isFreed = false := by rfl) : St w g L m F (upd C s.heap.objs.size (.obj o)) G O { s with heap := s.heap.push o, toks := t } := S.push (Heap.get?_push_size _ hf)
theorem r_itemsI {Q : Value → Shared → Prop} {kvs : List (Int × Value)} {ep : Nat} (S : St w g L m F C G O s) (hd : C d = some (.di tg kvs ep)) (h : ∀ v s', C v = none → St w g L m F (upd C v (.obj (itemsView d))) G O s' → Q (.ref v) s') :
    wpAny (model PR w) A (call (.builtin "dict.items") [.ref d]) Q E s :=
  call_meetsIn PySem.F.slot_dict_items (S.dictI hd).typeIs PySem.F.entry_dict_items (PySem.F.args_dict_items_1 _) (meets_dict_items (intKind PR w) d (S.notMods hd)) ⟨⟨kvs, S.dictI hd⟩, h _ _ S.free (S.pushObj (itemsView d) s.toks)⟩
theorem r_itemsS {Q : Value → Shared → Prop} {kvs : List (Str × Value)} {ep : Nat} (S : St w g L m F C G O s) (hd : C d = some (.ds tg kvs ep)) (h : ∀ v s', C v = none → St w g L m F (upd C v (.obj (itemsView d))) G O s' → Q (.ref v) s') :
    wpAny (model PR w) A (call (.builtin "dict.items") [.ref d]) Q E s :=
  call_meetsIn PySem.F.slot_dict_items (S.dictS hd).typeIs PySem.F.entry_dict_items (PySem.F.args_dict_items_1 _) (meets_dict_items (strKind PR w) d (S.notMods hd)) ⟨⟨kvs, S.dictS hd⟩, h _ _ S.free (S.pushObj (itemsView d) s.toks)⟩
theorem r_valuesI {Q : Value → Shared → Prop} {kvs : List (Int × Value)} {ep : Nat} (S : St w g L m F C G O s) (hd : C d = some (.di tg kvs ep)) (h : ∀ v s', C v = none → St w g L m F (upd C v (.obj (valuesView d))) G O s' → Q (.ref v) s') :
    wpAny (model PR w) A (call (.builtin "dict.values") [.ref d]) Q E s :=
  call_meetsIn PySem.F.slot_dict_values (S.dictI hd).typeIs PySem.F.entry_dict_values (PySem.F.args_dict_values_1 _) (meets_dict_values (intKind PR w) d (S.notMods hd)) ⟨⟨kvs, S.dictI hd⟩, h _ _ S.free (S.pushObj (valuesView d) s.toks)⟩
theorem r_lenI {Q : Value → Shared → Prop} {kvs : List (Int × Value)} {ep : Nat} (S : St w g L m F C G O s) (hd : C d = some (.di tg kvs ep)) (hz : kvs.length ≤ 1000) (h : ∀ t s', St w g L m F C G O s' → Q (.int kvs.length t) s') :
    wpAny (model PR w) A (call (.builtin "len") [.ref d]) Q E s :=
  call_len_dict (S.notMods hd) (S.dictI hd) (by omega) (h _ _ (S.toks _))
end
end Mine
end
section -- A4
open PySem PySem.W PySem.Calls PyProof.Rows
namespace Mine

/-- the frames that run are frames of functions, told by the state -/
def Frs (frs : List Env) (L : Addr) (F : List (Addr × List (Str × Value))) : Prop := ∀ env ∈ frs, env.scope.kind ≠ .module ∧ ∃ L', env.frame = some L' ∧ (L' = L ∨ ∃ m, (L', m) ∈ F)
theorem Frs.push {frs : List Env} {L L' : Addr} {m : List (Str × Value)} {F : List (Addr × List (Str × Value))} {env : Env} (B : Frs frs L F) (hk : env.scope.kind ≠ .module) (hf : env.frame = some L') : Frs (env :: frs) L' ((L, m) :: F) := fun e he => by
  rcases List.mem_cons.mp he with rfl | he
  · exact ⟨hk, L', hf, .inl rfl⟩
  · obtain ⟨h1, L'', h2, h3⟩ := B e he
    refine ⟨h1, L'', h2, .inr ?_⟩
    rcases h3 with rfl | ⟨m', hm⟩
    · exact ⟨m, .head _⟩
    · exact ⟨m', .tail _ hm⟩
/-- a block of its own names, no frame -/
theorem Frs.block {frs : List Env} {L L' : Addr} {m : List (Str × Value)} {F : List (Addr × List (Str × Value))} (B : Frs frs L F) : Frs frs L' ((L, m) :: F) := fun e he => by
  obtain ⟨h1, L'', h2, h3⟩ := B e he
  refine ⟨h1, L'', h2, .inr ?_⟩
  rcases h3 with rfl | ⟨m', hm⟩
  · exact ⟨m, .head _⟩
  · exact ⟨m', .tail _ hm⟩

section
variable {K : Frag} {p : Program} {loose : List Str} {mg mb : Str → Option Value}
  {w : World} {g : Heap} {L : Addr} {m : List (Str × Value)} {F : List (Addr × List (Str × Value))} {C : Led} {G : Array GenState} {O : OsState} {s : Shared} {A : Around}

theorem nsLe_of {h : Heap} {L : Addr} {binds : List (Str × Value)} (hn : h.Ns L (fun y => binds.lookup y)) : NsLe h L binds := ⟨_, hn, fun _ _ e => e⟩

/-- into a def of the text: no cells of its own, the arguments bound without a new object -/
theorem r_enter {R : Result → Shared → Prop} {name qual : Str} {params : Arguments} {body : List Stmt} {scope : Scope} {dV kV doc pm cdv ct oc : Value} {an od : Option Addr} {osl : Array (Option Value)} {f : Addr} {args : Args} {binds : List (Str × Value)}
    (S : St w g L m F C G O s) (D : Wd K p loose mg mb g)
    (ho : K.lookup f = some ⟨oc, od, .func (fnOf name qual params body scope dV kV doc pm an cdv ct), osl⟩) (hcd : codeIn K cdv qual = true) (hroom : A.depth < recursionLimit)
    (hbind : BindsTo s (fnOf name qual params body scope dV kV doc pm an cdv ct) args binds) (hloc : ∀ y ∈ binds, scope.names.lookup y.1 = some .local)
    (h : ∀ L' s', St w g L' binds.reverse ((L, m) :: F) C G O s' →
      wpAny (model PR w) (A.deeper (envX qual scope L' f cdv [])) (execs body (envX qual scope L' f cdv []))
        (fun fl s'' => R (.ok (.ret (match fl with | .ret v => v | _ => .none))) s'')
        (fun e s'' => wpAny (model PR w) (A.deeper (envX qual scope L' f cdv [])) (leaving (envX qual scope L' f cdv []) e) (fun _ s3 => R (.error e) s3) (fun e' s3 => R (.error e') s3) s'') s')
    (hco : scope.isCoroutine = false := by rfl) (hgen : scope.isGenerator = false := by rfl) (hk : scope.kind = .function := by rfl)
    (hcell : ∀ x ∈ scope.names, x.2 ≠ .cell := by decide) : codeAny (model PR w) A (.call (.ref f) args) R s := by
  have X := D.X.keeps S.keep
  refine codeAny_call_def (fd := fnOf name qual params body scope dV kV doc pm an cdv ct) (body := body) (binds := binds) hroom (X _ _ ho) rfl (D.T.nolimit.keeps S.keep) (codeRec_of X hcd) rfl hbind hcell hloc (fun h₁ hns hk₁ => ?_) hco hgen hk
  exact h s.heap.objs.size { s with heap := h₁, toks := s.toks + binds.length } (S.into (Nat.le_refl _) hk₁ (nsLe_of hns) S.gens S.os)
end
end Mine
end
section -- F1
open PySem PySem.W PySem.Calls PyProof.Rows
open Sem (wp)
namespace Mine

/-! a walk that also knows: no finaliser of a garbage collection runs below it (`object.__dict__` asks for it). `nf = false`: as wpAny, nothing raised. -/
def isFin : Code → Bool
  | .builtin id _ => id == "lifetime.gc.finalise"
  | _ => false
def NoFin (l : List (Code × Pos)) : Prop := ∀ x ∈ l, isFin x.1 = false
def wpB {α : Type} (nf : Bool) (M : Model) (A : Around) (t : Sem α) (Q : α → Shared → Prop) (s : Shared) : Prop :=
  ∀ Γ p, Γ.In A → (nf = true → isFin Γ.code = false ∧ NoFin Γ.below) → wp M Γ t (fun a _ s' => Q a s') (fun _ _ _ => False) p s
def okR (R : Flow → Shared → Prop) : Result → Shared → Prop := fun r s => match r with | .ok f => R f s | .error _ => False
def codeB (nf : Bool) (M : Model) (A : Around) (c : Code) (R : Flow → Shared → Prop) (s : Shared) : Prop :=
  ∀ Γ p, Γ.code = c → Γ.Below A → (nf = true → NoFin Γ.below) → wpCode M Γ (okR R) p s

section
variable {α β : Type} {nf : Bool} {M : Model} {A : Around} {s : Shared} {Q : α → Shared → Prop}
theorem wpB_any {t : Sem α} (h : wpAny M A t Q (fun _ _ => False) s) : wpB nf M A t Q s := fun Γ p hΓ _ => h Γ p hΓ
theorem wpB_to {t : Sem α} {E : Value → Shared → Prop} (h : wpB false M A t Q s) : wpAny M A t Q E s := fun Γ p hΓ =>
  Sem.wp_mono M Γ t (fun _ _ _ h => h) (fun _ _ _ h => h.elim) p s (h Γ p hΓ nofun)
theorem codeB_any {c : Code} {R : Flow → Shared → Prop} (h : codeAny M A c (okR R) s) : codeB nf M A c R s := fun Γ p hc hΓ _ => h Γ p hc hΓ
theorem codeB_to {c : Code} {R : Flow → Shared → Prop} {R' : Result → Shared → Prop} (h : codeB false M A c R s) (hR : ∀ f s, R f s → R' (.ok f) s) : codeAny M A c R' s := fun Γ p hc hΓ =>
  wpCode_mono (fun r s h => by cases r with | ok f => exact hR f s h | error e => exact h.elim) (h Γ p hc hΓ nofun)
theorem wpB_mono {t : Sem α} {Q' : α → Shared → Prop} (h : wpB nf M A t Q s) (hQ : ∀ a s, Q a s → Q' a s) : wpB nf M A t Q' s := fun Γ p hΓ n =>
  Sem.wp_mono M Γ t (fun a _ s => hQ a s) (fun _ _ _ h => h) p s (h Γ p hΓ n)
theorem wpB_pure {a : α} (h : Q a s) : wpB nf M A (pure a) Q s := fun _ _ _ _ => h
theorem wpB_bind {m : Sem α} {f : α → Sem β} {Q : β → Shared → Prop} (h : wpB nf M A m (fun a s' => wpB nf M A (f a) Q s') s) : wpB nf M A (m >>= f) Q s := fun Γ p hΓ n => by
  rw [Sem.wp_bind']
  exact Sem.wp_mono M Γ m (fun a p' s' h' => h' Γ p' hΓ n) (fun _ _ _ h' => h') p s (h Γ p hΓ n)
/-- the first step walked at every context -/
theorem wpB_bindA {m : Sem α} {f : α → Sem β} {Q : β → Shared → Prop} (h : wpAny M A m (fun a s' => wpB nf M A (f a) Q s') (fun _ _ => False) s) : wpB nf M A (m >>= f) Q s := wpB_bind (wpB_any h)
theorem wpB_onRaise {m : Sem α} {k : Value → Sem Unit} (h : wpB nf M A m Q s) : wpB nf M A (m.onRaise k) Q s := fun Γ p hΓ n => by
  rw [Sem.wp_onRaise]
  exact Sem.wp_mono M Γ m (fun _ _ _ h' => h') (fun _ _ _ h' => h'.elim) p s (h Γ p hΓ n)
theorem wpB_attempt {m : Sem α} {Q : Except Value α → Shared → Prop} (h : wpB nf M A m (fun a => Q (.ok a)) s) : wpB nf M A m.attempt Q s := fun Γ p hΓ n => by
  rw [Sem.wp_attempt]
  exact Sem.wp_mono M Γ m (fun _ _ _ h' => h') (fun _ _ _ h' => h'.elim) p s (h Γ p hΓ n)
theorem wpB_tryCatch {m : Sem α} {k : Value → Sem α} (h : wpB nf M A m Q s) : wpB nf M A (tryCatch m k) Q s := fun Γ p hΓ n => by
  rw [Sem.wp_tryCatch']
  exact Sem.wp_mono M Γ m (fun _ _ _ h' => h') (fun _ _ _ h' => h'.elim) p s (h Γ p hΓ n)
theorem wpB_holding {vs : List Value} {m : Sem α} (h : wpB nf M A m Q s) : wpB nf M A (holding vs m) Q s := fun Γ p hΓ n => by rw [Sem.wp_holding]; exact h Γ p hΓ n
theorem wpB_operate {vs : List Value} {m : Sem Value} {Q : Value → Shared → Prop} (h : wpB nf M A m Q s) : wpB nf M A (operate vs m) Q s := fun Γ p hΓ n => by rw [Sem.wp_operate]; exact h Γ p hΓ n
theorem wpB_standAt {pos : Pos} {Q : Unit → Shared → Prop} (h : Q () s) : wpB nf M A (standAt pos) Q s := fun _ _ _ _ => h
theorem wpB_eq {t t' : Sem α} (e : t = t') (h : wpB nf M A t' Q s) : wpB nf M A t Q s := e ▸ h

theorem noFin_enter {Γ : Ctx} {p : Pos} (n : nf = true → isFin Γ.code = false ∧ NoFin Γ.below) : nf = true → NoFin ((Γ.code, p) :: Γ.below) := fun e x hx => by
  rcases List.mem_cons.mp hx with rfl | hx
  · exact (n e).1
  · exact (n e).2 x hx
theorem wpB_run {c : Code} {R : Flow → Shared → Prop} (hc : codeB nf M A c R s) : wpB nf M A (run c none) R s := fun Γ p hΓ n => by
  rw [Sem.wp_run]
  refine wpCode_mono (fun r s' h => ?_) (hc _ p rfl (hΓ.enter c none p nofun) (noFin_enter n))
  cases r with | ok f => exact h | error e => exact h
theorem wpB_runOwn {c : Code} {env : Env} {R : Flow → Shared → Prop} (hc : codeB nf M A c R s) : wpB nf M A (runOwn c env none) R s := by
  unfold runOwn; exact wpB_onRaise (wpB_run hc)
theorem wpB_runValue {c : Code} {Q : Value → Shared → Prop} (hc : codeB nf M A c (fun f s' => match f with | .ret v => Q v s' | _ => False) s) : wpB nf M A (runValue c) Q s := fun Γ p hΓ n => by
  rw [Sem.wp_runValue]
  refine wpCode_mono (fun r s' h => ?_) (hc _ p rfl (hΓ.enter c none p nofun) (noFin_enter n))
  cases r with | ok f => (cases f <;> exact h) | error e => exact h
theorem wpB_call {f : Value} {pos : List Value} {kw : List (Str × Value)} {Q : Value → Shared → Prop} (hc : codeB nf M A (.call f ⟨pos, kw⟩) (fun f s' => match f with | .ret v => Q v s' | _ => False) s) : wpB nf M A (call f pos kw) Q s := wpB_runValue hc
theorem codeB_of_tree {c : Code} {R : Flow → Shared → Prop} (hf : isFin c = false)
    (h : wpB nf M (A.under c) (M.den c) (fun fin s' => match fin with | .done f => R f s' | .again c' => c'.quiet = true ∧ codeB nf M A c' R s') s) : codeB nf M A c R s := fun Γ p hc hΓ n => by
  rw [wpCode_iff_wp, hc]
  refine Sem.wp_mono M Γ _ (fun fin p' s' h' => ?_) (fun _ _ _ h' => h'.elim) p s (h Γ p (hc ▸ hΓ.in) fun e => ⟨hc ▸ hf, n e⟩)
  cases fin with
  | done f => exact h'
  | again c' => exact ⟨h'.1, h'.2 (Γ.goto c') p' rfl (hΓ.goto c') n⟩
theorem codeB_loop {c : Code} {R : Flow → Shared → Prop} (hf : isFin c = false) (hq : c.quiet = true) (I : Nat → Shared → Prop)
    (turn : ∀ n s, I n s → wpB nf M (A.under c) (M.den c)
      (fun fin s' => match fin with
        | .done f => R f s'
        | .again c' => (c' = c ∧ ∃ m, m < n ∧ I m s') ∨ (c'.quiet = true ∧ codeB nf M A c' R s')) s)
    (n : Nat) (h : I n s) : codeB nf M A c R s := by
  induction n using Nat.strongRecOn generalizing s with
  | ind n ih =>
    refine codeB_of_tree hf (wpB_mono (turn n s h) (fun fin s' hf => ?_))
    cases fin with
    | done f => exact hf
    | again c' =>
      rcases hf with ⟨rfl, m, hm, hI⟩ | hf
      · exact ⟨hq, ih m hm hI⟩
      · exact hf
theorem codeB_mono {c : Code} {R R' : Flow → Shared → Prop} (h : codeB nf M A c R s) (hR : ∀ f s, R f s → R' f s) : codeB nf M A c R' s := fun Γ p hc hΓ n =>
  wpCode_mono (fun r s h => by cases r with | ok f => exact hR f s h | error e => exact h) (h Γ p hc hΓ n)
end

section
variable {nf : Bool} {M : Model} {A : Around} {s : Shared} {env : Env}
/-! statements -/
theorem wpB_execs_cons {st : Stmt} {rest : List Stmt} {Q : Flow → Shared → Prop} (h : wpB nf M A (exec st env) (fun f s' => match f with | .next => wpB nf M A (execs rest env) Q s' | f => Q f s') s) :
    wpB nf M A (execs (st :: rest) env) Q s := by
  rw [execs_cons]
  refine wpB_bind (wpB_mono h fun f s' h' => ?_)
  cases f <;> first | exact h' | exact wpB_pure h'
theorem wpB_execs_nil {Q : Flow → Shared → Prop} (h : Q .next s) : wpB nf M A (execs [] env) Q s := wpB_pure h
theorem wpB_If {test : Expr} {body orelse : List Stmt} {pos : Pos} {Q : Flow → Shared → Prop}
    (h : wpB nf M A (isTrue test env (eval test env)) (fun b s₂ => if b then wpB nf M A (execs body env) Q s₂ else wpB nf M A (execs orelse env) Q s₂) s) : wpB nf M A (exec (.If test body orelse pos) env) Q s := by
  rw [exec_If]
  refine wpB_bind (wpB_standAt (wpB_bind (wpB_mono h fun b s₂ h₂ => ?_)))
  cases b <;> exact h₂
theorem wpB_Assign_Name {x : Str} {pos' pos : Pos} {value : Expr} {Q : Flow → Shared → Prop}
    (h : wpB nf M A (eval value env) (fun v s₁ => wpAny M A (storeName env x v) (fun _ => Q .next) (fun _ _ => False) s₁) s)
    (hs : swapsWith value (some (.Name x pos')) pos.line env = pure false := by rfl) : wpB nf M A (exec (.Assign [.Name x pos'] value pos) env) Q s := by
  rw [exec_Assign_Name env x pos' value pos hs]
  exact wpB_bind (wpB_standAt (wpB_bind (wpB_mono h fun v s₁ h₁ => wpB_bind (wpB_standAt (wpB_bindA (wpAny_bindName (wpAny_mono h₁ (fun _ _ q => wpB_pure q) fun _ _ x => x)))))))
theorem wpB_Return {e : Expr} {pos : Pos} {Q : Flow → Shared → Prop} (h : wpB nf M A (eval e env) (fun v => Q (.ret v)) s) : wpB nf M A (exec (.Return (some e) pos) env) Q s := by
  rw [exec_Return_some]
  exact wpB_bind (wpB_standAt (wpB_bind (wpB_mono h fun v s₁ h₁ => wpB_pure h₁)))
theorem wpB_Try {body orelse : List Stmt} {h₀ : ExceptHandler} {hs : List ExceptHandler} {pos : Pos} {Q : Flow → Shared → Prop}
    (h : wpB nf M A (execs body env) (fun f s₁ => match f with | .next => wpB nf M A (execs orelse env) Q s₁ | f => Q f s₁) s) : wpB nf M A (exec (.Try body (h₀ :: hs) orelse [] pos) env) Q s := by
  rw [arm_exec_Try]
  refine wpB_bind (wpB_standAt ?_)
  unfold tryStmt
  simp only [List.isEmpty_nil, if_true, List.isEmpty_cons, Bool.false_and, Bool.false_eq_true, if_false]
  refine wpB_bind (wpB_attempt (wpB_mono h (fun f s₁ h₁ => ?_)))
  cases f <;> first | exact h₁ | exact wpB_pure h₁
theorem wpB_Compare1 {l r : Expr} {op : CmpOp} {pos : Pos} {Q : Value → Shared → Prop}
    (h : wpB nf M A (eval l env) (fun a s₁ => wpAny M A (eval r env) (fun b s₂ => wpAny M A (compareOp op a b) Q (fun _ _ => False) s₂) (fun _ _ => False) s₁) s)
    (hm : behindInMarks op r = false := by with_unfolding_all rfl) : wpB nf M A (eval (.Compare l [op] [r] pos) env) Q s := by
  rw [eval_Compare1, markedBehindIn_of_false hm]
  exact wpB_bind (wpB_mono h fun a s₁ h₁ => wpB_bindA (wpAny_holding (wpAny_mono h₁ (fun b s₂ h₂ => wpB_bind (wpB_standAt (wpB_operate (wpB_any h₂)))) fun _ _ x => x)))
theorem wpB_isTrue_Compare1 {l r : Expr} {op : CmpOp} {pos : Pos} {whole : Sem Value} {Q : Bool → Shared → Prop}
    (h : wpB nf M A (eval l env) (fun a s₁ => wpAny M A (eval r env) (fun b s₂ => wpAny M A (compareOp op a b) (fun c s₃ => wpAny M A (truthy c) Q (fun _ _ => False) s₃) (fun _ _ => False) s₂) (fun _ _ => False) s₁) s)
    (hm : behindInMarks op r = false := by with_unfolding_all rfl) : wpB nf M A (isTrue (.Compare l [op] [r] pos) env whole) Q s := by
  rw [isTrue_Compare1, markedBehindIn_of_false hm]
  exact wpB_bind (wpB_mono h fun a s₁ h₁ => wpB_bindA (wpAny_holding (wpAny_mono h₁ (fun b s₂ h₂ => wpB_bind (wpB_standAt (wpB_bind (wpB_operate (wpB_mono (wpB_any h₂) fun c s₃ h₃ => wpB_holding (wpB_any h₃)))))) fun _ _ x => x)))
end

section
variable {nf : Bool} {prog : Program} {w : World} {A : Around} {s : Shared} {env : Env}
theorem codeB_block {stmts : List Stmt} {R : Flow → Shared → Prop} (h : wpB nf (model prog w) A (execs stmts env) R s) : codeB nf (model prog w) A (.block stmts env) R s := by
  refine codeB_of_tree rfl ?_
  show wpB nf _ _ (do return Fin.done (← (execs stmts env).onRaise (fun x => do noteFrame x env; theTreesLotGoes x))) _ s
  exact wpB_bind (wpB_onRaise (wpB_mono h fun f s' h' => wpB_pure h'))
theorem codeB_func {body : List Stmt} {R : Flow → Shared → Prop} (h : wpB nf (model prog w) (A.deeper env) (execs body env) (fun f s' => R (.ret (match f with | .ret v => v | _ => .none)) s') s) :
    codeB nf (model prog w) A (.func body env) R s := by
  refine codeB_of_tree rfl ?_
  show wpB nf _ (A.deeper env) (do point; match ← (execs body env).onRaise (leaving env) with | .ret v => ret v | _ => ret .none) _ s
  refine wpB_bindA (wpAny_point (wpB_bind (wpB_onRaise (wpB_mono h fun f s' h' => ?_))))
  cases f <;> exact wpB_pure h'
theorem codeB_forLoop {R : Flow → Shared → Prop} {target : Expr} {it : Value} {body orelse : List Stmt} (I : Nat → Shared → Prop)
    (turn : ∀ n s, I n s → wpAny (model prog w) A (pyNext it) (fun r s₁ => match r with
      | none => wpB nf (model prog w) A (execs orelse env) (fun f s₃ => R f s₃) s₁
      | some v => wpAny (model prog w) A (assign target env v) (fun _ s₂ => wpB nf (model prog w) A (execs body env) (fun f s₃ => match f with
          | .next | .cont => ∃ m, m < n ∧ I m s₃
          | .brk => R .next s₃
          | .ret v => R (.ret v) s₃) s₂) (fun _ _ => False) s₁) (fun _ _ => False) s)
    (n : Nat) (h : I n s) (ht : ∀ v, letOwnedTupleGo target it v = pure () := by intro _; rfl) : codeB nf (model prog w) A (.forLoop target it body orelse env) R s := by
  refine codeB_loop rfl rfl I (fun n s hI => ?_) n h
  show wpB nf _ _ ((forTurn target it body orelse env).onRaise (fun x => do noteFrame x env; theTreesLotGoes x)) _ s
  refine wpB_onRaise ?_
  simp only [forTurn]
  refine wpB_bind (wpB_standAt (wpB_bind (wpB_onRaise (wpB_mono (wpB_any (turn n s hI)) fun r s₁ h₁ => ?_))))
  cases r with
  | none => exact wpB_pure (.inr ⟨rfl, codeB_block h₁⟩)
  | some v =>
    refine wpB_bind (wpB_any (wpAny_of_eq (ht v) ?_))
    refine wpB_bindA (wpAny_mono h₁ (fun _ s₂ h₂ => wpB_bind (wpB_mono h₂ fun f s₃ h₃ => ?_)) fun _ _ h' => h')
    cases f with
    | next => exact wpB_pure (.inl ⟨rfl, h₃⟩)
    | cont => exact wpB_pure (.inl ⟨rfl, h₃⟩)
    | brk => exact wpB_pure h₃
    | ret v => exact wpB_pure h₃
theorem wpB_For {target iter : Expr} {body orelse : List Stmt} {pos : Pos} {Q : Flow → Shared → Prop}
    (h : wpAny (model prog w) A (eval iter env) (fun x s₁ => wpAny (model prog w) A (pyIter x) (fun it s₂ => codeB nf (model prog w) A (.forLoop target it body orelse env) Q s₂) (fun _ _ => False) s₁) (fun _ _ => False) s)
    (hs : ∀ x, foldedSetIterable iter env x = pure x := by intro _; rfl) : wpB nf (model prog w) A (exec (.For target iter body orelse pos) env) Q s := by
  rw [exec_For]
  exact wpB_bind (wpB_standAt (wpB_bindA (wpAny_mono h (fun x s₁ h₁ => wpB_bindA (wpAny_of_eq (hs x) (wpB_bind (wpB_standAt (wpB_bindA (wpAny_holding
    (wpAny_mono h₁ (fun it s₂ h₂ => wpB_runOwn h₂) fun _ _ h' => h'))))))) fun _ _ h' => h')))
theorem codeB_call_function {R : Flow → Shared → Prop} {a : Addr} {args : Args} {o : Obj} {fd : FuncData} {body : List Stmt} (hroom : A.depth < recursionLimit)
    (ho : s.heap.get? a = some o)
    (hd' : o.data = .func fd) (hco : fd.scope.isCoroutine = false) (hgen : fd.scope.isGenerator = false) (hbody : fd.body = .stmts body) (hcd : s.heap.CodeRec fd.code fd.qualname)
    (h : wpAny (model prog w) A.in1 (bindArgs fd args) (fun binds s₁ =>
      wpAny (model prog w) A.in1 (newFunctionEnv fd.scope fd.globals fd.closure binds (fd.qualname ++ ".<locals>.") (some a) fd.code none fd.builtins)
        (fun env s₂ => s₂.heap.NoLimit ∧ codeB nf (model prog w) A (.func body env) R s₂) (fun _ _ => False) s₁) (fun _ _ => False) s) :
    codeB nf (model prog w) A (.call (.ref a) args) R s := by
  refine codeB_of_tree rfl ?_
  show wpB nf _ A.in1 (callAny (.ref a) args) _ s
  simp only [callAny]
  refine wpB_bindA (wpAny_load ho ?_)
  obtain ⟨c, oc, vs, tq, hc, hoc, hdc, hq⟩ := hcd
  simp only [hd', callFunction, hco, hgen, hbody, hc]
  rw [hc] at h
  refine wpB_bindA (m := field (.ref c) 1) (wpAny_field hoc hdc hq (wpB_bindA (wpAny_pure ?_)))
  exact wpB_bindA (wpAny_mono h (fun binds s₁ h₁ => wpB_bindA (wpAny_mono h₁ (fun env s₂ h₂ => wpB_bindA (wpAny_enterFrame h₂.1 hroom
    (wpB_pure (And.intro rfl h₂.2)))) fun _ _ h' => h')) fun _ _ h' => h')
theorem codeB_call_def {R : Flow → Shared → Prop} {a : Addr} {o : Obj} {fd : FuncData} {body : List Stmt} {args : Args} {binds : List (Str × Value)}
    (hroom : A.depth < recursionLimit) (ho : s.heap.get? a = some o) (hdata : o.data = .func fd) (hlim : s.heap.NoLimit) (hcd : s.heap.CodeRec fd.code fd.qualname)
    (hbody : fd.body = .stmts body) (hbind : BindsTo s fd args binds)
    (hcell : ∀ x ∈ fd.scope.names, x.2 ≠ .cell) (hloc : ∀ x ∈ binds, fd.scope.names.lookup x.1 = some .local)
    (h : ∀ h₀, h₀.Ns s.heap.objs.size (fun x => binds.reverse.lookup x) → (∀ b o, s.heap.get? b = some o → h₀.get? b = some o) →
      wpB nf (model prog w) (A.deeper (callEnv fd s.heap.objs.size a)) (execs body (callEnv fd s.heap.objs.size a)) (fun f s' => R (.ret (match f with | .ret v => v | _ => .none)) s')
        { s with heap := h₀, toks := s.toks + binds.length })
    (hco : fd.scope.isCoroutine = false := by rfl) (hgen : fd.scope.isGenerator = false := by rfl) (hk : fd.scope.kind = .function := by rfl) :
    codeB nf (model prog w) A (.call (.ref a) args) R s := by
  refine codeB_call_function hroom ho hdata hco hgen hbody hcd (hbind _ _ _ _ ?_)
  refine wpAny_newFunctionEnv hcell hloc (fun h₀ hns₀ hsb₀ => ⟨hlim.fresh _ hsb₀, codeB_func (h h₀ hns₀ fun b o e => ?_)⟩) hk
  exact hsb₀.extBut b o (Nat.ne_of_lt (Heap.lt_size e)) (Heap.get?_push_of_some _ e)
end

section
variable {nf : Bool} {K : Frag} {p : Program} {loose : List Str} {mg mb : Str → Option Value}
  {w : World} {g : Heap} {L : Addr} {m : List (Str × Value)} {F : List (Addr × List (Str × Value))} {C : Led} {G : Array GenState} {O : OsState} {s : Shared} {A : Around}
/-- into a def of the text, as r_enter -/
theorem b_enter {Q : Value → Shared → Prop} {name qual : Str} {params : Arguments} {body : List Stmt} {scope : Scope} {dV kV doc pm cdv ct oc : Value} {an od : Option Addr} {osl : Array (Option Value)} {f : Addr} {pos : List Value} {kw : List (Str × Value)} {binds : List (Str × Value)}
    (S : St w g L m F C G O s) (D : Wd K p loose mg mb g)
    (ho : K.lookup f = some ⟨oc, od, .func (fnOf name qual params body scope dV kV doc pm an cdv ct), osl⟩) (hcd : codeIn K cdv qual = true) (hroom : A.depth < recursionLimit)
    (hbind : BindsTo s (fnOf name qual params body scope dV kV doc pm an cdv ct) ⟨pos, kw⟩ binds) (hloc : ∀ y ∈ binds, scope.names.lookup y.1 = some .local)
    (h : ∀ L' s', St w g L' binds.reverse ((L, m) :: F) C G O s' →
      wpB nf (model PR w) (A.deeper (envX qual scope L' f cdv [])) (execs body (envX qual scope L' f cdv []))
        (fun fl s'' => Q (match fl with | .ret v => v | _ => .none) s'') s')
    (hco : scope.isCoroutine = false := by rfl) (hgen : scope.isGenerator = false := by rfl) (hk : scope.kind = .function := by rfl)
    (hcell : ∀ x ∈ scope.names, x.2 ≠ .cell := by decide) : wpB nf (model PR w) A (call (.ref f) pos kw) Q s := by
  have X := D.X.keeps S.keep
  refine wpB_call (codeB_call_def (fd := fnOf name qual params body scope dV kV doc pm an cdv ct) (body := body) (binds := binds) hroom (X _ _ ho) rfl (D.T.nolimit.keeps S.keep) (codeRec_of X hcd) rfl hbind hcell hloc (fun h₁ hns hk₁ => ?_) hco hgen hk)
  exact h s.heap.objs.size { s with heap := h₁, toks := s.toks + binds.length } (S.into (Nat.le_refl _) hk₁ (nsLe_of hns) S.gens S.os)
end
end Mine
end
section -- G1
open PySem PySem.W PySem.Calls PyProof.Rows
open Sem (wp)
namespace Mine
/-- the end told by what holds at the claim's own context -/
abbrev Fine (c : ClaimW) (s₀ s : Shared) (args : List WData) : Value → Shared → Prop := fun v s' => GoodWG c (classAt s₀.heap) (ExcName.means s₀.heap) args s (.ok (.ret v)) s'

theorem ends_of_b {prog : Program} {w : World} {t : Sem Fin} {s : Shared} {R : Flow → Shared → Prop} (hreg : s.asleep)
    (h : wpB true (model prog w) callerA t (fun fin s' => ∃ f, fin = .done f ∧ R f s' ∧ AllBare s'.gens) s) :
    ∃ n f s' s'', runN (denote table) prog w n s ⟨t, .builtin "claim.caller" {}, default, []⟩ = .halted (outcomeOf (.ok f)) s' ∧
      schedN (denote table) prog w n (.single s ⟨t, .builtin "claim.caller" {}, default, []⟩) = .halted (outcomeOf (.ok f)) s' ∧ s'.forget = s''.forget ∧ R f s'' := by
  have h0 := h ⟨.builtin "claim.caller" {}, none, none, [], none⟩ default caller_in fun _ => ⟨by decide +kernel, fun x hx => nomatch hx⟩
  have h1 : wp (model prog w) ⟨.builtin "claim.caller" {}, none, none, [], none⟩ t
      (Sem.finPost (model prog w) ⟨.builtin "claim.caller" {}, none, none, [], none⟩ fun r s' => okR R r s' ∧ leftWithCleanup s'.gens = false) (fun e _ s' => okR R (.error e) s' ∧ leftWithCleanup s'.gens = false) default s :=
    Sem.wp_mono (model prog w) ⟨.builtin "claim.caller" {}, none, none, [], none⟩ t (fun fin p s' q => by
      obtain ⟨f, rfl, hf, hb⟩ := q
      exact ⟨hf, leftWithCleanup_false_of_bare hb⟩) (fun _ _ _ q => q.elim) default s h0
  obtain ⟨n, r, s₁, s₂, hs, hn, hfo, hR⟩ := wp_halts_full (M := model prog w) (R := okR R) hreg h1
  cases r with
  | ok f => exact ⟨n, f, s₂, s₁, hn, hs, hfo, hR⟩
  | error e => exact hR.elim

theorem callFrom_b {c : ClaimW} {tree : List Value → Sem Fin} {w : World} {s : Shared} {free : Addr → Prop} {gens : Prop} {kept : Heap → Prop} (hz : s.asleep) (hgens : s.gens = #[])
    (hspec : ∀ args, c.pre args = true → WData.layableAll args = true → ∀ ord : List DictEntry → List DictEntry, (∀ l, (ord l).Perm l) →
      ∃ vs s₁, layAllW c.records (classAt s.heap) w.params ord args s = some (vs, s₁) ∧
        wpB true (model c.prog w) callerA (tree vs) (fun fin s' => ∃ f, fin = .done f ∧ (c.Ends s args vs s₁ (.ok f) s' ∧ s'.os = s.os ∧ kept s'.heap) ∧ AllBare s'.gens) s₁) :
    c.CallFrom (fun vs => ⟨tree vs, .builtin "claim.caller" {}, default, []⟩) w free gens kept s := fun args hpre hlay ord hord => by
  obtain ⟨vs, s₁, hlaid, hcode⟩ := hspec args hpre hlay ord hord
  have rest := layAllW_rest _ _ _ hlaid
  obtain ⟨k, f, s', s'', hrun, hsched, hfo, hcase, hos, hkp⟩ := ends_of_b (prog := c.prog) (w := w) (t := tree vs) (s := s₁)
    (R := fun f s' => c.Ends s args vs s₁ (.ok f) s' ∧ s'.os = s.os ∧ kept s'.heap) (Shared.asleep_of_life rest.2.2.2 hz) hcode
  obtain ⟨eh, _, _, eo, _⟩ := Shared.forget_eq hfo
  refine ⟨vs, s₁, hlaid, k, _, s', hsched, ?_, (fun _ i x hx => by rw [hgens] at hx; simp at hx), eh.symm ▸ hkp, by rw [(runN_life _ _ _ hrun).trans rest.2.2.2], Shared.rest_eq (eo.trans hos)⟩
  rcases hcase.congr eh with ⟨v, e, d1, d2, d3, d4, d5⟩ | ⟨e, ob, cls, q, _⟩
  · cases e; exact .inl ⟨v, rfl, d1, d2, d3, fun b o y _ => d4 b o y, d5⟩
  · cases q
end Mine
end
section -- G2
open PySem PySem.W PySem.Calls PyProof.Rows
open Sem (wp)
namespace Mine
/-- the walk's premise, told at contexts without a finaliser -/
abbrev WalkB (q : Program) (loose : List Str) (XP : (Str → Option Value) → Heap → Prop) (YP : World → Heap → Prop) (r : RowW) (d : DefRec) (kwd : List (Str × PySem.Expr)) : Prop :=
  ∀ (w : World) (s₀ s₁ : Shared) (mg mb : Str → Option Value), Ground q loose r.records XP w s₀ mg mb s₁.heap → YP w s₁.heap → ∀ (a : Addr) (o : Obj) (pm cd doc dV kV : Value), s₁.heap.get? a = some o →
    o.data = .func { docDef d.name d.params d.body d.scope pm cd doc with defaults := dV, kwdefaults := kV } → s₁.heap.CodeRec cd d.name → Dflts mg s₁.heap d.params kwd dV kV → mg d.name = some (.ref a) → s₁.gens = #[] →
    ∀ (args : List WData) (vals : List Value) (as : List Addr), r.claim.pre args = true → WData.layableAll args = true → ReadsAllW r.records (classAt s₀.heap) s₁.heap vals args as → WellAll w.params s₁.heap vals args → (∀ a ∈ as, (a == sysModules) = false) →
      wpB true (model r.prog w) callerA (PySem.call (.ref a) vals) (Fine r.claim s₀ s₁ args) s₁

end Mine
namespace Mine.PySem.W
theorem holds_open {r : OpenRow} {q : Program} {loose : List Str} {Xt : Shared → Bool} {XP : (Str → Option Value) → Heap → Prop} {α : Type} {Yf : Shared → α} {Ya : World → α} {YP : World → Heap → Prop} {d : DefRec} {kwd : List (Str × PySem.Expr)} {N : Nat}
    (left : LeftO r.prog q loose Xt Yf Ya N) (hY : ∀ w s, Yf s = Ya w → YP w s.heap) (hYk : ∀ w h h', YP w h → (∀ b o, h.get? b = some o → h'.get? b = some o) → YP w h')
    (hX : ∀ s, Xt s = true → XP (s.heap.nsMap mainGlobals) s.heap) (hXk : ∀ mg h h', XP mg h → (∀ b o, h.get? b = some o → h'.get? b = some o) → XP mg h')
    (hdef : defOf q r.name = some (d, kwd)) (hp : r.prog.theDef r.name = some (d.params, d.body, d.scope)) (hk : kwWritten? d.params.kwonlyargs d.params.kw_defaults = some kwd) (hRf : ∀ s, Xt s = true → RecFacts r.records s.heap) (hwr : (!r.writes || r.records.isEmpty) = true)
    (k1 : r.wellSaid = true) (ok : (chainsOk q && opensWell r.prog && (frees r.toRowW && r.within.isEmpty)) = true) (hb : r.prog.bare) (hw : r.toRowW.promised)
    (call : WalkB q loose XP YP r.toRowW d kwd) : r.Holds := by
  simp only [Bool.and_eq_true] at ok
  obtain ⟨⟨hch, o1⟩, k5, k6⟩ := ok
  obtain ⟨hsame, hu, ha, hap, hm⟩ := frees_parts k5
  refine ⟨k1, hw, ⟨hb, o1, by show r.toRowW.makers.map _ = []; rw [hm]; rfl⟩, hw.witness, fun w => ?_⟩
  have B := left.behind (XP := fun mg h => XP mg h ∧ RecFacts r.records h) (fun s hs => ⟨hX s hs, hRf s hs⟩) hch w
  refine ⟨B.1, fun s' hs' => ?_⟩
  obtain ⟨s₀, hf, hg0, s, hT, hz, hgens, hg, G00, y⟩ := B.2 s' hs'
  have G0 : Ground q loose [] XP w s (s.heap.nsMap mainGlobals) (s.heap.nsMap builtinsNs) s.heap := ⟨G00.T, G00.B, G00.D, G00.TE, G00.TD, G00.W, G00.X.1, G00.cls, G00.has, G00.apart, G00.once, G00.K⟩
  have RF := G00.X.2
  refine ⟨s₀, hf, hg0, s, hT, fun n hn => ?_, RF.1, RF.2.1, ?_⟩
  · obtain rfl : n = r.name := by split at hn <;> simp_all
    exact pinned_of_view hg G0 hdef hp hk
  have gens0 : s.gens = #[] := Array.eq_empty_of_size_eq_zero (beq_iff_eq.mp hgens)
  have G := RF.ground G0
  refine callFrom_b (c := r.toRowW.claim) hz gens0 fun args hpre hlay ord hord => ?_
  obtain ⟨⟨vs, s₁⟩, hlaid⟩ := Option.isSome_iff_exists.mp (layAllW_isSome (P := w.params) (ord := ord) G.has args r.args s (pre_splitW hpre).1)
  have keeps := layAllW_keeps _ _ _ hlaid
  have rest := layAllW_rest _ _ _ hlaid
  obtain ⟨as, hrd, hin, hold⟩ := reads_layAllW hord _ _ _ hlaid hlay s₁.heap (fun _ _ e => e)
  have L : Laid r.records w s s₁ args vs as := ⟨⟨ord, hord, hlaid⟩, hrd, hin, hold, keeps, rest.1.trans gens0, rest.2.2.1⟩
  have G₁ := G.keeps hXk keeps
  obtain ⟨a, o, pm, cd, doc, dV, kV, h1, h2, h3, h4, h5⟩ := G₁.fn hdef
  have W := call w s s₁ _ _ G₁ (hYk _ _ _ (hY w s y) keeps) a o pm cd doc dV kV h2 h3 h4 h5 (defOf_name hdef ▸ h1) L.gens args vs as hpre hlay L.reads L.well (L.low G.low)
  refine ⟨vs, s₁, hlaid, ?_⟩
  refine wpB_bindA (wpAny_nsGet G₁.T.g (by
    rw [h1]
    refine wpB_bind (wpB_mono W fun v s' g => wpB_pure ⟨_, rfl, ?_⟩)
    have z := g.laid (c := r.toRowW.claim) hsame (List.isEmpty_iff.mp k6) (ident_freeW hu ha hap) L
    exact ⟨⟨z.1, z.2.1, fun _ => ⟨namesKept_of hT hg _ keeps g.2.1.old, noTable hwr ‹_›⟩⟩, z.2.2⟩))
end Mine.PySem.W
end
section -- Hd
open PySem PySem.W PyProof.Rows
set_option maxHeartbeats 8000000
namespace Mine
local macro_rules | `(tactic| o_head (kHook $K $as $e)) => `(tactic| o_head (kmHook $K $as $e [230, 601]))
open_top hd for PySem.Challenge.rw_ez0179_01
end Mine
end
section -- S1
open PySem PySem.W PySem.Calls PyProof.Rows
open Sem (wp)
namespace Mine
section
variable {M : Model} {A : Around} {R : GenEnd} {Y : Protocol} {n : Nat} {s₀ : Shared} {c : Code} {fs : List Frame} {s : Shared} {env : Env}
  {K : Flow → Sem Fin} {H : Value → Sem Fin} {gd : Bool → Bool} {lv : List Value → List Value}
/-- a statement that hands nothing out and raises nothing -/
theorem sg_st {st : Stmt} (h : wpAny M (A.over c fs) (exec st env) (fun f s' => Seg M A R Y n s₀ c (K f) fs s') (fun _ _ => False) s) : Seg M A R Y n s₀ c ((exec st env).wrap K H gd lv) fs s :=
  seg_wrap (wpAny_mono h (fun _ _ x => x) fun _ _ x => x.elim)
theorem sg_If {test : PySem.Expr} {body orelse : List Stmt} {pos : Pos}
    (h : wpAny M (A.over c fs) (isTrue test env (eval test env)) (fun b s' => if b then Seg M A R Y n s₀ c ((execs body env).wrap K H gd lv) fs s' else Seg M A R Y n s₀ c ((execs orelse env).wrap K H gd lv) fs s') (fun _ _ => False) s) :
    Seg M A R Y n s₀ c ((exec (.If test body orelse pos) env).wrap K H gd lv) fs s := by
  rw [exec_If, Sem.bind_eq_wrap', Sem.wrap_wrap]
  refine seg_wrap (wpAny_standAt ?_)
  rw [Sem.bind_eq_wrap', Sem.wrap_wrap]
  refine seg_wrap (wpAny_mono h (fun b s' hb => ?_) fun _ _ x => x.elim)
  cases b <;> exact hb
theorem sg_For {target iter : PySem.Expr} {body orelse : List Stmt} {pos : Pos}
    (h : wpAny M (A.over c fs) (eval iter env) (fun x s₁ => wpAny M (A.over c fs) (pyIter x) (fun it s₂ => ∀ p k, Seg M A R Y n s₀ (.forLoop target it body orelse env) (M.den (.forLoop target it body orelse env))
      (.ret (fun r => ((match r with | .ok f => (.pure f : Sem Flow) | .error e => .raise e).onRaise k).wrap K H gd lv) none (gd false) (lv []) c p [] :: fs) s₂) (fun _ _ => False) s₁) (fun _ _ => False) s)
    (hs : ∀ x, foldedSetIterable iter env x = pure x := by intro _; rfl) : Seg M A R Y n s₀ c ((exec (.For target iter body orelse pos) env).wrap K H gd lv) fs s := by
  rw [exec_For, Sem.bind_eq_wrap', Sem.wrap_wrap]
  refine seg_wrap (wpAny_standAt ?_)
  rw [Sem.bind_eq_wrap', Sem.wrap_wrap]
  refine seg_wrap (wpAny_mono h (fun x s₁ h₁ => ?_) fun _ _ x => x.elim)
  rw [Sem.bind_eq_wrap', Sem.wrap_wrap]
  refine seg_wrap (wpAny_of_eq (hs x) ?_)
  rw [Sem.bind_eq_wrap', Sem.wrap_wrap]
  refine seg_wrap (wpAny_standAt ?_)
  rw [Sem.bind_eq_wrap', Sem.wrap_wrap]
  refine seg_wrap (wpAny_holding (wpAny_mono h₁ (fun it s₂ h₂ => ?_) fun _ _ x => x.elim))
  exact seg_call fun p => h₂ p _
end
section
variable {prog : Program} {w : World} {A : Around} {R : GenEnd} {Y : Protocol} {n : Nat} {s₀ : Shared} {fs : List Frame} {s : Shared} {env : Env}
theorem sg_forLoop {target : PySem.Expr} {it : Value} {body orelse : List Stmt}
    (h : wpAny (model prog w) (A.over (.forLoop target it body orelse env) fs) (pyNext it) (fun r s₁ => match r with
      | none => Seg (model prog w) A R Y n s₀ (.forLoop target it body orelse env) (.pure (.again (.block orelse env))) fs s₁
      | some v => wpAny (model prog w) (A.over (.forLoop target it body orelse env) fs) (assign target env v) (fun _ s₂ => ∀ H, Seg (model prog w) A R Y n s₀ (.forLoop target it body orelse env) ((execs body env).wrap (fun f => match f with
            | .next | .cont => .pure (.again (.forLoop target it body orelse env))
            | .brk => .pure (.done .next)
            | .ret v => .pure (.done (.ret v))) H id id) fs s₂) (fun _ _ => False) s₁) (fun _ _ => False) s) (ht : ∀ v, letOwnedTupleGo target it v = pure () := by intro _; rfl) :
    Seg (model prog w) A R Y n s₀ (.forLoop target it body orelse env) ((model prog w).den (.forLoop target it body orelse env)) fs s := by
  show Seg _ A R Y n s₀ _ ((forTurn target it body orelse env).onRaise (fun x => do noteFrame x env; theTreesLotGoes x)) fs s
  unfold forTurn
  rw [Sem.onRaise_eq_wrap, Sem.bind_eq_wrap', Sem.wrap_wrap]
  refine seg_wrap (wpAny_standAt ?_)
  rw [Sem.bind_eq_wrap', Sem.wrap_wrap]
  refine seg_wrap (wpAny_onRaise (wpAny_mono h (fun r s₁ h₁ => ?_) fun _ _ x => x.elim))
  cases r with
  | none => exact h₁
  | some v =>
    dsimp only
    rw [Sem.bind_eq_wrap', Sem.wrap_wrap]
    refine seg_wrap (wpAny_of_eq (ht v) ?_)
    rw [Sem.bind_eq_wrap', Sem.wrap_wrap]
    refine seg_wrap (wpAny_mono h₁ (fun _ s₂ h₂ => ?_) fun _ _ x => x.elim)
    rw [Sem.bind_eq_wrap', Sem.wrap_wrap]
    rw [Sem.wrap_congr (execs body env) _ _ (K' := fun f => match f with
            | .next | .cont => .pure (.again (.forLoop target it body orelse env))
            | .brk => .pure (.done .next)
            | .ret v => .pure (.done (.ret v))) (fun f => by cases f <;> rfl) (fun _ => rfl)]
    exact h₂ _
end
end Mine
end
section -- A5
open PySem PySem.W PySem.Calls PyProof.Rows
namespace Mine

section
variable {w : World} {g : Heap} {L : Addr} {m : List (Str × Value)} {F : List (Addr × List (Str × Value))} {C : Led} {G : Array GenState} {O : OsState} {s : Shared} {A : Around} {E : Value → Shared → Prop} {d : Addr} {tg : Tag}

theorem keys_noref {es : Array DictEntry} (hk : KeysOf (strKind PR w) es) : es.any (·.refKey) = false := by
  rw [Array.any_eq_false']
  intro e he
  obtain ⟨z, hz, _⟩ := hk e he
  obtain ⟨t, ht⟩ := Value.isStrOf_shape hz
  simp [DictEntry.refKey, ht]
theorem is_eq (x : Str) : (fun e : DictEntry => (strKind PR w).is x e.key) = fun e => e.key.isStr x := funext fun e => (isStr_of x e.key).symm

/-- one name put into a dict of names: the bare step -/
theorem nsSet_raw {x : Str} {v : Value} {o : Obj} {es : Array DictEntry} {ep : Nat} {Q : Unit → Shared → Prop} (ho : s.heap.get? d = some o) (hd : o.data = .dict es ep) (hr : es.any (·.refKey) = false)
    (h : Q () { s with heap := s.heap.update d (Obj.putName x (PyData.keyHash w.params x) (.str x s.toks) v), toks := s.toks + 1 }) : wpAny (model PR w) A (nsSet d x v) Q E s := by
  have c : aRefKeyMayBeTheName x es = false := by
    rw [aRefKeyMayBeTheName_eq, aRefKeyMayBeTheNameByArray, hr, Bool.and_false]
  unfold nsSet
  refine wpAny_bind (wpAny_bind (wpAny_askSetting (wpAny_pure (wpAny_bind (wpAny_mkText (wpAny_bind (wpAny_loadPart ho ?_)))))))
  obtain ⟨cl, dd, dt, sl⟩ := o
  dsimp only at hd
  subst hd
  dsimp only
  rw [c]
  exact wpAny_updatePart ho h

theorem r_nsSetS {x : Str} {v : Value} {kvs : List (Str × Value)} {ep : Nat} {Q : Unit → Shared → Prop} (S : St w g L m F C G O s) (hC : C d = some (.ds tg kvs ep)) (hx : x ∉ kvs.map (·.1))
    (h : ∀ s', St w g L m F (upd C d (.ds tg (kvs ++ [(x, v)]) (ep + 1))) G O s' → Q () s') : wpAny (model PR w) A (nsSet d x v) Q E s := by
  obtain ⟨o, es, ho, hc, hd, hk, hp, hn⟩ := id (S.sat d _ hC)
  refine nsSet_raw ho hd (keys_noref hk) (h _ (S.put hC (Heap.SameBut.update ..) ?_ S.gens S.os))
  obtain ⟨cl, dd, dt, sl⟩ := o
  dsimp only at hd
  subst hd
  have hi : es.findIdx? (·.key.isStr x) = none := by
    have := hp.findIdx x
    rw [is_eq] at this
    have e2 : es.findIdx? (·.key.isStr x) = es.toList.findIdx? (·.key.isStr x) := by obtain ⟨l⟩ := es; exact List.findIdx?_toArray ..
    rw [e2, this]
    rw [List.findIdx?_eq_none_iff]
    intro kv hkv
    rw [decide_eq_false_iff_not]
    intro e
    exact hx (e ▸ List.mem_map_of_mem hkv)
  refine ⟨_, es.push ⟨PyData.keyHash w.params x, .str x s.toks, v⟩, Heap.get?_update_self _ ho (by simp only [Obj.putName_eq, Obj.putNameByArray, hi]; rfl), by simp only [Obj.putName_eq, Obj.putNameByArray, hi]; exact hc, by simp only [Obj.putName_eq, Obj.putNameByArray, hi], ?_, ?_, ?_⟩
  · exact hk.push (k := x) (strKind_is PR w x s.toks) v
  · rw [Array.toList_push]; exact hp.append (strKind_is PR w x s.toks) _ v
  · rw [List.map_append, List.map_cons, List.map_nil]
    exact List.nodup_append.mpr ⟨hn, List.nodup_cons.mpr ⟨by simp, List.nodup_nil⟩, fun a ha b hb => by rw [List.mem_singleton] at hb; subst hb; rintro rfl; exact hx ha⟩

/-- the keyword arguments laid into their dict -/
theorem r_fill {Q : PUnit → Shared → Prop} : ∀ (ex : List (Str × Value)) (s : Shared) (C : Led) (kvs : List (Str × Value)) (ep : Nat), St w g L m F C G O s → C d = some (.ds tg kvs ep) → ((kvs ++ ex).map (·.1)).Nodup →
    (∀ ep' s', St w g L m F (upd C d (.ds tg (kvs ++ ex) ep')) G O s' → Q ⟨⟩ s') → wpAny (model PR w) A (forIn ex PUnit.unit fun x _ => (nsSet d x.1 x.2 >>= fun _ => pure (ForInStep.yield PUnit.unit))) Q E s
  | [], s, C, kvs, ep, S, hC, _, h => by
    rw [List.forIn_nil]
    refine wpAny_pure (h ep s ?_)
    have : upd C d (.ds tg (kvs ++ []) ep) = C := by
      funext b
      by_cases hb : b = d
      · subst hb; rw [upd_same, List.append_nil, hC]
      · rw [upd_ne hb]
    rw [this]; exact S
  | x :: r, s, C, kvs, ep, S, hC, hn, h => by
    rw [List.forIn_cons]
    have hn' : ((kvs ++ [x] ++ r).map (·.1)).Nodup := by rw [List.append_assoc]; exact hn
    have hx : x.1 ∉ kvs.map (·.1) := by
      rw [List.map_append, List.map_cons] at hn
      intro hm
      exact (List.nodup_append.mp hn).2.2 x.1 hm x.1 (.head _) rfl
    refine wpAny_bind (wpAny_bind (r_nsSetS (x := x.1) (v := x.2) S hC hx fun s' S' => wpAny_pure ?_))
    show wpAny (model PR w) A (forIn r PUnit.unit fun x _ => (nsSet d x.1 x.2 >>= fun _ => pure (ForInStep.yield PUnit.unit))) Q E s'
    refine r_fill r s' _ (kvs ++ [x]) (ep + 1) S' (upd_same ..) hn' fun ep' s'' S'' => h ep' s'' ?_
    rw [List.append_assoc] at S''
    have : upd (upd C d (.ds tg (kvs ++ [(x.1, x.2)]) (ep + 1))) d (.ds tg (kvs ++ ([x] ++ r)) ep') = upd C d (.ds tg (kvs ++ x :: r) ep') := by
      funext b
      by_cases hb : b = d
      · subst hb; rw [upd_same, upd_same]; rfl
      · rw [upd_ne hb, upd_ne hb, upd_ne hb]
    rw [this] at S''
    exact S''

theorem peekA_wp {α : Type} {K : Frag} {Q : α → Shared → Prop} {o : Obj} (X : K.In s.heap) :
    ∀ (t : Sem α) (g : Addr → Sem α), peekA K ⟨PR, w.params⟩ t = some (o, g) →
      wpAny (model PR w) A (g s.heap.objs.size) Q E { s with heap := s.heap.push o } → wpAny (model PR w) A t Q E s := by
  intro t
  induction t with
  | rule _ k ih => intro g e q Γ p hΓ; exact ih () g e q Γ p hΓ
  | point _ k ih => intro g e q Γ p hΓ; exact ih () g e q Γ p hΓ
  | ask k ih => intro g e q Γ p hΓ; exact ih _ g e q Γ p hΓ
  | load a _ k ih =>
    intro g e q Γ p hΓ
    simp only [peekA] at e
    split at e
    · rename_i ob ho; exact ⟨ob, X _ _ ho, ih ob g e q Γ p hΓ⟩
    · cases e
  | alloc ob k _ =>
    intro g e q
    have e : some (ob, k) = some (o, g) := e
    obtain ⟨e1, e2⟩ := Prod.mk.inj (Option.some.inj e)
    subst e1; subst e2
    exact wpAny_bind (m := alloc ob) (f := k) (wpAny_alloc q)
  | _ => intro g e; cases e
end

section
variable {K : Frag} {p : Program} {loose : List Str} {mg mb : Str → Option Value}
  {w : World} {g : Heap} {L : Addr} {m : List (Str × Value)} {F : List (Addr × List (Str × Value))} {C : Led} {G : Array GenState} {O : OsState} {s : Shared} {A : Around}

/-- into a def of the text with **nm -/
theorem r_enterKw {R : Result → Shared → Prop} {name qual : Str} {params : Arguments} {body : List Stmt} {scope : Scope} {dV kV doc pm cdv ct oc : Value} {an od : Option Addr} {osl : Array (Option Value)} {f : Addr} {args : Args}
    {nm : Str} {ex front : List (Str × Value)} {g₁ : Addr → Sem (List (Str × Value))}
    (S : St w g L m F C G O s) (D : Wd K p loose mg mb g)
    (ho : K.lookup f = some ⟨oc, od, .func (fnOf name qual params body scope dV kV doc pm an cdv ct), osl⟩) (hcd : codeIn K cdv qual = true) (hroom : A.depth < recursionLimit)
    (hp : peekA K ⟨PR, w.params⟩ (bindArgs (fnOf name qual params body scope dV kV doc pm an cdv ct) args) = some (dictOf [] 0, g₁))
    (hk₁ : ∀ D, g₁ D = (forIn ex PUnit.unit (fun x _ => (nsSet D x.1 x.2 >>= fun _ => pure (ForInStep.yield PUnit.unit))) >>= fun _ => pure (front ++ [(nm, Value.ref D)])))
    (hn : (ex.map (·.1)).Nodup) (hloc : ∀ D, ∀ y ∈ front ++ [(nm, Value.ref D)], scope.names.lookup y.1 = some .local)
    (h : ∀ D ep L' s', C D = none → St w g L' (front ++ [(nm, Value.ref D)]).reverse ((L, m) :: F) (upd C D (.ds .none ex ep)) G O s' →
      wpAny (model PR w) (A.deeper (envX qual scope L' f cdv [])) (execs body (envX qual scope L' f cdv []))
        (fun fl s'' => R (.ok (.ret (match fl with | .ret v => v | _ => .none))) s'')
        (fun e s'' => wpAny (model PR w) (A.deeper (envX qual scope L' f cdv [])) (leaving (envX qual scope L' f cdv []) e) (fun _ s3 => R (.error e) s3) (fun e' s3 => R (.error e') s3) s'') s')
    (hco : scope.isCoroutine = false := by rfl) (hgen : scope.isGenerator = false := by rfl) (hk : scope.kind = .function := by rfl)
    (hcell : ∀ x ∈ scope.names, x.2 ≠ .cell := by decide) : codeAny (model PR w) A (.call (.ref f) args) R s := by
  have X := D.X.keeps S.keep
  refine codeAny_call_function (fd := fnOf name qual params body scope dV kV doc pm an cdv ct) (body := body) hroom (X _ _ ho) rfl hco hgen rfl (codeRec_of X hcd) ?_
  refine peekA_wp X _ g₁ hp ?_
  rw [hk₁]
  have S1 : St w g L m F (upd C s.heap.objs.size (.ds .none [] 0)) G O { s with heap := s.heap.push (dictOf [] 0) } := S.new (Nat.le_refl _) (fun _ _ e => Heap.get?_push_of_some _ e) (empty_at s.heap) S.gens S.os
  refine wpAny_bind (r_fill ex _ _ [] 0 S1 (upd_same ..) hn fun ep s2 S2 => wpAny_pure ?_)
  rw [List.nil_append] at S2
  have eC : upd (upd C s.heap.objs.size (.ds .none [] 0)) s.heap.objs.size (.ds .none ex ep) = upd C s.heap.objs.size (.ds .none ex ep) := by
    funext b
    by_cases hb : b = s.heap.objs.size
    · subst hb; rw [upd_same, upd_same]
    · rw [upd_ne hb, upd_ne hb, upd_ne hb]
  rw [eC] at S2
  refine wpAny_newFunctionEnv hcell (hloc _) (fun h₁ hns hsb => ⟨(D.T.nolimit.keeps S2.keep).fresh _ hsb, codeAny_func ?_⟩) hk
  have hk₁' : ∀ b o, s2.heap.get? b = some o → h₁.get? b = some o := fun b o e => hsb.extBut b o (Nat.ne_of_lt (Heap.lt_size e)) (Heap.get?_push_of_some _ e)
  exact h s.heap.objs.size ep s2.heap.objs.size { s2 with heap := h₁, toks := s2.toks + (front ++ [(nm, Value.ref s.heap.objs.size)]).length } S.free (S2.into (Nat.le_refl _) hk₁' (nsLe_of hns) S2.gens S2.os)
end
end Mine
end
section -- A6
open PySem PySem.W PySem.Calls PyProof.Rows
namespace Mine

section
variable {K : Frag} {p : Program} {loose : List Str} {mg mb : Str → Option Value} 
  {w : World} {g : Heap} {L : Addr} {m : List (Str × Value)} {F : List (Addr × List (Str × Value))} {C : Led} {G : Array GenState} {O : OsState} {s : Shared} {A : Around} {E : Value → Shared → Prop}
  {env : Env}

/-- x.attr, x a name of the frame's -/
theorem r_nattr {xa dx cls : Addr} {f : Str → Option Value} {nf : Nat} {hot : Bool} {x name : Str} {xp pos : Pos} {v : Value} {Q : Value → Shared → Prop} (S : St w g L m F C G O s) (D : Wd K p loose mg mb g) (hl : m.lookup x = some (.ref xa))
    (h1 : C xa = some (.obj (instObj cls dx))) (h2 : C dx = some (.sm f nf hot)) (hok : ownOk K cls name = true) (hv : f name = some v) (hh : handedIn v = true) (h : ∀ s', St w g L m F C G O s' → Q v s')
    (hk : env.scope.kind = .function := by rfl) (hx : env.kindOf x = some .local := by rfl) (hd : (x == ("__debug__" : Str)) = false := by decide) (hL : env.locals = L := by rfl) :
    wpAny (model PR w) A (eval (.Attribute (.Name x xp) name pos) env) Q E s :=
  Attribute_name (r_loc S hl (r_attr S D h1 h2 hok hv hh h) hk hx hd hL)

/-- a call that is spelt as a method's is read as one (its rows' numbers hang on it) -/
def MForm (o : PySem.Expr) (name : Str) (apos : Pos) (args : List PySem.Expr) (kws : List Keyword) (pos : Pos) (env : Env) : Prop := ∃ pl, eval (.Call (.Attribute o name apos) args kws pos) env = (do
      let ov ← eval o env
      standAt apos.atName
      let (f, first) ← holding [ov] (getMethod ov name pl)
      callWith pos f first (backTo pos (starEach args env)) (backToKw pos (keywordEach kws env)))
/-- x.meth(), x a name of the frame's, meth a def of its class, no argument -/
theorem r_mcall0 {xa dx cls fa : Addr} {f : Str → Option Value} {nf : Nat} {hot : Bool} {x name : Str} {xp apos pos : Pos} {Q : Value → Shared → Prop} (S : St w g L m F C G O s) (D : Wd K p loose mg mb g) (hl : m.lookup x = some (.ref xa))
    (h1 : C xa = some (.obj (instObj cls dx))) (h2 : C dx = some (.sm f nf hot)) (hg : plainGet K cls name = true) (hf : findIn K (.ref cls) name = some (some (.ref fa))) (ht : isFn K (.ref fa) = true) (hkp : keepIn K (.ref fa) = true) (hv : f name = none)
    (h : wpAny (model PR w) A (call (.ref fa) [.ref xa]) Q E s)
    (he : MForm (.Name x xp) name apos [] [] pos env := by exact ⟨_, rfl⟩)
    (hk : env.scope.kind = .function := by rfl) (hx : env.kindOf x = some .local := by rfl) (hd : (x == ("__debug__" : Str)) = false := by decide) (hL : env.locals = L := by rfl) :
    wpAny (model PR w) A (eval (.Call (.Attribute (.Name x xp) name apos) [] [] pos) env) Q E s :=
  let ⟨_, he⟩ := he
  MethodCall_ (r_loc S hl (r_meth S D h1 h2 hg hf ht hv (callWith_K0 (D.X.keeps S.keep) hkp (by simpa using h))) hk hx hd hL) he

/-- a def that hands back {} -/
theorem call_factoryI (tg : Tag) {Q : Value → Shared → Prop} {name qual : Str} {params : Arguments} {scope : Scope} {dV kV doc pm cdv ct oc : Value} {an od : Option Addr} {osl : Array (Option Value)} {f : Addr} {vs : List Value} {binds : List (Str × Value)} {p1 p2 : Pos}
    (S : St w g L m F C G O s) (D : Wd K p loose mg mb g)
    (ho : K.lookup f = some ⟨oc, od, .func (fnOf name qual params [.Return (some (.Dict [] [] p1)) p2] scope dV kV doc pm an cdv ct), osl⟩) (hcd : codeIn K cdv qual = true) (hroom : A.depth < recursionLimit)
    (hbind : bindArgs (fnOf name qual params [.Return (some (.Dict [] [] p1)) p2] scope dV kV doc pm an cdv ct) ⟨vs, []⟩ = pure binds) (hloc : ∀ y ∈ binds, scope.names.lookup y.1 = some .local)
    (hco : scope.isCoroutine = false) (hgen : scope.isGenerator = false) (hk : scope.kind = .function) (hcell : ∀ x ∈ scope.names, x.2 ≠ .cell)
    (h : ∀ d s', C d = none → St w g L m F (upd C d (.di tg [] 0)) G O s' → Q (.ref d) s') : wpAny (model PR w) A (call (.ref f) vs) Q E s := by
  refine wpAny_call (r_enter S D ho hcd hroom (.of_eq hbind) hloc (fun L' s' S' => ?_) hco hgen hk hcell)
  exact wpAny_execs_cons (wpAny_Return_some (r_newdi tg S' fun d s'' hd S'' => h d s'' hd (S.pop S'')))
theorem call_factoryS (tg : Tag) {Q : Value → Shared → Prop} {name qual : Str} {params : Arguments} {scope : Scope} {dV kV doc pm cdv ct oc : Value} {an od : Option Addr} {osl : Array (Option Value)} {f : Addr} {vs : List Value} {binds : List (Str × Value)} {p1 p2 : Pos}
    (S : St w g L m F C G O s) (D : Wd K p loose mg mb g)
    (ho : K.lookup f = some ⟨oc, od, .func (fnOf name qual params [.Return (some (.Dict [] [] p1)) p2] scope dV kV doc pm an cdv ct), osl⟩) (hcd : codeIn K cdv qual = true) (hroom : A.depth < recursionLimit)
    (hbind : bindArgs (fnOf name qual params [.Return (some (.Dict [] [] p1)) p2] scope dV kV doc pm an cdv ct) ⟨vs, []⟩ = pure binds) (hloc : ∀ y ∈ binds, scope.names.lookup y.1 = some .local)
    (hco : scope.isCoroutine = false) (hgen : scope.isGenerator = false) (hk : scope.kind = .function) (hcell : ∀ x ∈ scope.names, x.2 ≠ .cell)
    (h : ∀ d s', C d = none → St w g L m F (upd C d (.ds tg [] 0)) G O s' → Q (.ref d) s') : wpAny (model PR w) A (call (.ref f) vs) Q E s := by
  refine wpAny_call (r_enter S D ho hcd hroom (.of_eq hbind) hloc (fun L' s' S' => ?_) hco hgen hk hcell)
  exact wpAny_execs_cons (wpAny_Return_some (r_newds tg S' fun d s'' hd S'' => h d s'' hd (S.pop S'')))
end
end Mine
end
section -- A7
open PySem PySem.W PySem.Calls PyProof.Rows
namespace Mine

section
variable {w : World} {g : Heap} {L : Addr} {m : List (Str × Value)} {F : List (Addr × List (Str × Value))} {C : Led} {G : Array GenState} {O : OsState} {s : Shared} {A : Around} {E : Value → Shared → Prop} {env : Env} {pos : Pos}

/-- a tuple, a list written out -/
theorem r_tup {elts : List PySem.Expr} {k : Nat} {Q : Value → Shared → Prop}
    (h : wpAny (model PR w) A (spliced (backTo pos (starEach elts env))) (fun vs s₁ => vs.length ≤ 1000 ∧ ∃ g L m F C G O, St w g L m F C G O s₁ ∧ ∀ t s', C t = none → St w g L m F (upd C t (.tup vs)) G O s' → Q (.ref t) s') E s) :
    wpAny (model PR w) A (eval (.Tuple elts k pos) env) Q E s :=
  wpAny_Tuple (wpAny_mono h (fun vs s₁ ⟨hl, g, L, m, F, C, G, O, S, hq⟩ => ⟨by rw [sizeLine_eq]; omega, hq _ _ S.free (S.new (Nat.le_refl _) (fun _ _ e => Heap.get?_push_of_some _ e) (Heap.get?_push_size _ rfl) S.gens S.os)⟩) fun _ _ e => e)
theorem r_lst {elts : List PySem.Expr} {Q : Value → Shared → Prop}
    (h : wpAny (model PR w) A (spliced (backTo pos (starEach elts env))) (fun vs s₁ => vs.length ≤ 1000 ∧ ∃ g L m F C G O, St w g L m F C G O s₁ ∧ ∀ t s', C t = none → St w g L m F (upd C t (.lst vs)) G O s' → Q (.ref t) s') E s) :
    wpAny (model PR w) A (eval (.List elts pos) env) Q E s :=
  wpAny_List (wpAny_mono h (fun vs s₁ ⟨hl, g, L, m, F, C, G, O, S, hq⟩ => ⟨by rw [sizeLine_eq]; omega, hq _ _ S.free (S.new (Nat.le_refl _) (fun _ _ e => Heap.get?_push_of_some _ e) ⟨_, Heap.get?_push_size _ rfl, rfl, 0, rfl⟩ S.gens S.os)⟩) fun _ _ e => e)

theorem St.isTup (S : St w g L m F C G O s) {t : Addr} {vs : List Value} (ht : C t = some (.tup vs)) : IsTup s.heap t vs.toArray := ⟨_, S.sat t _ ht, rfl, 0, rfl⟩
theorem St.isList (S : St w g L m F C G O s) {t : Addr} {vs : List Value} (ht : C t = some (.lst vs)) : s.heap.IsList t vs.toArray := S.sat t _ ht
theorem St.extBut (S : St w g L m F C G O s) {h' : Heap} {tk : Nat} (hx : Heap.ExtBut s.heap.objs.size s.heap h') : St w g L m F C G O { s with heap := h', toks := tk } :=
  S.grown (fun b o e => hx b o (Nat.ne_of_lt (Heap.lt_size e)) e) S.gens S.os

theorem r_unpackItems {t : Addr} {vs : List Value} {n : Nat} {Q : List Value → Shared → Prop} (S : St w g L m F C G O s) (hh : A.handled = none) (ht : C t = some (.tup vs)) (hn : n = vs.length) (h : ∀ s', St w g L m F C G O s' → Q vs s') :
    wpAny (model PR w) A (unpackItems (.ref t) n none) Q E s := by
  subst hn
  exact unpackItems_tuple hh (S.isTup ht) fun h' hx => h _ (S.extBut hx)
theorem r_assignT {t : Addr} {vs : List Value} {elts : List PySem.Expr} {k : Nat} {Q : Unit → Shared → Prop} (S : St w g L m F C G O s) (hh : A.handled = none) (ht : C t = some (.tup vs)) (hn : (assignEach elts env).length = vs.length)
    (hstar : (assignEach elts env).findIdx? (·.1) = none) (h : ∀ s', St w g L m F C G O s' → wpAny (model PR w) A (assignInOrder ((assignEach elts env).map (·.2)) vs) Q E s') :
    wpAny (model PR w) A (assign (.Tuple elts k pos) env (.ref t)) Q E s :=
  assign_Tuple_tuple hh (S.isTup ht) (by simpa using hn) hstar fun h' hx => h _ (S.extBut hx)
end
end Mine
end
section -- A8
open PySem PySem.W PySem.Calls PyProof.Rows
namespace Mine

def KeepsBut (it : Addr) (C C' : Led) : Prop := ∀ b c, b ≠ it → C b = some c → C' b = some c
theorem Ext.keepsBut {it : Addr} {C C' : Led} (x : Ext C C') : KeepsBut it C C' := fun b c _ e => x b c e
theorem KeepsBut.trans {it : Addr} {A B C : Led} (x : KeepsBut it A B) (y : KeepsBut it B C) : KeepsBut it A C := fun b c h e => y b c h (x b c h e)
theorem KeepsBut.upd {it : Addr} {C : Led} {c : Cell} : KeepsBut it C (upd C it c) := fun _ _ h e => by rw [upd_ne h]; exact e
def del (C : Led) (a : Addr) : Led := fun b => if b = a then none else C b
theorem KeepsBut.del {it : Addr} {C : Led} : KeepsBut it C (del C it) := fun b _ h e => by unfold Mine.del; rw [if_neg h]; exact e

section
variable {w : World} {g : Heap} {L : Addr} {m : List (Str × Value)} {F : List (Addr × List (Str × Value))} {C : Led} {G : Array GenState} {O : OsState} {s : Shared}
/-- the state behind a step that changed one made object beyond saying -/
theorem St.lose (S : St w g L m F C G O s) {it : Addr} {c₀ : Cell} {h' : Heap} {tk : Nat} (hC : C it = some c₀) (hx : Heap.ExtBut it s.heap h') : St w g L m F (del C it) G O { s with heap := h', toks := tk } := by
  obtain ⟨⟨n1, n4⟩, n2, n3⟩ := S.off it c₀ hC
  have hsub : ∀ b c, del C it b = some c → b ≠ it ∧ C b = some c := fun b c e => by
    unfold Mine.del at e
    by_cases hb : b = it
    · rw [if_pos hb] at e; cases e
    · rw [if_neg hb] at e; exact ⟨hb, e⟩
  refine ⟨S.ns.move fun o q => hx L o (Ne.symm n1) q, fun b o e => hx b o (fun q => ?_) (S.keep b o e), S.nl, fun p hp => ⟨(S.frs p hp).1.move fun o q => hx p.1 o (Ne.symm (n4 p hp)) q, (S.frs p hp).2⟩, fun b c e => ?_, fun b c e => S.off b c (hsub b c e).2, S.hi, S.gens, S.os, S.ab⟩
  · rw [q, n2] at e; cases e
  · obtain ⟨h1, h2⟩ := hsub b c e
    exact (S.sat b c h2).move fun o q => hx b o h1 q
end

/-- the generators stand as they stood -/
def GB (G G' : Array GenState) : Prop := G' = G
theorem GB.refl (G : Array GenState) : GB G G := rfl
theorem GB.trans {A B C : Array GenState} (x : GB A B) (y : GB B C) : GB A C := Eq.trans (b := B) y x

/-- what a target of a loop may be -/
def TgOk (t : PySem.Expr) : Prop := (∃ x p, t = .Name x p) ∨ ∃ elts k p, t = .Tuple elts k p
theorem TgOk.nm {x : Str} {p : Pos} : TgOk (.Name x p) := .inl ⟨_, _, rfl⟩
theorem TgOk.tu {elts : List PySem.Expr} {k : Nat} {p : Pos} : TgOk (.Tuple elts k p) := .inr ⟨_, _, _, rfl⟩

/-- an iterator that gives n items to a target: what is known of the ledger at its i-th place, what of the i-th item -/
structure IterOk (w : World) (dd : Nat) (t : PySem.Expr) (it : Addr) (n : Nat) (KP : Led → Led → Prop) (I : Nat → Led → Array GenState → Prop) (P : Nat → Value → Led → Prop) : Prop where
  next : ∀ {A : Around} {g : Heap} {L : Addr} {m : List (Str × Value)} {F : List (Addr × List (Str × Value))} {C : Led} {G : Array GenState} {O : OsState} {s : Shared} {Q : Option Value → Shared → Prop} {E : Value → Shared → Prop} {i : Nat},
    A.handled = none → A.depth + dd < recursionLimit → St w g L m F C G O s → I i C G → i < n →
    (∀ v C' G' s', St w g L m F C' G' O s' → KP C C' → GB G G' → I (i + 1) C' G' → P i v C' → Q (some v) s') →
    wpAny (model PR w) A (pyNext (.ref it)) (fun r s₁ => match r with | none => Q none s₁ | some v => wpAny (model PR w) A (letOwnedTupleGo t (.ref it) v) (fun _ s₂ => Q (some v) s₂) E s₁) E s
  done : ∀ {A : Around} {g : Heap} {L : Addr} {m : List (Str × Value)} {F : List (Addr × List (Str × Value))} {C : Led} {G : Array GenState} {O : OsState} {s : Shared} {Q : Option Value → Shared → Prop} {E : Value → Shared → Prop},
    A.handled = none → A.depth + dd < recursionLimit → St w g L m F C G O s → I n C G → (∀ C' G' s', St w g L m F C' G' O s' → KP C C' → GB G G' → Q none s') → wpAny (model PR w) A (pyNext (.ref it)) Q E s
  self : ∀ {A : Around} {g : Heap} {L : Addr} {m : List (Str × Value)} {F : List (Addr × List (Str × Value))} {C : Led} {G : Array GenState} {O : OsState} {s : Shared} {Q : Value → Shared → Prop} {E : Value → Shared → Prop} {i : Nat},
    St w g L m F C G O s → I i C G → Q (.ref it) s → wpAny (model PR w) A (pyIter (.ref it)) Q E s

/-- the same at one place around and one ground; GR: what becomes of the generators -/
structure IterAt (w : World) (A : Around) (g : Heap) (O : OsState) (t : PySem.Expr) (it : Addr) (n : Nat) (KP : Led → Led → Prop) (GR : Array GenState → Array GenState → Prop) (I : Nat → Led → Array GenState → Prop) (P : Nat → Value → Led → Prop) : Prop where
  next : ∀ {L : Addr} {m : List (Str × Value)} {F : List (Addr × List (Str × Value))} {C : Led} {G : Array GenState} {s : Shared} {Q : Option Value → Shared → Prop} {E : Value → Shared → Prop} {i : Nat},
    St w g L m F C G O s → I i C G → i < n →
    (∀ v C' G' s', St w g L m F C' G' O s' → KP C C' → GR G G' → I (i + 1) C' G' → P i v C' → Q (some v) s') →
    wpAny (model PR w) A (pyNext (.ref it)) (fun r s₁ => match r with | none => Q none s₁ | some v => wpAny (model PR w) A (letOwnedTupleGo t (.ref it) v) (fun _ s₂ => Q (some v) s₂) E s₁) E s
  done : ∀ {L : Addr} {m : List (Str × Value)} {F : List (Addr × List (Str × Value))} {C : Led} {G : Array GenState} {s : Shared} {Q : Option Value → Shared → Prop} {E : Value → Shared → Prop},
    St w g L m F C G O s → I n C G → (∀ C' G' s', St w g L m F C' G' O s' → KP C C' → GR G G' → Q none s') → wpAny (model PR w) A (pyNext (.ref it)) Q E s
  self : ∀ {L : Addr} {m : List (Str × Value)} {F : List (Addr × List (Str × Value))} {C : Led} {G : Array GenState} {s : Shared} {Q : Value → Shared → Prop} {E : Value → Shared → Prop} {i : Nat},
    St w g L m F C G O s → I i C G → Q (.ref it) s → wpAny (model PR w) A (pyIter (.ref it)) Q E s
theorem IterOk.at {w : World} {dd : Nat} {t : PySem.Expr} {it : Addr} {n : Nat} {KP : Led → Led → Prop} {I : Nat → Led → Array GenState → Prop} {P : Nat → Value → Led → Prop} (W : IterOk w dd t it n KP I P) {A : Around} {g : Heap} {O : OsState}
    (hh : A.handled = none) (hd : A.depth + dd < recursionLimit) : IterAt w A g O t it n KP GB I P where
  next := fun S hI hi h => W.next hh hd S hI hi h
  done := fun S hI h => W.done hh hd S hI h
  self := fun S hI h => W.self S hI h

theorem go_name {w : World} {A : Around} {x : Str} {p : Pos} {it v : Value} {Q : Unit → Shared → Prop} {E : Value → Shared → Prop} {s : Shared} (h : Q () s) : wpAny (model PR w) A (letOwnedTupleGo (.Name x p) it v) Q E s := wpAny_of_eq (a := ()) rfl h
/-- an iterator that owns no tuple -/
theorem go_plain {w : World} {A : Around} {t : PySem.Expr} {it : Addr} {v : Value} {Q : Unit → Shared → Prop} {E : Value → Shared → Prop} {s : Shared} (ht : TgOk t) {n : String} {o : Obj} {vs : Array Value} (ho : s.heap.get? it = some o) (hc : o.cls = .type n) (hd : o.data = .fields vs)
    (hn : (["enumerate", "zip", "dict_itemiterator", "dict_reverseitemiterator", "odict_iterator", "itertools.zip_longest", "itertools.pairwise"].contains n) = false) (h : Q () s) : wpAny (model PR w) A (letOwnedTupleGo t (.ref it) v) Q E s := by
  rcases ht with ⟨x, p, rfl⟩ | ⟨elts, k, p, rfl⟩
  · exact go_name h
  · cases v with
    | ref T =>
      unfold letOwnedTupleGo
      refine wpAny_bind (wpAny_load ho ?_)
      rw [hc, hd]
      dsimp only
      rw [hn, Bool.false_and, if_neg Bool.false_ne_true]
      exact wpAny_pure h
    | _ => exact wpAny_of_eq (a := ()) rfl h

section
variable {w : World} {t : PySem.Expr} {it : Addr}
theorem iter_list {l : Addr} {vs : List Value} (ht : TgOk t) : IterOk w 0 t it vs.length (KeepsBut it) (fun i C _ => C it = some (.lit l i) ∧ C l = some (.lst vs)) (fun i v _ => vs[i]? = some v) where
  next := fun {A g L m F C G O s Q E i} _ _ S hI hi h => by
    obtain ⟨h1, h2⟩ := hI
    have hx : vs.toArray[i]? = some vs[i] := by simp [hi]
    refine wpAny_pyNext_list_item (S.sat it _ h1) (S.isList h2) hx fun h' hit hs => ?_
    obtain ⟨o, ho, hc, hd⟩ := id hit
    refine go_plain ht ho hc hd (by decide) ?_
    refine h _ (upd C it (.lit l (i + 1))) G _ (S.put (s' := { s with heap := h' }) h1 hs hit S.gens S.os) KeepsBut.upd (.refl _) ⟨upd_same .., ?_⟩ (by simp [hi])
    rw [upd_ne (ne_of_cells h2 h1 (by intro q; cases q))]; exact h2
  done := fun {A g L m F C G O s Q E} hh _ S hI h => by
    obtain ⟨h1, h2⟩ := hI
    exact wpAny_pyNext_list_end hh (S.sat it _ h1) (S.isList h2) (by simp) fun h' hx => h _ _ _ (S.lose (tk := s.toks) h1 hx) KeepsBut.del (.refl _)
  self := fun {A g L m F C G O s Q E i} S hI h => wpAny_pyIter_listiter (S.sat it _ hI.1) h

theorem iter_keysI {d : Addr} {tg : Tag} {kvs : List (Int × Value)} {ep : Nat} (ht : TgOk t) : IterOk w 0 t it kvs.length (KeepsBut it) (fun i C _ => C it = some (.kit d i kvs.length ep) ∧ C d = some (.di tg kvs ep)) (fun i v _ => ∃ k u t, kvs[i]? = some (k, u) ∧ v = .int k t) where
  next := fun {A g L m F C G O s Q E i} _ _ S hI hi h => by
    obtain ⟨h1, h2⟩ := hI
    have hx : kvs[i]? = some (kvs[i].1, kvs[i].2) := by simp [hi]
    refine wpAny_pyNext_dict_item (S.sat it _ h1) (S.sat d _ h2) hx fun key h' hk hit hs => ?_
    obtain ⟨tk, rfl⟩ := Value.isInt_shape hk
    obtain ⟨o, ho, hc, hd⟩ := id hit
    refine go_plain ht ho hc hd (by decide) ?_
    refine h _ (upd C it (.kit d (i + 1) kvs.length ep)) G _ (S.put (s' := { s with heap := h' }) h1 hs hit S.gens S.os) KeepsBut.upd (.refl _) ⟨upd_same .., ?_⟩ ⟨_, _, tk, hx, rfl⟩
    rw [upd_ne (ne_of_cells h2 h1 (by intro q; cases q))]; exact h2
  done := fun {A g L m F C G O s Q E} hh _ S hI h => by
    obtain ⟨h1, h2⟩ := hI
    exact wpAny_pyNext_dict_end hh (S.sat it _ h1) (S.sat d _ h2) (by simp) fun h' hx => h _ _ _ (S.lose (tk := s.toks) h1 hx) KeepsBut.del (.refl _)
  self := fun {A g L m F C G O s Q E i} S hI h => by
    exact wpAny_pyIter_keyiter (S.sat it _ hI.1) h

theorem iter_valuesI {d : Addr} {tg : Tag} {kvs : List (Int × Value)} {ep : Nat} (ht : TgOk t) : IterOk w 0 t it kvs.length (KeepsBut it) (fun i C _ => C it = some (.vit d i kvs.length ep) ∧ C d = some (.di tg kvs ep)) (fun i v _ => ∃ k, kvs[i]? = some (k, v)) where
  next := fun {A g L m F C G O s Q E i} _ _ S hI hi h => by
    obtain ⟨h1, h2⟩ := hI
    have hx : kvs[i]? = some (kvs[i].1, kvs[i].2) := by simp [hi]
    refine wpAny_pyNext_values_item (S.sat it _ h1) (S.sat d _ h2) hx fun h' hit hs => ?_
    obtain ⟨o, ho, hc, hd⟩ := id hit
    refine go_plain ht ho hc hd (by decide) ?_
    refine h _ (upd C it (.vit d (i + 1) kvs.length ep)) G _ (S.put (s' := { s with heap := h' }) h1 hs hit S.gens S.os) KeepsBut.upd (.refl _) ⟨upd_same .., ?_⟩ ⟨_, hx⟩
    rw [upd_ne (ne_of_cells h2 h1 (by intro q; cases q))]; exact h2
  done := fun {A g L m F C G O s Q E} hh _ S hI h => by
    obtain ⟨h1, h2⟩ := hI
    exact wpAny_pyNext_values_end hh (S.sat it _ h1) (S.sat d _ h2) (by simp) fun h' hx => h _ _ _ (S.lose (tk := s.toks) h1 hx) KeepsBut.del (.refl _)
  self := fun {A g L m F C G O s Q E i} S hI h => by
    exact wpAny_pyIter_valiter (S.sat it _ hI.1) h

/-- pairs of a dict, taken apart by the target -/
theorem iter_itemsI {d : Addr} {tg : Tag} {kvs : List (Int × Value)} {ep : Nat} {elts : List PySem.Expr} {k : Nat} {p : Pos} : IterOk w 0 (.Tuple elts k p) it kvs.length (KeepsBut it)
    (fun i C _ => C it = some (.iit d i kvs.length ep) ∧ C d = some (.di tg kvs ep)) (fun i v C => ∃ a k u t, kvs[i]? = some (k, u) ∧ v = .ref a ∧ C a = some (.tup [.int k t, u])) where
  next := fun {A g L m F C G O s Q E i} _ _ S hI hi h => by
    obtain ⟨h1, h2⟩ := hI
    have hx : kvs[i]? = some (kvs[i].1, kvs[i].2) := by simp [hi]
    obtain ⟨ok, ov, hit⟩ := S.sat it _ h1
    refine wpAny_pyNext_items_item hit (S.sat d _ h2) hx fun key h' hk hit' htup hsz hkeep => ?_
    obtain ⟨tk, rfl⟩ := Value.isInt_shape hk
    have hlt := S.cellLt h1
    refine wpAny_letOwnedTupleGo_items hit' fun h'' hit'' hs => ?_
    have hlt' : s.heap.objs.size ≠ it := Nat.ne_of_gt hlt
    have S2 : St w g L m F (upd C it (.iit d (i + 1) kvs.length ep)) G O { s with heap := h'' } := S.putX h1 (fun b o hb e => hs.extBut b o hb (hkeep b o hb e)) ⟨_, _, hit''⟩ S.gens S.os
    have S3 := S2.learn S (a := s.heap.objs.size) (c := .tup [.int _ tk, _]) (Nat.le_refl _) (hs.extBut _ _ hlt' htup)
    refine h _ _ G _ S3 (KeepsBut.upd.trans (Ext.keepsBut (Ext.upd ?_))) (.refl _) ⟨?_, ?_⟩ ⟨_, _, _, tk, hx, rfl, upd_same ..⟩
    · rw [upd_ne hlt']; exact S.free
    · rw [upd_ne (Ne.symm hlt'), upd_same]
    · rw [upd_ne (Nat.ne_of_lt (S.cellLt h2)), upd_ne (ne_of_cells h2 h1 (by intro q; cases q))]; exact h2
  done := fun {A g L m F C G O s Q E} hh _ S hI h => by
    obtain ⟨h1, h2⟩ := hI
    obtain ⟨ok, ov, hit⟩ := S.sat it _ h1
    exact wpAny_pyNext_items_end hh hit (S.sat d _ h2) (by simp) fun h' hx => h _ _ _ (S.lose (tk := s.toks) h1 hx) KeepsBut.del (.refl _)
  self := fun {A g L m F C G O s Q E i} S hI h => by
    obtain ⟨ok, ov, hit⟩ := S.sat it _ hI.1
    exact kcp_self hit h
end
end Mine
end
section -- S2
open PySem PySem.W PySem.Calls PyProof.Rows
namespace Mine
section
variable {w : World} {g : Heap} {L L' : Addr} {m m' : List (Str × Value)} {F : List (Addr × List (Str × Value))} {C : Led} {G : Array GenState} {O : OsState} {s : Shared}
/-- a sleeping frame's names become the running frame's -/
theorem St.wake (S : St w g L m F C G O s) (hC : C L' = some (.ns m')) (hab : g.objs.size ≤ L') : St w g L' m' ((L, m) :: F) (del C L') G O s := by
  obtain ⟨⟨n1, n4⟩, n2, n3⟩ := S.off L' _ hC
  have hd : ∀ a c, del C L' a = some c → C a = some c ∧ a ≠ L' := fun a c e => by
    unfold Mine.del at e
    split at e
    · cases e
    · rename_i q; exact ⟨e, q⟩
  refine ⟨S.sat L' _ hC, S.keep, n2, fun p hp => ?_, fun a c e => S.sat a c (hd a c e).1, fun a c e => ⟨⟨(hd a c e).2, fun p hp => ?_⟩, (S.off a c (hd a c e).1).2⟩, n3 rfl, S.gens, S.os, hab, fun p hp => ?_⟩
  · rcases List.mem_cons.mp hp with rfl | hp
    · exact ⟨S.ns, Ne.symm n1, S.nl, S.hi⟩
    · obtain ⟨k1, _, k3⟩ := S.frs p hp; exact ⟨k1, Ne.symm (n4 p hp), k3⟩
  · rcases List.mem_cons.mp hp with rfl | hp
    · exact (S.off a c (hd a c e).1).1.1
    · exact (S.off a c (hd a c e).1).1.2 p hp
  · rcases List.mem_cons.mp hp with rfl | hp
    · exact S.ab.1
    · exact S.ab.2 p hp
/-- the running frame goes to sleep, its names told by a cell -/
theorem St.sleep {C₀ : Led} {G₀ : Array GenState} {s₀ : Shared} (S₀ : St w g L m F C₀ G₀ O s₀) (S : St w g L' m' ((L, m) :: F) C G O s) : St w g L m F (upd C L' (.ns m')) G O s := by
  obtain ⟨h1, h2, h3, h4⟩ := S.frs (L, m) (.head _)
  refine ⟨h1, S.keep, h3, fun p hp => ?_, fun a c e => ?_, fun a c e => ?_, h4, S.gens, S.os, S.ab.2 (L, m) (.head _), fun p hp => S.ab.2 p (.tail _ hp)⟩
  · obtain ⟨k1, _, k3⟩ := S.frs p (.tail _ hp)
    exact ⟨k1, (S₀.frs p hp).2.1, k3⟩
  · by_cases q : a = L'
    · subst q; rw [upd_same] at e; cases e; exact S.ns
    · rw [upd_ne q] at e; exact S.sat a c e
  · by_cases q : a = L'
    · subst q
      exact ⟨⟨Ne.symm h2, fun p hp => Ne.symm (S.frs p (.tail _ hp)).2.1⟩, S.nl, fun _ => S.hi⟩
    · rw [upd_ne q] at e
      obtain ⟨⟨_, k2⟩, k3⟩ := S.off a c e
      exact ⟨⟨k2 _ (.head _), fun p hp => k2 p (.tail _ hp)⟩, k3⟩
/-- a made object told by another cell -/
theorem St.recell (S : St w g L m F C G O s) {a : Addr} {c c' : Cell} (hC : C a = some c) (hc : Sat w s.heap a c') (hlow : c'.low = false → c.low = false := by intro h; first | rfl | exact h | cases h) : St w g L m F (upd C a c') G O s := by
  refine ⟨S.ns, S.keep, S.nl, S.frs, fun b d e => ?_, fun b d e => ?_, S.hi, S.gens, S.os, S.ab⟩
  · by_cases hb : b = a
    · subst hb; rw [upd_same] at e; cases e; exact hc
    · rw [upd_ne hb] at e; exact S.sat b d e
  · by_cases hb : b = a
    · subst hb; rw [upd_same] at e; cases e; exact let ⟨k1, k2, k3⟩ := S.off _ c hC; ⟨k1, k2, fun h => k3 (hlow h)⟩
    · rw [upd_ne hb] at e; exact S.off b d e
/-- the generators changed alone -/
theorem St.setG (S : St w g L m F C G O s) (G' : Array GenState) : St w g L m F C G' O { s with gens := G' } := ⟨S.ns, S.keep, S.nl, S.frs, S.sat, S.off, S.hi, rfl, S.os, S.ab⟩
end
end Mine
end
section -- C1
open PySem PySem.W PySem.Calls PyProof.Rows
namespace Mine
section
variable {w : World} {g : Heap} {L : Addr} {m : List (Str × Value)} {F : List (Addr × List (Str × Value))} {C : Led} {G : Array GenState} {O : OsState} {s : Shared} {A : Around} {E : Value → Shared → Prop} {env : Env}

/-- a loop: J is what is known ahead of each turn -/
theorem r_loopA {target : PySem.Expr} {body : List Stmt} {it : Addr} {n : Nat} {KP : Led → Led → Prop} {GR : Array GenState → Array GenState → Prop} {I : Nat → Led → Array GenState → Prop} {P : Nat → Value → Led → Prop} {R : Result → Shared → Prop}
    (W : IterAt w A g O target it n KP GR I P) (J : Nat → List (Str × Value) → Led → Array GenState → Prop)
    (S : St w g L m F C G O s) (hI : I 0 C G) (hJ : J 0 m C G)
    (step : ∀ i m C G C' G' v s E', i < n → I i C G → J i m C G → KP C C' → GR G G' → I (i + 1) C' G' → P i v C' → St w g L m F C' G' O s →
      wpAny (model PR w) A (assign target env v) (fun _ s₂ => wpAny (model PR w) A (execs body env) (fun f s₃ => match f with
        | .next | .cont => ∃ m' C'' G'', St w g L m' F C'' G'' O s₃ ∧ I (i + 1) C'' G'' ∧ J (i + 1) m' C'' G''
        | .brk => R (.ok .next) s₃
        | .ret v => R (.ok (.ret v)) s₃) E' s₂) E' s)
    (fin : ∀ m C G C' G' s, I n C G → J n m C G → KP C C' → GR G G' → St w g L m F C' G' O s → R (.ok .next) s) :
    codeAny (model PR w) A (.forLoop target (.ref it) body [] env) R s := by
  refine codeAny_forLoop_any (fun k s' => ∃ i m C G, k = n + 1 - i ∧ i ≤ n ∧ St w g L m F C G O s' ∧ I i C G ∧ J i m C G) ?_ (n + 1) ⟨0, m, C, G, rfl, Nat.zero_le _, S, hI, hJ⟩
  rintro k s' ⟨i, m, C, G, rfl, hi, S, hI, hJ⟩
  by_cases hin : i = n
  · subst hin
    exact W.done S hI fun C' G' s'' S' K' B' => wpAny_execs_nil (fin _ _ _ _ _ _ hI hJ K' B' S')
  · have hlt : i < n := Nat.lt_of_le_of_ne hi hin
    refine W.next (Q := fun r s₁ => match r with
      | none => wpAny (model PR w) A (execs [] env) (fun f s₃ => R (.ok f) s₃) (notedBy (model PR w) A env fun e s' => R (.error e) s') s₁
      | some v => wpAny (model PR w) A (assign target env v) (fun _ s₂ => wpAny (model PR w) A (execs body env) (fun f s₃ => match f with
            | .next | .cont => ∃ m', m' < n + 1 - i ∧ ∃ i m C G, m' = n + 1 - i ∧ i ≤ n ∧ St w g L m F C G O s₃ ∧ I i C G ∧ J i m C G
            | .brk => R (.ok .next) s₃
            | .ret v => R (.ok (.ret v)) s₃) (notedBy (model PR w) A env fun e s' => R (.error e) s') s₂) (notedBy (model PR w) A env fun e s' => R (.error e) s') s₁) S hI hlt
      fun v C' G' s₁ S' K' B' hI' hP => ?_
    refine wpAny_mono (step i m C G C' G' v s₁ _ hlt hI hJ K' B' hI' hP S') (fun _ s₂ h₂ => wpAny_mono h₂ (fun f s₃ h₃ => ?_) fun _ _ e => e) fun _ _ e => e
    cases f with
    | next => obtain ⟨m', C'', G'', h1, h2, h3⟩ := h₃; exact ⟨n + 1 - (i + 1), by omega, i + 1, m', C'', G'', rfl, hlt, h1, h2, h3⟩
    | cont => obtain ⟨m', C'', G'', h1, h2, h3⟩ := h₃; exact ⟨n + 1 - (i + 1), by omega, i + 1, m', C'', G'', rfl, hlt, h1, h2, h3⟩
    | brk => exact h₃
    | ret v => exact h₃

/-- the same over an iterator that is good anywhere -/
theorem r_loop {target : PySem.Expr} {body : List Stmt} {it : Addr} {n dd : Nat} {KP : Led → Led → Prop} {I : Nat → Led → Array GenState → Prop} {P : Nat → Value → Led → Prop} {R : Result → Shared → Prop}
    (W : IterOk w dd target it n KP I P) (J : Nat → List (Str × Value) → Led → Array GenState → Prop) (hh : A.handled = none) (hd : A.depth + dd < recursionLimit)
    (S : St w g L m F C G O s) (hI : I 0 C G) (hJ : J 0 m C G)
    (step : ∀ i m C G C' G' v s E', i < n → I i C G → J i m C G → KP C C' → GB G G' → I (i + 1) C' G' → P i v C' → St w g L m F C' G' O s →
      wpAny (model PR w) A (assign target env v) (fun _ s₂ => wpAny (model PR w) A (execs body env) (fun f s₃ => match f with
        | .next | .cont => ∃ m' C'' G'', St w g L m' F C'' G'' O s₃ ∧ I (i + 1) C'' G'' ∧ J (i + 1) m' C'' G''
        | .brk => R (.ok .next) s₃
        | .ret v => R (.ok (.ret v)) s₃) E' s₂) E' s)
    (fin : ∀ m C G C' G' s, I n C G → J n m C G → KP C C' → GB G G' → St w g L m F C' G' O s → R (.ok .next) s) :
    codeAny (model PR w) A (.forLoop target (.ref it) body [] env) R s :=
  r_loopA (W.at hh hd) J S hI hJ step fin

/-- what a block's names need: none is a cell of its own, each local once -/
def BlkOk (scope : Scope) (env : Env) (cl : List (Str × Addr)) : Prop := closureFor scope env = pure cl ∧ scope.kind = .function ∧ (∀ y ∈ scope.names, y.2 ≠ .cell) ∧ ∀ y ∈ scope.names, y.2 = .local → scope.names.lookup y.1 = some .local

theorem r_append {l : Addr} {vs : List Value} {x : Value} {Q : Value → Shared → Prop} (S : St w g L m F C G O s) (hl : C l = some (.lst vs)) (hz : vs.length ≤ 1000) (h : ∀ s', St w g L m F (upd C l (.lst (vs ++ [x]))) G O s' → Q .none s') :
    wpAny (model PR w) A (call (.builtin "list.append") [.ref l, x]) Q E s :=
  wpAny_list_append (S.isList hl) (fun h' hi hs => h _ (S.put (s' := { s with heap := h' }) hl hs (by show h'.IsList l _; simpa using hi) S.gens S.os)) (by rw [sizeLine_eq]; simp; omega)

/-- a list written by a comprehension, behind its iterator: J tells the list so far -/
theorem r_compRunA {elt target iter : PySem.Expr} {ifs : List PySem.Expr} {scope : Scope} {cl : List (Str × Addr)} {pos : Pos} {it : Addr} {n : Nat} {KP : Led → Led → Prop} {GR : Array GenState → Array GenState → Prop} {I : Nat → Led → Array GenState → Prop} {P : Nat → Value → Led → Prop} {Q : Value → Shared → Prop}
    (W : IterAt w A g O target it n KP GR I P) (J : Nat → Led → Array GenState → List Value → Prop) (hb : BlkOk scope env cl) (hn : n ≤ 1000)
    (S : St w g L m F C G O s) (hI : ∀ D, C D = none → I 0 (upd C D (.lst [])) G) (hJ : ∀ D, C D = none → J 0 (upd C D (.lst [])) G [])
    (hK : ∀ D C C' ys, C D = some (.lst ys) → KP C C' → C' D = some (.lst ys))
    (step : ∀ D Lc i mc C G C' G' v s E' ys, i < n → C D = some (.lst ys) → I i C G → J i C G ys → KP C C' → GR G G' → I (i + 1) C' G' → P i v C' → C' D = some (.lst ys) → St w g Lc mc ((L, m) :: F) C' G' O s →
      wpAny (model PR w) A (assign target (compEnvC scope cl Lc env) v) (fun _ s₂ =>
        wpAny (model PR w) A (forIn ifs true fun c r => if r = true then do let ok ← isTrue c (compEnvC scope cl Lc env) (eval c (compEnvC scope cl Lc env)); pure (ForInStep.yield ok) else pure (ForInStep.yield r)) (fun ok s₃ =>
          if ok = true then wpAny (model PR w) A (eval elt (compEnvC scope cl Lc env)) (fun x s₄ => ∃ mc' C'' G'', St w g Lc mc' ((L, m) :: F) C'' G'' O s₄ ∧ C'' D = some (.lst ys) ∧ I (i + 1) (upd C'' D (.lst (ys ++ [x]))) G'' ∧ J (i + 1) (upd C'' D (.lst (ys ++ [x]))) G'' (ys ++ [x])) E' s₃
          else ∃ mc' C'' G'', St w g Lc mc' ((L, m) :: F) C'' G'' O s₃ ∧ C'' D = some (.lst ys) ∧ I (i + 1) C'' G'' ∧ J (i + 1) C'' G'' ys) E' s₂) E' s)
    (fin : ∀ D C G C' G' s ys, I n C G → J n C G ys → KP C C' → GR G G' → C' D = some (.lst ys) → St w g L m F C' G' O s → Q (.ref D) s) :
    wpAny (model PR w) A (newList []) (fun acc s₃ => wpAny (model PR w) A (newFunctionEnv scope env.globals cl [] env.qual none .none (some env)) (fun cenv s₄ =>
      codeAny (model PR w) A (.compStart (.ListComp elt [⟨target, iter, ifs, 0⟩] scope pos) 0 (.ref it) acc { cenv with scope := relabel scope env }) (compPost (model PR w) A E none Q acc cenv.locals) s₄) E s₃) E s := by
  obtain ⟨hclos, hkind, hcell, hnames⟩ := hb
  refine wpAny_newObj_type (wpAny_newFunctionEnv hcell (by intro y hy; simp at hy) (fun h₁ hns₁ hsb₁ => ?_) hkind)
  have S0 : St w g L m F (upd C s.heap.objs.size (.lst [])) G O { s with heap := s.heap.push { cls := .type "list", data := .seq ([] : List Value).toArray } } := S.new (Nat.le_refl _) (fun _ _ e => Heap.get?_push_of_some _ e) ⟨_, Heap.get?_push_size _ rfl, rfl, 0, rfl⟩ S.gens S.os
  have S1 : ∀ tk, St w g (s.heap.push { cls := .type "list", data := .seq ([] : List Value).toArray }).objs.size [] ((L, m) :: F) (upd C s.heap.objs.size (.lst [])) G O { s with heap := h₁, toks := tk } := fun tk =>
    S0.into (Nat.le_refl _) (fun b o e => hsb₁.extBut b o (Nat.ne_of_lt (Heap.lt_size e)) (Heap.get?_push_of_some _ e)) ⟨_, hns₁, fun _ _ e => by cases e⟩ S.gens S.os
  have I1 := hI _ S.free
  have J1 := hJ _ S.free
  have D1 : upd C s.heap.objs.size (.lst []) s.heap.objs.size = some (.lst []) := upd_same ..
  generalize hC1 : upd C s.heap.objs.size (.lst []) = C1 at S1 I1 J1 D1
  have hX : sizeLine = sizeLine := rfl
  have loop : ∀ s₃ : Shared, St w g (s.heap.push { cls := .type "list", data := .seq ([] : List Value).toArray }).objs.size [] ((L, m) :: F) C1 G O s₃ →
      codeAny (model PR w) A (.compLoop (.ListComp elt [⟨target, iter, ifs, 0⟩] scope pos) 0 (.ref it) (.ref s.heap.objs.size) (compEnvC scope cl (s.heap.push { cls := .type "list", data := .seq ([] : List Value).toArray }).objs.size env))
        (compPost (model PR w) A E none Q (.ref s.heap.objs.size) (s.heap.push { cls := .type "list", data := .seq ([] : List Value).toArray }).objs.size) s₃ := by
    generalize (s.heap.push { cls := .type "list", data := .seq ([] : List Value).toArray }).objs.size = Lc
    generalize s.heap.objs.size = D at D1
    intro s₃ S3
    refine codeAny_loop rfl (fun k s' => ∃ i mc C G ys, k = n + 1 - i ∧ i ≤ n ∧ ys.length ≤ i ∧ St w g Lc mc ((L, m) :: F) C G O s' ∧ I i C G ∧ J i C G ys ∧ C D = some (.lst ys)) (fun k s' hk => ?_) (n + 1) ⟨0, [], C1, G, [], rfl, Nat.zero_le _, Nat.le_refl _, S3, I1, J1, D1⟩
    obtain ⟨i, mc, C2, G2, ys, rfl, hi, hy, S2, I2, J2, D2⟩ := hk
    show wpAny _ A ((compTurn (.ListComp elt [⟨target, iter, ifs, 0⟩] scope pos) 0 (.ref it) (.ref D) (compEnvC scope cl Lc env)).onRaise (fun x => do noteFrame x (compEnvC scope cl Lc env); theTreesLotGoes x)) _ _ s'
    refine wpAny_noted ?_
    rw [compTurn_list]
    refine wpAny_bind (wpAny_standAt (wpAny_bind ?_))
    by_cases hin : i = n
    · subst hin
      refine W.done S2 I2 fun C' G' s'' S' K' B' => wpAny_pure ?_
      obtain ⟨m₀, hm₀, _⟩ := S'.ns
      refine ⟨m₀, hm₀, fun h' hs' => ?_⟩
      exact fin D C2 G2 C' G' _ ys I2 J2 K' B' (hK _ _ _ _ D2 K') (S.popX S' hs' S'.gens S'.os)
    · have hlt : i < n := Nat.lt_of_le_of_ne hi hin
      have turn := W.next (E := notedBy (model PR w) A (compEnvC scope cl Lc env) fun e s' => compPost (model PR w) A E none Q (.ref D) Lc (.error e) s') (Q := fun r s₁ => match r with
        | none => False
        | some v => wpAny (model PR w) A (assign target (compEnvC scope cl Lc env) v) (fun _ s₂ =>
          wpAny (model PR w) A (forIn ifs true fun c r => if r = true then do let ok ← isTrue c (compEnvC scope cl Lc env) (eval c (compEnvC scope cl Lc env)); pure (ForInStep.yield ok) else pure (ForInStep.yield r)) (fun ok s₃ =>
            if ok = true then wpAny (model PR w) A (eval elt (compEnvC scope cl Lc env)) (fun x s₄ =>
              wpAny (model PR w) A (call (.builtin "list.append") [.ref D, x]) (fun _ s₅ => ∃ k', k' < n + 1 - i ∧ ∃ i mc C G ys, k' = n + 1 - i ∧ i ≤ n ∧ ys.length ≤ i ∧ St w g Lc mc ((L, m) :: F) C G O s₅ ∧ I i C G ∧ J i C G ys ∧ C D = some (.lst ys)) (notedBy (model PR w) A (compEnvC scope cl Lc env) fun e s' => compPost (model PR w) A E none Q (.ref D) Lc (.error e) s') s₄) (notedBy (model PR w) A (compEnvC scope cl Lc env) fun e s' => compPost (model PR w) A E none Q (.ref D) Lc (.error e) s') s₃
            else ∃ k', k' < n + 1 - i ∧ ∃ i mc C G ys, k' = n + 1 - i ∧ i ≤ n ∧ ys.length ≤ i ∧ St w g Lc mc ((L, m) :: F) C G O s₃ ∧ I i C G ∧ J i C G ys ∧ C D = some (.lst ys)) (notedBy (model PR w) A (compEnvC scope cl Lc env) fun e s' => compPost (model PR w) A E none Q (.ref D) Lc (.error e) s') s₂)
            (notedBy (model PR w) A (compEnvC scope cl Lc env) fun e s' => compPost (model PR w) A E none Q (.ref D) Lc (.error e) s') s₁) S2 I2 hlt
        fun v C' G' s₁ S' K' B' hI' hP => by
          refine wpAny_mono (step D Lc i mc C2 G2 C' G' v s₁ _ ys hlt D2 I2 J2 K' B' hI' hP (hK _ _ _ _ D2 K') S') (fun _ s₂ h₂ => wpAny_mono h₂ (fun ok s₃ h₃ => ?_) fun _ _ e => e) fun _ _ e => e
          cases ok with
          | false =>
            rw [if_neg Bool.false_ne_true] at h₃ ⊢
            obtain ⟨mc', C'', G'', k1, k2, k3, k4⟩ := h₃
            exact ⟨n + 1 - (i + 1), by omega, i + 1, mc', C'', G'', ys, rfl, hlt, by omega, k1, k3, k4, k2⟩
          | true =>
            rw [if_pos rfl] at h₃ ⊢
            refine wpAny_mono h₃ (fun x s₄ h₄ => ?_) fun _ _ e => e
            obtain ⟨mc', C'', G'', k1, k2, k3, k4⟩ := h₄
            refine r_append k1 k2 (by omega) fun s₅ S5 => ?_
            exact ⟨n + 1 - (i + 1), by omega, i + 1, mc', _, G'', ys ++ [x], rfl, hlt, by simp; omega, S5, k3, k4, upd_same ..⟩
      refine wpAny_mono turn (fun r s₁ h₁ => ?_) fun _ _ e => e
      cases r with
      | none => exact h₁.elim
      | some v =>
        refine wpAny_bind (wpAny_mono h₁ (fun _ s₂ h₂ => wpAny_bind (wpAny_mono h₂ (fun _ s₃ h₃ => wpAny_bind (wpAny_mono h₃ (fun ok s₄ h₄ => ?_) fun _ _ e => e)) fun _ _ e => e)) fun _ _ e => e)
        cases ok with
        | false => exact wpAny_pure ⟨rfl, h₄⟩
        | true => exact wpAny_bind (wpAny_bind (wpAny_mono h₄ (fun x s₅ h₅ => wpAny_bind (wpAny_mono h₅ (fun _ s₆ h₆ => wpAny_pure (wpAny_pure ⟨rfl, h₆⟩)) fun _ _ h' => h')) fun _ _ h' => h'))
  exact codeAny_compStart_list (loop _ (S1 _)) (W.self (S1 _) I1 (loop _ (S1 _)))

/-- the same over an iterator that is good anywhere -/
theorem r_compRun {elt target iter : PySem.Expr} {ifs : List PySem.Expr} {scope : Scope} {cl : List (Str × Addr)} {pos : Pos} {it : Addr} {n dd : Nat} {KP : Led → Led → Prop} {I : Nat → Led → Array GenState → Prop} {P : Nat → Value → Led → Prop} {Q : Value → Shared → Prop}
    (W : IterOk w dd target it n KP I P) (J : Nat → Led → Array GenState → List Value → Prop) (hb : BlkOk scope env cl) (hh : A.handled = none) (hd : A.depth + dd < recursionLimit) (hn : n ≤ 1000)
    (S : St w g L m F C G O s) (hI : ∀ D, C D = none → I 0 (upd C D (.lst [])) G) (hJ : ∀ D, C D = none → J 0 (upd C D (.lst [])) G [])
    (hK : ∀ D C C' ys, C D = some (.lst ys) → KP C C' → C' D = some (.lst ys))
    (step : ∀ D Lc i mc C G C' G' v s E' ys, i < n → C D = some (.lst ys) → I i C G → J i C G ys → KP C C' → GB G G' → I (i + 1) C' G' → P i v C' → C' D = some (.lst ys) → St w g Lc mc ((L, m) :: F) C' G' O s →
      wpAny (model PR w) A (assign target (compEnvC scope cl Lc env) v) (fun _ s₂ =>
        wpAny (model PR w) A (forIn ifs true fun c r => if r = true then do let ok ← isTrue c (compEnvC scope cl Lc env) (eval c (compEnvC scope cl Lc env)); pure (ForInStep.yield ok) else pure (ForInStep.yield r)) (fun ok s₃ =>
          if ok = true then wpAny (model PR w) A (eval elt (compEnvC scope cl Lc env)) (fun x s₄ => ∃ mc' C'' G'', St w g Lc mc' ((L, m) :: F) C'' G'' O s₄ ∧ C'' D = some (.lst ys) ∧ I (i + 1) (upd C'' D (.lst (ys ++ [x]))) G'' ∧ J (i + 1) (upd C'' D (.lst (ys ++ [x]))) G'' (ys ++ [x])) E' s₃
          else ∃ mc' C'' G'', St w g Lc mc' ((L, m) :: F) C'' G'' O s₃ ∧ C'' D = some (.lst ys) ∧ I (i + 1) C'' G'' ∧ J (i + 1) C'' G'' ys) E' s₂) E' s)
    (fin : ∀ D C G C' G' s ys, I n C G → J n C G ys → KP C C' → GB G G' → C' D = some (.lst ys) → St w g L m F C' G' O s → Q (.ref D) s) :
    wpAny (model PR w) A (newList []) (fun acc s₃ => wpAny (model PR w) A (newFunctionEnv scope env.globals cl [] env.qual none .none (some env)) (fun cenv s₄ =>
      codeAny (model PR w) A (.compStart (.ListComp elt [⟨target, iter, ifs, 0⟩] scope pos) 0 (.ref it) acc { cenv with scope := relabel scope env }) (compPost (model PR w) A E none Q acc cenv.locals) s₄) E s₃) E s :=
  r_compRunA (W.at hh hd) J hb hn S hI hJ hK step fin
end
end Mine
end
section -- C2
open PySem PySem.W PySem.Calls PyProof.Rows
namespace Mine
section
variable {w : World} {g : Heap} {L : Addr} {m : List (Str × Value)} {F : List (Addr × List (Str × Value))} {C : Led} {G : Array GenState} {O : OsState} {s : Shared} {A : Around} {E : Value → Shared → Prop} {env : Env} {Q : Value → Shared → Prop}

theorem push1 {it : Addr} {C : Led} {c c' : Cell} {d : Addr} (hit : C it = none) (hd : C d = some c') : upd C it c it = some c ∧ upd C it c d = some c' := ⟨upd_same .., upd_old hd hit⟩

theorem r_iterL {l : Addr} {vs : List Value} (S : St w g L m F C G O s) (hl : C l = some (.lst vs)) (h : ∀ it s', C it = none → St w g L m F (upd C it (.lit l 0)) G O s' → Q (.ref it) s') : wpAny (model PR w) A (pyIter (.ref l)) Q E s :=
  wpAny_pyIter_list (S.isList hl) (h _ _ S.free (S.push (t := s.toks) ⟨_, Heap.get?_push_size _ rfl, rfl, rfl⟩))
theorem r_iterD {d : Addr} {tg : Tag} {kvs : List (Int × Value)} {ep : Nat} (S : St w g L m F C G O s) (hd : C d = some (.di tg kvs ep)) (h : ∀ it s', C it = none → St w g L m F (upd C it (.kit d 0 kvs.length ep)) G O s' → Q (.ref it) s') : wpAny (model PR w) A (pyIter (.ref d)) Q E s :=
  wpAny_pyIter_dict (S.notMods hd) (S.sat d _ hd) (h _ _ S.free (S.push (t := s.toks) ⟨_, Heap.get?_push_size _ rfl, rfl, rfl⟩))
theorem r_iterV {v d : Addr} {tg : Tag} {kvs : List (Int × Value)} {ep : Nat} (S : St w g L m F C G O s) (hv : C v = some (.obj (valuesView d))) (hd : C d = some (.di tg kvs ep)) (h : ∀ it s', C it = none → St w g L m F (upd C it (.vit d 0 kvs.length ep)) G O s' → Q (.ref it) s') : wpAny (model PR w) A (pyIter (.ref v)) Q E s :=
  wpAny_pyIter_values ⟨_, S.sat v _ hv, rfl, rfl⟩ (S.sat d _ hd) (h _ _ S.free (S.push (t := s.toks) ⟨_, Heap.get?_push_size _ rfl, rfl, rfl⟩))
theorem r_iterI {v d : Addr} {tg : Tag} {kvs : List (Int × Value)} {ep : Nat} (S : St w g L m F C G O s) (hv : C v = some (.obj (itemsView d))) (hd : C d = some (.di tg kvs ep)) (h : ∀ it s', C it = none → St w g L m F (upd C it (.iit d 0 kvs.length ep)) G O s' → Q (.ref it) s') : wpAny (model PR w) A (pyIter (.ref v)) Q E s :=
  wpAny_pyIter_items ⟨_, S.sat v _ hv, rfl, rfl⟩ (S.sat d _ hd) (h _ _ S.free (S.push (t := s.toks) ⟨_, _, Heap.get?_push_size _ rfl⟩))

abbrev rangeObj (n : Int) (t u v : Tok) : Obj := { cls := .type "range", dict := none, data := .fields #[.int 0 t, .int n u, .int 1 v], slots := #[] }
abbrev rangeIt (x left : Int) : Obj := { cls := .type "range_iterator", dict := none, data := .fields #[rawInt x, rawInt left, rawInt 1], slots := #[] }
theorem r_range {n : Nat} {t : Tok} (S : St w g L m F C G O s) (hn : n ≤ 1000) (h : ∀ r s' t u v, C r = none → St w g L m F (upd C r (.obj (rangeObj n t u v))) G O s' → Q (.ref r) s') : wpAny (model PR w) A (call (.type "range") [.int n t]) Q E s :=
  call_range_1 (h _ _ _ _ _ S.free (S.pushObj (rangeObj n _ _ _) _))
theorem r_iterR {r : Addr} {n : Nat} {t u v : Tok} (S : St w g L m F C G O s) (hr : C r = some (.obj (rangeObj n t u v))) (hn : n ≤ 1000) (h : ∀ it s', C it = none → St w g L m F (upd C it (.obj (rangeIt 0 n))) G O s' → Q (.ref it) s') : wpAny (model PR w) A (pyIter (.ref r)) Q E s := by
  have e : Builtin.Range.rangeSize 0 (n : Int) 1 = n := by rw [rangeSize_one]; split <;> omega
  refine wpAny_pyIter_range (S.sat r _ hr) (small_one (by omega) (by omega) (by omega) (by omega)) ?_
  rw [e]
  exact h _ _ S.free (S.pushObj (rangeIt 0 n) s.toks)
theorem iter_range {t : PySem.Expr} {it : Addr} {n : Nat} (ht : TgOk t) : IterOk w 0 t it n (KeepsBut it) (fun i C _ => C it = some (.obj (rangeIt i ((n : Int) - i)))) (fun i v _ => ∃ u, v = .int i u) where
  next := fun {A g L m F C G O s Q E i} _ _ S hI hi h => by
    refine wpAny_pyNext_range_item (S.sat it _ hI) (by omega) fun h' hit hs => ?_
    refine go_plain ht hit rfl rfl (by decide) ?_
    have e : (i : Int) + 1 = ((i + 1 : Nat) : Int) ∧ (n : Int) - i - 1 = (n : Int) - ((i + 1 : Nat) : Int) := ⟨by omega, by omega⟩
    rw [e.1, e.2] at hit
    exact h _ (upd C it (.obj (rangeIt ((i + 1 : Nat) : Int) ((n : Int) - ((i + 1 : Nat) : Int))))) G _ (S.put (s' := { s with heap := h', toks := s.toks + 1 }) hI hs hit S.gens S.os) KeepsBut.upd (.refl _) (upd_same ..) ⟨_, rfl⟩
  done := fun {A g L m F C G O s Q E} hh _ S hI h =>
    wpAny_pyNext_range_end hh (S.sat it _ hI) (by omega) fun h' hx => h _ _ _ (S.lose (tk := s.toks) hI hx) KeepsBut.del (.refl _)
  self := fun {A g L m F C G O s Q E i} S hI h => wpAny_pyIter_rangeiter (S.sat it _ hI) h

/-- targets -/
theorem r_asN {x : Str} {p : Pos} {v : Value} {Q : Unit → Shared → Prop} (S : St w g L m F C G O s) (h : ∀ s', St w g L ((x, v) :: m) F C G O s' → Q () s')
    (hk : env.scope.kind = .function := by rfl) (hx : env.kindOf x = some .local := by rfl) (hL : env.locals = L := by rfl) : wpAny (model PR w) A (assign (.Name x p) env v) Q E s :=
  wpAny_assign_Name (r_store S h hk hx hL)
theorem r_asP {x y : Str} {p1 p2 p3 : Pos} {k : Nat} {t : Addr} {v1 v2 : Value} {Q : Unit → Shared → Prop} (S : St w g L m F C G O s) (hh : A.handled = none) (ht : C t = some (.tup [v1, v2])) (h : ∀ s', St w g L ((y, v2) :: (x, v1) :: m) F C G O s' → Q () s')
    (hk : env.scope.kind = .function := by rfl) (hx : env.kindOf x = some .local := by rfl) (hy : env.kindOf y = some .local := by rfl) (hL : env.locals = L := by rfl) :
    wpAny (model PR w) A (assign (.Tuple [.Name x p1, .Name y p2] k p3) env (.ref t)) Q E s := by
  refine r_assignT S hh ht rfl rfl fun s1 S1 => ?_
  show wpAny _ _ (assignInOrder [assign (.Name x p1) env, assign (.Name y p2) env] [v1, v2]) _ _ _
  refine assignInOrder_cons (r_asN S1 (fun s2 S2 => ?_) hk hx hL)
  refine assignInOrder_cons (r_asN S2 (fun s3 S3 => ?_) hk hy hL)
  exact assignInOrder_nil (h _ S3)
end
end Mine
end
section -- E1
open PySem PySem.W PySem.Calls PyProof.Rows
namespace Mine
/-- a heap with some of its objects hidden -/
def hideP (h : Heap) (P : Addr → Bool) : Heap := ⟨h.objs.mapIdx fun i o => if P i then { o with data := .freed } else o, h.life⟩
theorem hideP_in {h : Heap} {P : Addr → Bool} {a : Addr} (ha : P a = true) : (hideP h P).get? a = none := by
  cases e : (hideP h P).get? a with
  | none => rfl
  | some o =>
    obtain ⟨e1, e2⟩ := Heap.get?_some_iff.mp e
    simp only [hideP, Array.getElem?_mapIdx, Option.map_eq_some_iff, ha, if_true] at e1
    obtain ⟨o', _, rfl⟩ := e1
    cases e2
theorem hideP_out {h : Heap} {P : Addr → Bool} {a : Addr} (ha : P a = false) : (hideP h P).get? a = h.get? a := by
  have key : ∀ o, (hideP h P).get? a = some o ↔ h.get? a = some o := fun o => by
    rw [Heap.get?_some_iff, Heap.get?_some_iff]
    simp only [hideP, Array.getElem?_mapIdx, ha, Bool.false_eq_true, if_false, Option.map_id']
  cases e : h.get? a with
  | some o => exact (key o).mpr e
  | none =>
    cases e' : (hideP h P).get? a with
    | none => rfl
    | some o => rw [(key o).mp e'] at e; cases e
theorem of_hideP {h : Heap} {P : Addr → Bool} {a : Addr} {o : Obj} (e : (hideP h P).get? a = some o) : h.get? a = some o := by
  cases q : P a with
  | true => rw [hideP_in q] at e; cases e
  | false => rw [hideP_out q] at e; exact e

/-- the frames' own dicts -/
def frP (L : Addr) (F : List (Addr × List (Str × Value))) : Addr → Bool := fun a => a == L || F.any fun p => a == p.1
theorem frP_L {L : Addr} {F : List (Addr × List (Str × Value))} : frP L F L = true := by simp [frP]
theorem frP_F {L : Addr} {F : List (Addr × List (Str × Value))} {p : Addr × List (Str × Value)} (h : p ∈ F) : frP L F p.1 = true := by
  unfold frP; rw [Bool.or_eq_true]; exact .inr (List.any_eq_true.mpr ⟨p, h, beq_self_eq_true _⟩)
theorem frP_no {L : Addr} {F : List (Addr × List (Str × Value))} {a : Addr} (h1 : a ≠ L) (h2 : ∀ p ∈ F, a ≠ p.1) : frP L F a = false := by
  unfold frP
  rw [Bool.or_eq_false_iff]
  refine ⟨beq_eq_false_iff_ne.mpr h1, List.any_eq_false.mpr fun p hp => ?_⟩
  rw [beq_iff_eq]; exact h2 p hp

theorem NsLe.slots {h h' : Heap} {L : Addr} {m : List (Str × Value)} (x : NsLe h L m) (up : h.UpToSlots h') : NsLe h' L m := let ⟨m₀, hn, hm⟩ := x; ⟨m₀, up.ns hn, hm⟩

/-- a floor that holds all that the state tells, but the frames' dicts -/
structure Floor (w : World) (g : Heap) (L : Addr) (F : List (Addr × List (Str × Value))) (C : Led) (B : Heap) : Prop where
  keep : ∀ b o, g.get? b = some o → B.get? b = some o
  sat : ∀ a c, C a = some c → Sat w B a c

section
variable {w : World} {g : Heap} {L : Addr} {m : List (Str × Value)} {F : List (Addr × List (Str × Value))} {C : Led} {G : Array GenState} {O : OsState} {s : Shared} {A : Around} {E : Value → Shared → Prop} {env : Env} {frs : List Env}

theorem St.floor (S : St w g L m F C G O s) : Floor w g L F C (hideP s.heap (frP L F)) := by
  refine ⟨fun b o e => ?_, fun a c e => (S.sat a c e).move fun o q => ?_⟩
  · rw [hideP_out (frP_no (fun q => by rw [q, S.nl] at e; cases e) fun p hp q => by rw [q, (S.frs p hp).2.2.1] at e; cases e)]; exact S.keep b o e
  · rw [hideP_out (frP_no (S.off a c e).1.1 (S.off a c e).1.2)]; exact q
theorem St.funFrames {B : Heap} (S : St w g L m F C G O s) (hB : B.get? L = none ∧ ∀ p ∈ F, B.get? p.1 = none) : ∀ {frs : List Env}, Frs frs L F → s.heap.FunFrames B frs
  | [], _ => trivial
  | env :: frs, h => by
    obtain ⟨h1, L', h2, h3⟩ := h env (.head _)
    refine ⟨h1, ⟨L', ?_⟩, S.funFrames hB fun e he => h e (.tail _ he)⟩
    rcases h3 with rfl | ⟨m', hm⟩
    · obtain ⟨m₀, ⟨o, es, ep, ho, hd, _⟩, _⟩ := S.ns
      exact ⟨o, h2, hB.1, ho, fun vs q => by rw [hd] at q; cases q⟩
    · obtain ⟨⟨m₀, ⟨o, es, ep, ho, hd, _⟩, _⟩, _⟩ := S.frs _ hm
      exact ⟨o, h2, hB.2 _ hm, ho, fun vs q => by rw [hd] at q; cases q⟩
/-- behind steps that keep the floor and all dicts up to their slots -/
theorem St.onFloor {B : Heap} {s' : Shared} (S : St w g L m F C G O s) (hB : Floor w g L F C B) (k : B.StaysIn s'.heap) (up : s.heap.UpToSlots s'.heap) (hg : s'.gens = G) (ho : s'.os = O) : St w g L m F C G O s' :=
  ⟨S.ns.slots up, fun b o e => k b o (hB.keep b o e), S.nl, fun p hp => ⟨(S.frs p hp).1.slots up, (S.frs p hp).2⟩, fun a c e => (hB.sat a c e).move fun o q => k a o q, S.off, S.hi, hg, ho, S.ab⟩

/-- a new exception noted in the frame that it was raised in -/
theorem note_first {B : Heap} {outer : List Env} {L' e : Addr} {oe : Obj} {vs : Array Value} {a0 : Value} {Q : Unit → Shared → Prop} {M : Model}
    (hfr : A.frames = some (env :: outer)) (hl : s.heap.FunFrames B (env :: outer)) (hf : env.frame = some L') (he : s.heap.get? e = some oe) (hkb : B.StaysIn s.heap) (hen : B.get? e = none) (hd : oe.data = .fields vs) (h1 : vs[1]? = some .none) (h0 : vs[0]? = some a0)
    (h : ∀ h', Heap.NotedW B (env :: outer) e oe.cls a0 (rawInt L') s.heap h' → Q () { s with heap := h' }) : wpAny M A (noteFrame (.ref e) env) Q E s := by
  unfold noteFrame
  simp only [hf]
  refine wpAny_bind (wpAny_field he hd h1 ?_)
  rw [if_neg (by decide)]
  exact wpAny_entryW hfr hl hf he hkb hen hd (Array.getElem?_eq_some_iff.mp h1).1 h0 h

/-- raised here by an operation, caught here by a clause that names a builtin class and binds no name -/
theorem caught_here {K : Frag} {p : Program} {loose : List Str} {mg mb : Str → Option Value} {X T : String} {x : Str} {np pos : Pos} {b₀ : Stmt} {suite : List Stmt} {rest : List ExceptHandler} {outer : List Env} {e L' : Addr} {h' : Heap} {tk : Nat} {Q : Flow → Shared → Prop}
    (S : St w g L m F C G O s) (D : Wd K p loose mg mb g) (B : Frs (env :: outer) L F) (hfr : A.frames = some (env :: outer)) (hf : env.frame = some L') (hx : Heap.NewExc s.heap h' e X)
    (hexc : isSubtype (.type T) (.type "BaseException") = pure true) (hnt : isSubtype (.type ((Manifest.find? T).elim "type" fun y => y.metatype)) (.type "tuple") = pure false) (hsub : isSubtype (.type X) (.type T) = pure true)
    (hK : nsIn K mainGlobals x = some none) (hv : bootBuiltins x = some (.type T)) (hn : x ≠ "__name__")
    (k : ∀ s', St w g L m F C G O s' → wpAny (model PR w) (A.mark (some (.ref e))) (execs (b₀ :: suite) env) Q (notedBy (model PR w) (A.mark (some (.ref e))) env (cameBackBy (model PR w) A env E)) s')
    (hk : env.scope.kind = .function := by rfl) (hkx : env.kindOf x = some .globalImplicit := by rfl) (hd : (x == ("__debug__" : Str)) = false := by decide) (hg : env.globals = mainGlobals := by rfl) (hb : env.builtins = builtinsNs := by rfl) :
    wpAny (model PR w) A (noteFrame (.ref e) env) (fun _ s₂ => wpAny (model PR w) A (setFlight (.ref e) none) (fun _ s₃ =>
      wpAny (model PR w) A (handleBy (.ref e) env (.ExceptHandler (some (.Name x np)) none (b₀ :: suite) pos :: rest)) Q E s₃) E s₂) E { s with heap := h', toks := tk } := by
  have fl := S.floor
  have hBn : (hideP s.heap (frP L F)).get? L = none ∧ ∀ p ∈ F, (hideP s.heap (frP L F)).get? p.1 = none := ⟨hideP_in frP_L, fun p hp => hideP_in (frP_F hp)⟩
  have S1 : St w g L m F C G O { s with heap := h', toks := tk } := S.grown hx.keeps S.gens S.os
  have hkb : (hideP s.heap (frP L F)).StaysIn h' := fun b o q => hx.keeps b o (of_hideP q)
  have ff := S1.funFrames hBn B
  have hen : (hideP s.heap (frP L F)).get? e = none := by
    cases q : (hideP s.heap (frP L F)).get? e with
    | none => rfl
    | some o => have := of_hideP q; rw [hx.new] at this; cases this
  generalize hideP s.heap (frP L F) = B0 at fl hBn hkb ff hen
  obtain ⟨oe, t, he, hc, hdt⟩ := hx.there
  refine note_first hfr ff hf he hkb hen hdt rfl rfl fun h2 hN => ?_
  obtain ⟨n1, n2, n3, n4⟩ := hN
  rw [hc] at n3
  refine wpAny_landsW (base := B0) (l := env :: outer) ⟨n1, hen, n2, n3⟩ fun h3 f3 u3 => ?_
  have S3 : St w g L m F C G O { s with heap := h3, toks := tk } := S1.onFloor fl f3.1 (Heap.UpToSlots.trans n4 u3) S.gens S.os
  obtain ⟨ob, hob, hobc⟩ := f3.there
  refine wpAny_handleBy_builtin (X := X) (T := T) (b := true) hexc hnt hsub (r_bi S3 D hK hv hn ⟨rfl, ⟨ob, hob, hobc⟩, ?_⟩ hk hkx hd hg hb)
  rw [if_pos rfl]
  refine lands_againW f3 fun h4 f4 u4 => ?_
  exact k _ (S3.onFloor fl f4.1 u4 S.gens S.os)
end
end Mine
end
section -- X1
open PySem PySem.W PySem.Calls PyProof.Rows
namespace Mine
section
variable {w : World} {g : Heap} {L : Addr} {m : List (Str × Value)} {F : List (Addr × List (Str × Value))} {C : Led} {G : Array GenState} {O : OsState} {s : Shared} {A : Around} {E : Value → Shared → Prop} {env : Env} {outer : List Env} {e L' : Addr}

theorem frs_mem {frs : List Env} (B : Frs frs L F) {a : Addr} (h : a ∈ frs.filterMap (·.frame)) : a = L ∨ ∃ m, (a, m) ∈ F := by
  obtain ⟨env, he, hf⟩ := List.mem_filterMap.mp h
  obtain ⟨_, L', h2, h3⟩ := B env he
  rw [hf] at h2; cases h2; exact h3
/-- frames change but for their slots -/
theorem St.slots (S : St w g L m F C G O s) {frs : List Env} (B : Frs frs L F) {h' : Heap} (hs : Heap.SlotsOnly (frs.filterMap (·.frame)) s.heap h') : St w g L m F C G O { s with heap := h' } := by
  have up : s.heap.UpToSlots h' := fun b o e _ => hs.2.2 b o e
  have off : ∀ b, b ≠ L → (∀ p ∈ F, b ≠ p.1) → h'.get? b = s.heap.get? b := fun b h1 h2 => hs.2.1 b fun hm => by
    rcases frs_mem B hm with rfl | ⟨m, hm⟩
    · exact h1 rfl
    · exact h2 _ hm rfl
  refine ⟨S.ns.slots up, fun b o e => ?_, S.nl, fun p hp => ⟨(S.frs p hp).1.slots up, (S.frs p hp).2⟩, fun a c e => (S.sat a c e).move fun o q => ?_, S.off, S.hi, S.gens, S.os, S.ab⟩
  · show h'.get? b = some o
    rw [off b (by rintro rfl; rw [S.nl] at e; cases e) (fun p hp => by rintro rfl; rw [(S.frs p hp).2.2.1] at e; cases e)]
    exact S.keep b o e
  · show h'.get? a = some o
    rw [off a (S.off a c e).1.1 (S.off a c e).1.2]; exact q
theorem r_frameOf {Q : Value → Shared → Prop} (S : St w g L m F C G O s) (hfr : A.frames = some (env :: outer)) (B : Frs (env :: outer) L F) (hf : env.frame = some L') (h : ∀ s', St w g L m F C G O s' → Q (.ref L') s') : wpAny (model PR w) A (frameOf env) Q E s := by
  have hBn : (hideP s.heap (frP L F)).get? L = none ∧ ∀ p ∈ F, (hideP s.heap (frP L F)).get? p.1 = none := ⟨hideP_in frP_L, fun p hp => hideP_in (frP_F hp)⟩
  exact wpAny_frameOf_fun hfr (S.funFrames hBn B) hf fun h' hs => h _ (S.slots B hs)
theorem r_setField {Q : Unit → Shared → Prop} {o : Obj} {vs : Array Value} {i : Nat} {v : Value} (S : St w g L m F C G O s) (hC : C e = some (.exo o)) (hd : o.data = .fields vs) (hi : i < vs.size)
    (h : ∀ s', St w g L m F (upd C e (.exo (Obj.mapFields (·.setIfInBounds i v) o))) G O s' → Q () s') : wpAny (model PR w) A (setField (.ref e) i v) Q E s :=
  wpAny_setField (S.sat e _ hC) hd hi (h _ (S.put (s' := { s with heap := s.heap.update e (Obj.mapFields (·.setIfInBounds i v)) }) hC (Heap.SameBut.update ..) (Heap.get?_update_self _ (S.sat e _ hC) (Obj.isFreed_of_fields (Obj.data_mapFields hd _))) S.gens S.os))
theorem r_field {Q : Value → Shared → Prop} {o : Obj} {vs : Array Value} {i : Nat} {v : Value} (S : St w g L m F C G O s) (hC : C e = some (.exo o)) (hd : o.data = .fields vs) (hi : vs[i]? = some v) (h : Q v s) : wpAny (model PR w) A (field (.ref e) i) Q E s :=
  wpAny_field (S.sat e _ hC) hd hi h

/-- an exception as the ledger tells it, made since C₀: its class, its context, the flight of its last entry (none yet: no entry) -/
structure ExC (C₀ C : Led) (e : Addr) (cls ctx : Value) (fl : Option Value) : Prop where
  ext : Ext C₀ C
  new : C₀ e = none
  there : ∃ oe vs, C e = some (.exo oe) ∧ oe.cls = cls ∧ oe.data = .fields vs ∧ vs[2]? = some ctx ∧ vs.size = 6 ∧
    match fl with
    | none => vs[1]? = some .none
    | some fl => ∃ T oT ts, vs[1]? = some (.ref T) ∧ T ≠ e ∧ C₀ T = none ∧ C T = some (.exo oT) ∧ oT.data = .fields ts ∧ ts[3]? = some fl
theorem ext_upd_new {C₀ C : Led} {a : Addr} {c : Cell} (x : Ext C₀ C) (h : C₀ a = none) : Ext C₀ (upd C a c) := fun b d hb => by
  rw [upd_ne (by rintro rfl; rw [h] at hb; cases hb)]; exact x b d hb
theorem cls_mapF (f : Array Value → Array Value) (o : Obj) : (Obj.mapFields f o).cls = o.cls := Obj.cls_mapFields _ _

/-- a new entry of its traceback -/
theorem r_entry {C₀ : Led} {cls ctx head : Value} {fl : Option Value} {b : Bool} {Q : Unit → Shared → Prop} (S : St w g L m F C G O s) (hfr : A.frames = some (env :: outer)) (B : Frs (env :: outer) L F) (hf : env.frame = some L') (X : ExC C₀ C e cls ctx fl)
    (h : ∀ C' s', St w g L m F C' G O s' → ExC C₀ C' e cls ctx (some (rawInt L')) → Q () s') :
    wpAny (model PR w) A (do let a ← frameOf env; let pl ← entryPlaceOf L' b; let b ← EntryCells.newEntry head a .none (rawInt L') .none pl; setField (.ref e) 1 b) Q E s := by
  obtain ⟨oe, vs, h1, h2, h3, h4, h5, _⟩ := X.there
  refine wpAny_bind (r_frameOf S hfr B hf fun s1 S1 => ?_)
  refine wpAny_bind (wpAny_entryPlaceOf fun pl hpl => ?_)
  unfold EntryCells.newEntry newFields
  refine wpAny_bind (wpAny_newObj_type ?_ (hpl.sizeOk5 _ _ _ _ _))
  have hnew := S1.free
  have S2 := S1.push (c := .exo { cls := .type "traceback", dict := none, data := .fields ([head, .ref L', .none, rawInt L', .none] ++ (if pl.isEmpty then List.replicate 6 Value.none else pl)).toArray }) (t := s1.toks) (Heap.get?_push_size _ rfl)
  have hTe : s1.heap.objs.size ≠ e := Nat.ne_of_gt (S1.cellLt h1)
  have h1' := (Ext.upd (c := .exo { cls := .type "traceback", dict := none, data := .fields ([head, .ref L', .none, rawInt L', .none] ++ (if pl.isEmpty then List.replicate 6 Value.none else pl)).toArray }) hnew) _ _ h1
  have hT0 : C₀ s1.heap.objs.size = none := by
    cases q : C₀ s1.heap.objs.size with
    | none => rfl
    | some c => rw [X.ext _ _ q] at hnew; cases hnew
  refine r_setField S2 h1' h3 (by omega) fun s3 S3 => h _ _ S3 ⟨ext_upd_new (ext_upd_new X.ext hT0) X.new, X.new, _, _, upd_same .., ?_, Obj.data_mapFields h3 _, ?_, ?_, ?_⟩
  · rw [cls_mapF]; exact h2
  · rw [Array.getElem?_setIfInBounds_ne (by decide)]; exact h4
  · rw [Array.size_setIfInBounds]; exact h5
  · exact ⟨s1.heap.objs.size, _, _, by rw [Array.getElem?_setIfInBounds_self_of_lt (by omega)], hTe, hT0, by rw [upd_ne hTe]; exact upd_same .., rfl, by first | (simp; done) | (rcases hpl with rfl | ⟨_, _, _, _, _, _, _, rfl⟩ <;> simp)⟩

/-- noted in a frame: new, or come from another frame -/
theorem r_note {C₀ : Led} {cls ctx : Value} {fl : Option Value} {Q : Unit → Shared → Prop} (S : St w g L m F C G O s) (hfr : A.frames = some (env :: outer)) (B : Frs (env :: outer) L F) (hf : env.frame = some L') (X : ExC C₀ C e cls ctx fl)
    (hfl : fl = none ∨ fl = some .none) (h : ∀ C' s', St w g L m F C' G O s' → ExC C₀ C' e cls ctx (some (rawInt L')) → Q () s') : wpAny (model PR w) A (noteFrame (.ref e) env) Q E s := by
  unfold noteFrame
  simp only [hf]
  rcases hfl with rfl | rfl
  · obtain ⟨oe, vs, h1, h2, h3, h4, h5, h6⟩ := X.there
    refine wpAny_bind (r_field S h1 h3 h6 ?_)
    rw [if_neg (by decide)]
    exact r_entry S hfr B hf X h
  · obtain ⟨oe, vs, h1, h2, h3, h4, h5, T, oT, ts, h6, h7, h8, h9, h10, h11⟩ := X.there
    refine wpAny_bind (r_field S h1 h3 h6 ?_)
    rw [if_pos (show (Value.ref T != Value.none) = true from by simp)]
    refine wpAny_bind (r_field S h9 h10 h11 ?_)
    rw [if_neg (show ¬ ((Value.none == rawInt L') = true) from by simp [rawInt])]
    refine wpAny_bind (r_setField S h9 h10 (Array.getElem?_eq_some_iff.mp h11).1 fun s1 S1 => ?_)
    refine r_entry S1 hfr B hf (fl := some .none) ⟨ext_upd_new X.ext h8, X.new, oe, vs, by rw [upd_ne (Ne.symm h7)]; exact h1, h2, h3, h4, h5, T, _, _, h6, h7, h8, upd_same .., Obj.data_mapFields h10 _, ?_⟩ h
    have := (Array.getElem?_eq_some_iff.mp h11).1
    rw [Array.getElem?_setIfInBounds_self_of_lt this]
/-- noted in this frame already -/
theorem r_noteSame {C₀ : Led} {cls ctx : Value} {Q : Unit → Shared → Prop} (S : St w g L m F C G O s) (hf : env.frame = some L') (X : ExC C₀ C e cls ctx (some (rawInt L'))) (h : Q () s) : wpAny (model PR w) A (noteFrame (.ref e) env) Q E s := by
  obtain ⟨oe, vs, h1, h2, h3, h4, h5, T, oT, ts, h6, h7, h8, h9, h10, h11⟩ := X.there
  unfold noteFrame
  simp only [hf]
  refine wpAny_bind (r_field S h1 h3 h6 ?_)
  rw [if_pos (show (Value.ref T != Value.none) = true from by simp)]
  refine wpAny_bind (r_field S h9 h10 h11 ?_)
  rw [if_pos (show (rawInt L' == rawInt L') = true from by simp)]
  exact wpAny_pure h
/-- its flight told -/
theorem r_flight {C₀ : Led} {cls ctx fl : Value} {fr : Option Addr} {Q : Unit → Shared → Prop} (S : St w g L m F C G O s) (X : ExC C₀ C e cls ctx (some fl))
    (h : ∀ C' s', St w g L m F C' G O s' → ExC C₀ C' e cls ctx (some (fr.elim .none fun f => rawInt f)) → Q () s') : wpAny (model PR w) A (setFlight (.ref e) fr) Q E s := by
  obtain ⟨oe, vs, h1, h2, h3, h4, h5, T, oT, ts, h6, h7, h8, h9, h10, h11⟩ := X.there
  unfold setFlight
  refine wpAny_bind (r_field S h1 h3 h6 ?_)
  rw [if_pos (show (Value.ref T != Value.none) = true from by simp)]
  refine r_setField S h9 h10 (Array.getElem?_eq_some_iff.mp h11).1 fun s1 S1 => h _ _ S1 ⟨ext_upd_new X.ext h8, X.new, oe, vs, by rw [upd_ne (Ne.symm h7)]; exact h1, h2, h3, h4, h5, T, _, _, h6, h7, h8, upd_same .., Obj.data_mapFields h10 _, ?_⟩
  have := (Array.getElem?_eq_some_iff.mp h11).1
  rw [Array.getElem?_setIfInBounds_self_of_lt this]
/-- a new exception has no flight -/
theorem r_flight0 {C₀ : Led} {cls ctx : Value} {fr : Option Addr} {Q : Unit → Shared → Prop} (S : St w g L m F C G O s) (X : ExC C₀ C e cls ctx none) (h : Q () s) : wpAny (model PR w) A (setFlight (.ref e) fr) Q E s := by
  obtain ⟨oe, vs, h1, h2, h3, h4, h5, h6⟩ := X.there
  unfold setFlight
  refine wpAny_bind (r_field S h1 h3 h6 ?_)
  rw [if_neg (by decide)]
  exact wpAny_pure h
theorem ExC.typeOf {C₀ : Led} {cls ctx : Value} {fl : Option Value} (X : ExC C₀ C e cls ctx fl) (S : St w g L m F C G O s) : ∃ o, s.heap.get? e = some o ∧ o.cls = cls := let ⟨oe, _, h1, h2, _⟩ := X.there; ⟨oe, S.sat e _ h1, h2⟩
/-- an operation's exception told by the ledger -/
theorem exc_st {h' : Heap} {cls t : Value} {ob : Obj} {tk : Nat} (S : St w g L m F C G O s) (hk : ∀ b o, s.heap.get? b = some o → h'.get? b = some o) (hnew : s.heap.get? e = none) (ho : h'.get? e = some ob) (hc : ob.cls = cls) (hd : ob.data = .fields #[t, .none, .none, .none, .bool false, .none]) :
    ∃ C', St w g L m F C' G O { s with heap := h', toks := tk } ∧ ExC C C' e cls .none none := by
  have S1 : St w g L m F C G O { s with heap := h', toks := tk } := S.grown hk S.gens S.os
  have hCe : C e = none := by
    cases q : C e with
    | none => rfl
    | some c => obtain ⟨o, h⟩ := (S.sat e c q).some; rw [hnew] at h; cases h
  have hne : ∀ a o, s.heap.get? a = some o → e ≠ a := fun a o h => by rintro rfl; rw [hnew] at h; cases h
  refine ⟨upd C e (.exo ob), ⟨S1.ns, S1.keep, S1.nl, S1.frs, fun b d eb => ?_, fun b d eb => ?_, S1.hi, S1.gens, S1.os, S1.ab⟩, ⟨Ext.upd hCe, hCe, ob, _, upd_same .., hc, hd, rfl, rfl, rfl⟩⟩
  · by_cases hb : b = e
    · subst hb; rw [upd_same] at eb; cases eb; exact ho
    · rw [upd_ne hb] at eb; exact S1.sat b d eb
  · by_cases hb : b = e
    · subst hb; rw [upd_same] at eb; cases eb
      refine ⟨⟨?_, fun p hp => ?_⟩, ?_, fun h => by cases h⟩
      · obtain ⟨o, ho⟩ := S.ns.some; exact hne _ _ ho
      · obtain ⟨o, ho⟩ := (S.frs p hp).1.some; exact hne _ _ ho
      · cases q : g.get? b with
        | none => rfl
        | some o => exact absurd rfl (hne _ _ (S.keep _ _ q))
    · rw [upd_ne hb] at eb; exact S1.off b d eb
theorem newExc_st {h' : Heap} {X : String} {tk : Nat} (S : St w g L m F C G O s) (hx : Heap.NewExc s.heap h' e X) : ∃ C', St w g L m F C' G O { s with heap := h', toks := tk } ∧ ExC C C' e (.type X) .none none :=
  let ⟨_, _, ho, hc, hd⟩ := hx.there
  exc_st S hx.keeps hx.new ho hc hd
end
end Mine
end
section -- B1
open PySem PySem.W PySem.Calls PyProof.Rows
namespace Mine
theorem fill_here : hd.heap_39 = hd.heap_39 ∧ PySem.Challenge.rw_ez0179_01 = PySem.Challenge.rw_ez0179_01 := by k_fill; exact ⟨rfl, rfl⟩
theorem ok_graph (w : World) : ownOk (hd.heap_39 w.params) 617 "graph" = true := by kernel_rfl
theorem ok_node (w : World) : ownOk (hd.heap_39 w.params) 617 "_node" = true := by kernel_rfl
theorem ok_adj (w : World) : ownOk (hd.heap_39 w.params) 617 "_adj" = true := by kernel_rfl
theorem pl_617 (w : World) (n : Str) : plainGet (hd.heap_39 w.params) 617 n = true := by kernel_rfl
theorem m_359 (w : World) : findIn (hd.heap_39 w.params) (.ref 617) "adjlist_inner_dict_factory" = some (some (.ref 359)) := by kernel_rfl
theorem m_345 (w : World) : findIn (hd.heap_39 w.params) (.ref 617) "node_attr_dict_factory" = some (some (.ref 345)) := by kernel_rfl
theorem m_366 (w : World) : findIn (hd.heap_39 w.params) (.ref 617) "edge_attr_dict_factory" = some (some (.ref 366)) := by kernel_rfl
theorem fn_359 (w : World) : isFn (hd.heap_39 w.params) (.ref 359) = true := by kernel_rfl
theorem fn_345 (w : World) : isFn (hd.heap_39 w.params) (.ref 345) = true := by kernel_rfl
theorem fn_366 (w : World) : isFn (hd.heap_39 w.params) (.ref 366) = true := by kernel_rfl
theorem kp_359 (w : World) : keepIn (hd.heap_39 w.params) (.ref 359) = true := by kernel_rfl
theorem kp_345 (w : World) : keepIn (hd.heap_39 w.params) (.ref 345) = true := by kernel_rfl
theorem kp_366 (w : World) : keepIn (hd.heap_39 w.params) (.ref 366) = true := by kernel_rfl

section
variable {p : Program} {loose : List Str} {mg mb : Str → Option Value} 
  {w : World} {g : Heap} {L : Addr} {m : List (Str × Value)} {F : List (Addr × List (Str × Value))} {C : Led} {G : Array GenState} {O : OsState} {s : Shared} {A : Around} {E : Value → Shared → Prop} {Q : Value → Shared → Prop}

theorem call_359 (tg : Tag) (S : St w g L m F C G O s) (D : Wd (hd.heap_39 w.params) p loose mg mb g) (hroom : A.depth < recursionLimit) {x : Value}
    (h : ∀ d s', C d = none → St w g L m F (upd C d (.di tg [] 0)) G O s' → Q (.ref d) s') : wpAny (model PR w) A (call (.ref 359) [x]) Q E s := by
  refine' call_factoryI tg S D ?ho ?hcd hroom ?hb ?hl ?c1 ?c2 ?c3 ?c4 h
  case ho => k_is
  case hcd => k_is
  case hb => exact rfl
  case hl => exact locs rfl
  case c1 => rfl
  case c2 => rfl
  case c3 => rfl
  case c4 => decide
theorem call_345 (tg : Tag) (S : St w g L m F C G O s) (D : Wd (hd.heap_39 w.params) p loose mg mb g) (hroom : A.depth < recursionLimit) {x : Value}
    (h : ∀ d s', C d = none → St w g L m F (upd C d (.ds tg [] 0)) G O s' → Q (.ref d) s') : wpAny (model PR w) A (call (.ref 345) [x]) Q E s := by
  refine' call_factoryS tg S D ?ho ?hcd hroom ?hb ?hl ?c1 ?c2 ?c3 ?c4 h
  case ho => k_is
  case hcd => k_is
  case hb => exact rfl
  case hl => exact locs rfl
  case c1 => rfl
  case c2 => rfl
  case c3 => rfl
  case c4 => decide
theorem call_366 (tg : Tag) (S : St w g L m F C G O s) (D : Wd (hd.heap_39 w.params) p loose mg mb g) (hroom : A.depth < recursionLimit) {x : Value}
    (h : ∀ d s', C d = none → St w g L m F (upd C d (.ds tg [] 0)) G O s' → Q (.ref d) s') : wpAny (model PR w) A (call (.ref 366) [x]) Q E s := by
  refine' call_factoryS tg S D ?ho ?hcd hroom ?hb ?hl ?c1 ?c2 ?c3 ?c4 h
  case ho => k_is
  case hcd => k_is
  case hb => exact rfl
  case hl => exact locs rfl
  case c1 => rfl
  case c2 => rfl
  case c3 => rfl
  case c4 => decide
end
end Mine
end
section -- X2
open PySem PySem.W PySem.Calls PyProof.Rows
namespace Mine
theorem entry_unchain : entryFor table "proto.unchain" = some Builtin.«proto.unchain» := entryFor_of_tree (by kernel_rfl)
theorem upd_upd' (C : Led) (a : Addr) (c c' : Cell) : upd (upd C a c) a c' = upd C a c' := by
  funext b; unfold upd; split <;> rfl
theorem digit_len {u : Int} (h : 0 ≤ u ∧ u < 6) : ((toString u : String) : Str).length ≤ 1 := by
  have : u = 0 ∨ u = 1 ∨ u = 2 ∨ u = 3 ∨ u = 4 ∨ u = 5 := by omega
  rcases this with rfl | rfl | rfl | rfl | rfl | rfl <;> decide
theorem digit_log {u : Int} (h : 0 ≤ u ∧ u < 6) : u.natAbs.log2 < 1920 := by
  have : u = 0 ∨ u = 1 ∨ u = 2 ∨ u = 3 ∨ u = 4 ∨ u = 5 := by omega
  rcases this with rfl | rfl | rfl | rfl | rfl | rfl <;> decide
theorem sub_ke_type : isSubtype (.type "KeyError") (.type "type") = pure false := by rw [isSubtype_type]; kernel_rfl
theorem sub_ke_base : isSubtype (.type "KeyError") (.type "BaseException") = pure true := by rw [isSubtype_type]; kernel_rfl

section
variable {w : World} {g : Heap} {L : Addr} {m : List (Str × Value)} {F : List (Addr × List (Str × Value))} {C : Led} {G : Array GenState} {O : OsState} {s : Shared} {A : Around} {E : Value → Shared → Prop} {env : Env}
/-- the words of the exception -/
theorem r_edgeMsg {u v : Int} {t1 t2 : Tok} {q1 q2 q3 q4 q5 q6 q7 q8 : Pos} {k1 k2 k3 : Nat} {Q : Value → Shared → Prop} (S : St w g L m F C G O s) (hu : m.lookup (Str.ofString "u") = some (.int u t1)) (hv : m.lookup (Str.ofString "v") = some (.int v t2)) (ru : 0 ≤ u ∧ u < 6) (rv : 0 ≤ v ∧ v < 6)
    (hk : env.scope.kind = .function) (hL : env.locals = L) (hx : env.kindOf "u" = some .local) (hy : env.kindOf "v" = some .local)
    (h : ∀ z t s', St w g L m F C G O s' → Q (.str z t) s') :
    wpAny (model PR w) A (eval (.JoinedStr [.Constant (.str "The edge ") k1 q1, .FormattedValue (.Name "u" q2) (-1) none q3, .Constant (.str "-") k2 q4, .FormattedValue (.Name "v" q5) (-1) none q6, .Constant (.str " is not in the graph") k3 q7] q8) env) Q E s := by
  have d1 := digit_len ru
  have d2 := digit_len rv
  refine wpAny_JoinedStr ?_
  refine r_str S fun ta s1 S1 => ⟨_, _, rfl, by decide, ?_⟩
  refine wpAny_FormattedValue_plain (r_loc S1 hu (wpAny_formatField_int (digit_log ru) ⟨_, _, rfl, ?_, ?_⟩) hk hx (by decide) hL)
  · rw [sizeLine_eq, Str.length_append]
    have : (Str.empty ++ ("The edge " : Str)).length = 9 := by decide
    omega
  have S2 := (S1.toks (s1.toks + 1 + 1))
  refine r_str S2 fun tb s3 S3 => ⟨_, _, rfl, ?_, ?_⟩
  · rw [sizeLine_eq, Str.length_append, Str.length_append]
    have : (Str.empty ++ ("The edge " : Str)).length = 9 := by decide
    have : ("-" : Str).length = 1 := by decide
    omega
  refine wpAny_FormattedValue_plain (r_loc S3 hv (wpAny_formatField_int (digit_log rv) ⟨_, _, rfl, ?_, ?_⟩) hk hy (by decide) hL)
  · rw [sizeLine_eq, Str.length_append, Str.length_append, Str.length_append]
    have : (Str.empty ++ ("The edge " : Str)).length = 9 := by decide
    have : ("-" : Str).length = 1 := by decide
    omega
  have S4 := (S3.toks (s3.toks + 1 + 1))
  refine r_str S4 fun tc s5 S5 => ⟨_, _, rfl, ?_, ?_⟩
  · rw [sizeLine_eq, Str.length_append, Str.length_append, Str.length_append, Str.length_append]
    have : (Str.empty ++ ("The edge " : Str)).length = 9 := by decide
    have : ("-" : Str).length = 1 := by decide
    have : (" is not in the graph" : Str).length = 20 := by decide
    omega
  · refine ⟨?_, h _ _ _ (S5.toks _)⟩
    rw [sizeLine_eq, Str.length_append, Str.length_append, Str.length_append, Str.length_append]
    have : (Str.empty ++ ("The edge " : Str)).length = 9 := by decide
    have : ("-" : Str).length = 1 := by decide
    have : (" is not in the graph" : Str).length = 20 := by decide
    omega
end
example : hd.heap_39 = hd.heap_39 ∧ PySem.Challenge.rw_ez0179_01 = PySem.Challenge.rw_ez0179_01 := by k_fill; exact ⟨rfl, rfl⟩
abbrev excBm : List Value := [.type "Exception", .type "BaseException", .type "object"]
theorem g_NXE (w : World) : nsIn (hd.heap_39 w.params) mainGlobals "NetworkXError" = some (some (.ref 277)) := by kernel_rfl
theorem ex_277 (w : World) : excIn (hd.heap_39 w.params) 277 excBm "Exception.__new__" = true := by kernel_rfl
theorem kp_277 (w : World) : keepIn (hd.heap_39 w.params) (.ref 277) = true := by kernel_rfl
section
variable {p : Program} {loose : List Str} {mg mb : Str → Option Value}
  {w : World} {g : Heap} {L : Addr} {m : List (Str × Value)} {F : List (Addr × List (Str × Value))} {C : Led} {G : Array GenState} {O : OsState} {s : Shared} {A : Around} {E : Value → Shared → Prop} {env : Env}

/-- NetworkXError(words) -/
theorem r_nxe {z : Str} {t : Tok} {Q : Value → Shared → Prop} (S : St w g L m F C G O s) (D : Wd (hd.heap_39 w.params) p loose mg mb g)
    (h : ∀ e C' s', St w g L m F C' G O s' → ExC C C' e (.ref 277) .none none → Q (.ref e) s') : wpAny (model PR w) A (call (.ref 277) [.str z t]) Q E s := by
  obtain ⟨bm, N, nm, qn, bs, hdct, sn, sub, ab, col, dd, k0, k1, k2, k3, k5, mN, hC, hN, hni, TL⟩ := ((own_of_in (D.X.keeps S.keep) (D.T.keeps S.keep) (g_NXE w) (ex_277 w))).obj
  obtain ⟨hp, gn, d, tk, os⟩ := s
  refine wpAny_call_exc_subT PySem.F.excBase_Exception TL hC hN hni fun h' e hm => ?_
  obtain ⟨t', ht, _, _⟩ := hm.there
  obtain ⟨C', S', X'⟩ := exc_st (tk := tk) S hm.keeps hm.new ht rfl rfl
  exact h e C' _ S' X'

theorem r_unchain {C₀ : Led} {e0 e : Addr} {fl : Option Value} {cls : Value} {Q : Value → Shared → Prop} (S : St w g L m F C G O s) (X0 : ExC C₀ C e0 cls .none fl) (h : Q .none s) :
    wpAny (model PR w) A (runValue (.builtin "proto.unchain" ⟨[.ref e, .ref e0, .ref e0, .bool false], []⟩)) Q E s := by
  obtain ⟨oe, vs, h1, h2, h3, h4, h5, _⟩ := X0.there
  refine wpAny_runValue (codeAny_builtin entry_unchain ?_)
  show wpAny _ _ (field (.ref e0) 2 >>= _) _ _ _
  refine wpAny_bind (r_field S h1 h3 h4 ?_)
  rw [if_pos (by decide)]
  exact wpAny_bind (m := ret .none) (wpAny_pure (wpAny_pure h))

theorem r_notClass {C₀ : Led} {e : Addr} {cls ctx : Value} {fl : Option Value} {Q : Bool → Shared → Prop} (S : St w g L m F C G O s) (X : ExC C₀ C e cls ctx fl) (h : Q false s) : wpAny (model PR w) A (isType (.ref e)) Q E s := by
  obtain ⟨oe, vs, h1, h2, h3, _⟩ := X.there
  unfold isType
  refine wpAny_bind (wpAny_loadPart (S.sat e _ h1) ?_)
  rw [h3]
  exact wpAny_pure h
theorem r_isBase {C₀ : Led} {e : Addr} {cls ctx : Value} {fl : Option Value} {Q : Bool → Shared → Prop} (S : St w g L m F C G O s) (D : Wd (hd.heap_39 w.params) p loose mg mb g) (X : ExC C₀ C e cls ctx fl) (hc : cls = .ref 277 ∨ cls = .type "KeyError") (h : Q true s) :
    wpAny (model PR w) A (isInstance (.ref e) (.type "BaseException")) Q E s := by
  obtain ⟨o, ho, hcl⟩ := X.typeOf S
  rcases hc with rfl | rfl
  · unfold isInstance
    have LT : Looks (model PR w) s.heap (typeOf (.ref e)) (.ref 277) := by rw [← hcl]; exact (Looks.ld ho).andThen .now
    refine wpAny_bind (LT.here ?_)
    exact (looks_subIn (D.X.keeps S.keep) (by kernel_rfl)).here h
  · exact wpAny_isInstance (T := "KeyError") (b := true) ⟨o, ho, hcl⟩ sub_ke_base h
theorem r_excOf {C₀ : Led} {e : Addr} {cls ctx : Value} {fl : Option Value} {c : String} {Q : Value → Shared → Prop} (S : St w g L m F C G O s) (D : Wd (hd.heap_39 w.params) p loose mg mb g) (X : ExC C₀ C e cls ctx fl) (hc : cls = .ref 277 ∨ cls = .type "KeyError") (h : Q (.ref e) s) :
    wpAny (model PR w) A (excFromValue (.ref e) c) Q E s := by
  unfold excFromValue isExcClass
  refine wpAny_bind (wpAny_bind (r_notClass S X ?_))
  rw [if_neg Bool.false_ne_true]
  refine wpAny_pure ?_
  rw [if_neg Bool.false_ne_true]
  refine wpAny_bind (r_isBase S D X hc ?_)
  rw [if_pos rfl]
  exact wpAny_pure h

/-- raise NetworkXError(words) from err -/
theorem r_raiseFrom {Cb : Led} {e0 : Addr} {fl0 : Option Value} {msg : PySem.Expr} {q1 q2 q3 q4 : Pos} {Q : Flow → Shared → Prop} (S : St w g L m F C G O s) (D : Wd (hd.heap_39 w.params) p loose mg mb g) (X0 : ExC Cb C e0 (.type "KeyError") .none fl0) (hh : A.handled = some (.ref e0))
    (hl : m.lookup (Str.ofString "err") = some (.ref e0)) (hk : env.scope.kind = .function) (hL : env.locals = L) (hx : env.kindOf "err" = some .local) (hy : env.kindOf "NetworkXError" = some .globalImplicit) (hg : env.globals = mainGlobals)
    (hm : ∀ Q', (∀ z t s', St w g L m F C G O s' → Q' (.str z t) s') → wpAny (model PR w) A (eval msg env) Q' E s) (he : starEach [msg] env = (false, eval msg env) :: starEach [] env)
    (hc : eval (.Call (.Name "NetworkXError" q1) [msg] [] q2) env = (do callWith q2 (← eval (.Name "NetworkXError" q1) env) [] (backTo q2 (starEach [msg] env)) (backToKw q2 (keywordEach [] env))))
    (h : ∀ e1 C' s', St w g L m F C' G O s' → ExC C C' e1 (.ref 277) (.ref e0) none → E (.ref e1) s') :
    wpAny (model PR w) A (exec (.Raise (some (.Call (.Name "NetworkXError" q1) [msg] [] q2)) (some (.Name "err" q3)) q4) env) Q E s := by
  rw [arm_exec_Raise]
  refine wpAny_bind (wpAny_standAt ?_)
  simp only [evalOpt, Option.map]
  unfold raiseStmt
  refine wpAny_bind (wpAny_bind (Call_ (he := hc) (r_glob S D (g_NXE w) ?_ hk hy (by decide) hg)))
  refine callWith_K (D.X) (kp_277 w) ?_ he
  refine wpAny_items_cons (he := he) (hm _ fun z t s1 S1 => wpAny_items_nil ⟨D.X.keeps S1.keep, ?_⟩)
  refine r_nxe S1 D fun e1 C2 s2 S2 X2 => wpAny_bind (wpAny_standAt (wpAny_pure ?_))
  have X02 : ExC Cb C2 e0 (.type "KeyError") .none fl0 := by
    obtain ⟨oe, vs, h1, h2, h3, h4, h5, h6⟩ := X0.there
    refine ⟨X0.ext.trans X2.ext, X0.new, oe, vs, X2.ext _ _ h1, h2, h3, h4, h5, ?_⟩
    cases fl0 with
    | none => exact h6
    | some fl => obtain ⟨T, oT, ts, k1, k2, k3, k4, k5⟩ := h6; exact ⟨T, oT, ts, k1, k2, k3, X2.ext _ _ k4, k5⟩
  have hl2 := hl
  refine wpAny_bind (wpAny_holding (wpAny_bind (r_loc S2 hl2 (wpAny_bind (wpAny_standAt (wpAny_pure (wpAny_bind (wpAny_pure ?_))))) hk hx (by decide) hL)))
  refine wpAny_bind (wpAny_holding (r_excOf S2 D X2 (.inl rfl) ?_))
  dsimp only
  rw [if_neg (show ¬ ((Value.ref e0 == Value.none) = true) from by simp)]
  refine wpAny_bind (wpAny_holding (r_excOf S2 D X02 (.inr rfl) ?_))
  obtain ⟨o1, vs1, h1, h2, h3, h4, h5, h6⟩ := X2.there
  refine wpAny_bind (r_setField S2 h1 h3 (by omega) fun s3 S3 => ?_)
  have hd3 := Obj.data_mapFields h3 (·.setIfInBounds 3 (Value.ref e0))
  refine wpAny_bind (r_setField S3 (upd_same ..) hd3 (by rw [Array.size_setIfInBounds]; omega) fun s4 S4 => ?_)
  rw [upd_upd'] at S4
  have hd4 := Obj.data_mapFields hd3 (·.setIfInBounds 4 (Value.bool true))
  have X4 : ExC C (upd C2 e1 (.exo (Obj.mapFields (·.setIfInBounds 4 (Value.bool true)) (Obj.mapFields (·.setIfInBounds 3 (Value.ref e0)) o1)))) e1 (.ref 277) .none none := by
    refine ⟨ext_upd_new X2.ext X2.new, X2.new, _, _, upd_same .., ?_, hd4, ?_, ?_, ?_⟩
    · rw [cls_mapF, cls_mapF]; exact h2
    · rw [Array.getElem?_setIfInBounds_ne (by decide), Array.getElem?_setIfInBounds_ne (by decide)]; exact h4
    · rw [Array.size_setIfInBounds, Array.size_setIfInBounds]; exact h5
    · show (_ : Option Value) = _
      rw [Array.getElem?_setIfInBounds_ne (by decide), Array.getElem?_setIfInBounds_ne (by decide)]; exact h6
  have hne : e0 ≠ e1 := by
    obtain ⟨oe, vs, k1, _⟩ := X0.there
    rintro rfl
    rw [X2.new] at k1; cases k1
  generalize hC4 : upd C2 e1 (.exo (Obj.mapFields (·.setIfInBounds 4 (Value.bool true)) (Obj.mapFields (·.setIfInBounds 3 (Value.ref e0)) o1))) = C4 at S4 X4
  have X04 : ExC Cb C4 e0 (.type "KeyError") .none fl0 := by
    obtain ⟨oe, vs, h1, h2, h3, h4, h5, h6⟩ := X0.there
    refine ⟨X0.ext.trans X4.ext, X0.new, oe, vs, X4.ext _ _ h1, h2, h3, h4, h5, ?_⟩
    cases fl0 with
    | none => exact h6
    | some fl => obtain ⟨T, oT, ts, k1, k2, k3, k4, k5⟩ := h6; exact ⟨T, oT, ts, k1, k2, k3, X4.ext _ _ k4, k5⟩
  refine wpAny_bind (r_notClass S4 X4 ?_)
  rw [if_neg Bool.false_ne_true]
  obtain ⟨ob, hob, hobc⟩ := X4.typeOf S4
  have LT : Looks (model PR w) s4.heap (typeOf (.ref e1)) (.ref 277) := by rw [← hobc]; exact (Looks.ld hob).andThen .now
  have LC : Looks (model PR w) s4.heap (typeOf (.ref 277)) (.type "type") := looks_typeIn (D.X.keeps S4.keep) (by kernel_rfl)
  refine wpAny_bind ?_
  unfold raisedInstance
  refine wpAny_bind (LT.here (wpAny_bind (LC.here ?_)))
  rw [if_pos (by decide)]
  refine wpAny_pure (wpAny_bind (r_flight0 S4 X4 ?_))
  unfold raiseNew
  refine wpAny_bind (wpAny_handled ?_)
  rw [hh]
  show wpAny (model PR w) A (if (Value.ref e0 != Value.ref e1) = true then _ else _) Q E s4
  rw [if_pos (by simp [hne])]
  refine wpAny_bind (wpAny_holding (r_unchain S4 X04 ?_))
  obtain ⟨o5, vs5, g1, g2, g3, g4, g5, g6⟩ := X4.there
  refine wpAny_bind (r_setField (v := .ref e0) (i := 2) S4 g1 g3 (by omega) fun s5 S5 => wpAny_throw ?_)
  refine h e1 _ s5 S5 ⟨ext_upd_new X4.ext X4.new, X4.new, _, _, upd_same .., ?_, Obj.data_mapFields g3 _, ?_, ?_, ?_⟩
  · rw [cls_mapF]; exact g2
  · rw [Array.getElem?_setIfInBounds_self_of_lt (by omega)]
  · rw [Array.size_setIfInBounds]; exact g5
  · show (_ : Option Value) = _
    rw [Array.getElem?_setIfInBounds_ne (by decide)]; exact g6
end
end Mine
end
section -- B2
open PySem PySem.W PySem.Calls PyProof.Rows
namespace Mine

/-- the graph as plain data -/
structure PS where
  nodes : List Int
  an : List Int
  nbrs : Int → List Int
  da : Int → Int → Addr
  wt : Int → Int → Int × Option Int

structure GA where
  x : Addr
  dx : Addr
  gr : Addr
  nd : Addr
  ad : Addr

def gf (a : GA) (dv ev : Option Value) : Str → Option Value := fun n =>
  if n = "graph" then some (.ref a.gr) else if n = "_node" then some (.ref a.nd) else if n = "_adj" then some (.ref a.ad)
  else if n = "degree" then dv else if n = "edges" then ev else none

def KvsOk (kvs : List (Str × Value)) : Int × Option Int → Prop
  | (w, none) => ∃ t, kvs = [((Str.ofString "w", Value.int w t) : Str × Value)]
  | (w, some v) => ∃ t u, kvs = [((Str.ofString "w", Value.int w t) : Str × Value), (Str.ofString "v", Value.int v u)]

def DatOk (C : Led) (σ : PS) (u v : Int) : Prop := ∃ kvs ep, C (σ.da u v) = some (.ds (.data u v) kvs ep) ∧ KvsOk kvs (σ.wt u v)
def RowAt (C : Led) (σ : PS) (n : Int) (b : Addr) : Prop :=
  ∃ r ep, C b = some (.di (.row n) r ep) ∧ r.map (·.1) = σ.nbrs n ∧ ∀ q ∈ r, q.2 = .ref (σ.da (min n q.1) (max n q.1)) ∧ DatOk C σ (min n q.1) (max n q.1)
def AttrAt (C : Led) (n : Int) (b : Addr) : Prop := ∃ ep, C b = some (.ds (.attr n) [] ep)

structure Gr (C : Led) (a : GA) (dv ev : Option Value) (gk : List (Str × Value)) (σ : PS) : Prop where
  x : C a.x = some (.obj (instObj 617 a.dx))
  dx : C a.dx = some (.sm (gf a dv ev) (3 + dv.toList.length + ev.toList.length) (dv.isSome || ev.isSome))
  gr : ∃ ep, C a.gr = some (.ds .gattr gk ep)
  nd : ∃ nk ep, C a.nd = some (.di .node nk ep) ∧ nk.map (·.1) = σ.nodes ∧ ∀ q ∈ nk, ∃ b, q.2 = .ref b ∧ AttrAt C q.1 b
  tb : (∃ ps, C 230 = some (.tab ps)) ∧ ∃ ps, C 601 = some (.tab ps)
  ad : ∃ ak ep, C a.ad = some (.di .adj ak ep) ∧ ak.map (·.1) = σ.an ∧ ∀ q ∈ ak, ∃ b, q.2 = .ref b ∧ RowAt C σ q.1 b

/-- cells that are none of the graph's -/
def Plain : Cell → Prop
  | .di tg _ _ => tg = .none
  | .ds tg _ _ => tg = .none
  | .tab _ => False
  | .sm f _ _ => f "_adj" = none
  | _ => True
def KeepsP (C C' : Led) : Prop := ∀ b c, C b = some c → Plain c → C' b = some c
theorem KeepsP.refl (C : Led) : KeepsP C C := fun _ _ e _ => e
theorem KeepsP.trans {A B C : Led} (x : KeepsP A B) (y : KeepsP B C) : KeepsP A C := fun b c e h => y b c (x b c e h) h
theorem Ext.keepsP {C C' : Led} (x : Ext C C') : KeepsP C C' := fun b c e _ => x b c e
theorem KeepsP.upd {C : Led} {b : Addr} {c c' : Cell} (hb : C b = some c) (hc : ¬ Plain c) : KeepsP C (upd C b c') := fun d c₁ e h => by
  rw [upd_ne (ne_of_cells e hb (by rintro rfl; exact hc h))]; exact e

theorem Gr.ext {C C' : Led} {a : GA} {dv ev : Option Value} {gk : List (Str × Value)} {σ : PS} (H : Gr C a dv ev gk σ) (x : Ext C C') : Gr C' a dv ev gk σ := by
  refine ⟨x _ _ H.x, x _ _ H.dx, H.gr.imp fun _ e => x _ _ e, ?_, ⟨H.tb.1.imp fun _ e => x _ _ e, H.tb.2.imp fun _ e => x _ _ e⟩, ?_⟩
  · obtain ⟨nk, ep, h1, h2, h3⟩ := H.nd
    exact ⟨nk, ep, x _ _ h1, h2, fun q hq => let ⟨b, e, ep', h⟩ := h3 q hq; ⟨b, e, ep', x _ _ h⟩⟩
  · obtain ⟨ak, ep, h1, h2, h3⟩ := H.ad
    refine ⟨ak, ep, x _ _ h1, h2, fun q hq => ?_⟩
    obtain ⟨b, e, r, ep', h4, h5, h6⟩ := h3 q hq
    exact ⟨b, e, r, ep', x _ _ h4, h5, fun z hz => let ⟨k1, kvs, ep, k2, k3⟩ := h6 z hz; ⟨k1, kvs, ep, x _ _ k2, k3⟩⟩

/-- well formed: the nodes differ and are small, neighbours are nodes, both ways -/
structure PS.WF (σ : PS) : Prop where
  an : σ.an = σ.nodes
  nd : σ.nodes.Nodup
  rng : ∀ n ∈ σ.nodes, 0 ≤ n ∧ n < 6
  nn : ∀ n, (σ.nbrs n).Nodup
  mem : ∀ n v, v ∈ σ.nbrs n → n ∈ σ.nodes ∧ v ∈ σ.nodes ∧ n ∈ σ.nbrs v

theorem small_len {l : List Int} (hn : l.Nodup) (hr : ∀ n ∈ l, 0 ≤ n ∧ n < 6) : l.length ≤ 6 := by
  have : ∀ (k : Nat) (l : List Int), l.Nodup → (∀ n ∈ l, 0 ≤ n ∧ n < (k : Int)) → l.length ≤ k := by
    intro k
    induction k with
    | zero =>
      intro l _ h
      cases l with
      | nil => exact Nat.le_refl _
      | cons x r => have := h x (.head _); omega
    | succ k ih =>
      intro l hn h
      have h1 : (l.erase (k : Int)).length ≤ k := ih _ (hn.erase _) fun n hm => by
        have h2 := h n (List.mem_of_mem_erase hm)
        have h3 : n ≠ (k : Int) := fun e => by subst e; exact (List.Nodup.not_mem_erase hn) hm
        omega
      rw [List.length_erase] at h1
      split at h1 <;> omega
  exact this 6 l hn hr
end Mine
end
section -- B3
open PySem PySem.W PySem.Calls PyProof.Rows
namespace Mine

def tagOf : Cell → Option Tag
  | .di t _ _ => some t
  | .ds t _ _ => some t
  | _ => none
/-- all but what bears the tag stands as it stood -/
def Same (T : Tag) (C C' : Led) : Prop := ∀ b c, C b = some c → tagOf c ≠ some T → C' b = some c
theorem Same.upd {C : Led} {b : Addr} {c c' : Cell} {T : Tag} (hb : C b = some c) (ht : tagOf c = some T) : Same T C (upd C b c') := fun d c₁ e h => by
  rw [upd_ne (ne_of_cells e hb (by rintro rfl; exact h ht))]; exact e
theorem Same.keepsP {C C' : Led} {T : Tag} (x : Same T C C') (hT : T ≠ .none) : KeepsP C C' := fun b c e h => x b c e (by
  cases c with
  | di t k ep => intro q; cases q; exact hT h
  | ds t k ep => intro q; cases q; exact hT h
  | tab _ => exact h.elim
  | _ => intro q; cases q)

def PS.putA (σ : PS) (n : Int) : PS := { σ with an := σ.an ++ [n], nbrs := fun k => if k = n then [] else σ.nbrs k }
def PS.putN (σ : PS) (n : Int) : PS := { σ with nodes := σ.nodes ++ [n] }
def PS.delA (σ : PS) (n : Int) : PS := { σ with an := σ.an.filter (· ≠ n), nbrs := fun k => if k = n then [] else σ.nbrs k }
def PS.delN (σ : PS) (n : Int) : PS := { σ with nodes := σ.nodes.filter (· ≠ n) }
def ins (l : List Int) (v : Int) : List Int := if v ∈ l then l else l ++ [v]
def PS.half (σ : PS) (u v : Int) : PS := { σ with nbrs := fun k => if k = u then ins (σ.nbrs u) v else σ.nbrs k }
def PS.unhalf (σ : PS) (u v : Int) : PS := { σ with nbrs := fun k => if k = u then (σ.nbrs u).filter (· ≠ v) else σ.nbrs k }
def PS.emptyRow (σ : PS) (u : Int) : PS := { σ with nbrs := fun k => if k = u then [] else σ.nbrs k }
def PS.setW (σ : PS) (i j : Int) (d : Addr) (x : Int × Option Int) : PS :=
  { σ with da := fun a b => if a = i ∧ b = j then d else σ.da a b, wt := fun a b => if a = i ∧ b = j then x else σ.wt a b }

section
variable {C C' : Led} {σ σ' : PS} {n : Int} {b : Addr} {T : Tag}
theorem DatOk.same {u v : Int} (h : DatOk C σ u v) (hs : Same T C C') (hT : T ≠ .data u v) (e1 : σ'.da u v = σ.da u v) (e2 : σ'.wt u v = σ.wt u v) : DatOk C' σ' u v := by
  obtain ⟨kvs, ep, h1, h2⟩ := h
  exact ⟨kvs, ep, by rw [e1]; exact hs _ _ h1 (by intro q; cases q; exact hT rfl), by rw [e2]; exact h2⟩
theorem RowAt.same (h : RowAt C σ n b) (hs : Same T C C') (h1 : T ≠ .row n) (h2 : ∀ u v, T ≠ .data u v) (en : σ'.nbrs n = σ.nbrs n) (e1 : σ'.da = σ.da) (e2 : σ'.wt = σ.wt) : RowAt C' σ' n b := by
  obtain ⟨r, ep, h3, h4, h5⟩ := h
  exact ⟨r, ep, hs _ _ h3 (by intro q; cases q; exact h1 rfl), by rw [en]; exact h4, fun q hq => ⟨by rw [e1]; exact (h5 q hq).1, (h5 q hq).2.same hs (h2 _ _) (by rw [e1]) (by rw [e2])⟩⟩
theorem AttrAt.same (h : AttrAt C n b) (hs : Same T C C') (h1 : T ≠ .attr n) : AttrAt C' n b := let ⟨ep, e⟩ := h; ⟨ep, hs _ _ e (by intro q; cases q; exact h1 rfl)⟩
end

section
variable {C C' : Led} {a : GA} {dv ev : Option Value} {gk : List (Str × Value)} {σ : PS}

theorem keys_stored_new {kvs : List (Int × Value)} {k : Int} {v : Value} (h : k ∉ kvs.map (·.1)) : stored kvs k v = kvs ++ [(k, v)] := by
  unfold stored
  rw [if_neg]
  rw [Bool.not_eq_true, List.any_eq_false]
  intro x hx
  rw [decide_eq_true_eq]
  rintro rfl
  exact h (List.mem_map_of_mem hx)
theorem keys_stored {kvs : List (Int × Value)} {k : Int} {v : Value} : (stored kvs k v).map (·.1) = ins (kvs.map (·.1)) k := by
  unfold stored ins
  by_cases h : (kvs.any fun kv => decide (kv.1 = k)) = true
  · rw [if_pos h, keys_map_store, if_pos]
    obtain ⟨x, hx, e⟩ := List.any_eq_true.mp h
    exact List.mem_map.mpr ⟨x, hx, of_decide_eq_true e⟩
  · rw [if_neg h, if_neg]
    · simp
    · intro hm
      obtain ⟨x, hx, e⟩ := List.mem_map.mp hm
      exact h (List.any_eq_true.mpr ⟨x, hx, decide_eq_true e⟩)
theorem mem_stored {kvs : List (Int × Value)} {k : Int} {v : Value} {q : Int × Value} (h : q ∈ stored kvs k v) : q = (k, v) ∨ (q ∈ kvs ∧ q.1 ≠ k) := by
  unfold stored at h
  split at h
  · obtain ⟨x, hx, rfl⟩ := List.mem_map.mp h
    by_cases e : x.1 = k
    · left; rw [if_pos e, e]
    · right; rw [if_neg e]; exact ⟨hx, e⟩
  · rename_i hn
    rcases List.mem_append.mp h with h | h
    · refine .inr ⟨h, fun e => hn (List.any_eq_true.mpr ⟨q, h, decide_eq_true e⟩)⟩
    · exact .inl (List.mem_singleton.mp h)
theorem keys_without {kvs : List (Int × Value)} {k : Int} : (without kvs k).map (·.1) = (kvs.map (·.1)).filter (· ≠ k) := by
  unfold without
  rw [List.filter_map]; rfl

/-- the node's row put into _adj -/
theorem Gr.putA (H : Gr C a dv ev gk σ) {n : Int} {ra : Addr} {ak : List (Int × Value)} {ep e0 e1 : Nat} (had : C a.ad = some (.di .adj ak ep)) (hn : n ∉ σ.an) (hra : C ra = some (.di (.row n) [] e0)) :
    Gr (upd C a.ad (.di .adj (stored ak n (.ref ra)) e1)) a dv ev gk (σ.putA n) := by
  have hs : Same .adj C (upd C a.ad (.di .adj (stored ak n (.ref ra)) e1)) := .upd had rfl
  refine ⟨hs _ _ H.x (by intro q; cases q), hs _ _ H.dx (by intro q; cases q), H.gr.imp fun _ e => hs _ _ e (by intro q; cases q), ?_, ⟨H.tb.1.imp fun _ e => hs _ _ e (by intro q; cases q), H.tb.2.imp fun _ e => hs _ _ e (by intro q; cases q)⟩, ?_⟩
  · obtain ⟨nk, e, h1, h2, h3⟩ := H.nd
    exact ⟨nk, e, hs _ _ h1 (by intro q; cases q), h2, fun q hq => let ⟨b, e, h⟩ := h3 q hq; ⟨b, e, h.same hs (by intro q; cases q)⟩⟩
  · obtain ⟨ak', e, h1, h2, h3⟩ := H.ad
    rw [had] at h1; cases h1
    have hk : n ∉ ak.map (·.1) := by rw [h2]; exact hn
    refine ⟨_, e1, upd_same .., by rw [keys_stored_new hk, List.map_append, h2]; rfl, fun q hq => ?_⟩
    rcases mem_stored hq with rfl | ⟨hq, hne⟩
    · exact ⟨ra, rfl, [], e0, hs _ _ hra (by intro q; cases q), by simp [PS.putA], fun _ h => nomatch h⟩
    · obtain ⟨b, e, h⟩ := h3 q hq
      exact ⟨b, e, h.same hs (by intro q; cases q) (by intro _ _ q; cases q) (by show (if q.1 = n then [] else σ.nbrs q.1) = _; rw [if_neg hne]) rfl rfl⟩
/-- the node put into _node -/
theorem Gr.putN (H : Gr C a dv ev gk σ) {n : Int} {na : Addr} {nk : List (Int × Value)} {ep e0 e1 : Nat} (hnd : C a.nd = some (.di .node nk ep)) (hn : n ∉ σ.nodes) (hna : C na = some (.ds (.attr n) [] e0)) :
    Gr (upd C a.nd (.di .node (stored nk n (.ref na)) e1)) a dv ev gk (σ.putN n) := by
  have hs : Same .node C (upd C a.nd (.di .node (stored nk n (.ref na)) e1)) := .upd hnd rfl
  refine ⟨hs _ _ H.x (by intro q; cases q), hs _ _ H.dx (by intro q; cases q), H.gr.imp fun _ e => hs _ _ e (by intro q; cases q), ?_, ⟨H.tb.1.imp fun _ e => hs _ _ e (by intro q; cases q), H.tb.2.imp fun _ e => hs _ _ e (by intro q; cases q)⟩, ?_⟩
  · obtain ⟨nk', e, h1, h2, h3⟩ := H.nd
    rw [hnd] at h1; cases h1
    have hk : n ∉ nk.map (·.1) := by rw [h2]; exact hn
    refine ⟨_, e1, upd_same .., by rw [keys_stored_new hk, List.map_append, h2]; rfl, fun q hq => ?_⟩
    rcases mem_stored hq with rfl | ⟨hq, hne⟩
    · exact ⟨na, rfl, e0, hs _ _ hna (by intro q; cases q)⟩
    · obtain ⟨b, e, h⟩ := h3 q hq
      exact ⟨b, e, h.same hs (by intro q; cases q)⟩
  · obtain ⟨ak, e, h1, h2, h3⟩ := H.ad
    exact ⟨ak, e, hs _ _ h1 (by intro q; cases q), h2, fun q hq => let ⟨b, e, h⟩ := h3 q hq; ⟨b, e, h.same hs (by intro q; cases q) (by intro _ _ q; cases q) rfl rfl rfl⟩⟩
/-- the node taken out of _node -/
theorem Gr.delN (H : Gr C a dv ev gk σ) {n : Int} {nk : List (Int × Value)} {ep e1 : Nat} (hnd : C a.nd = some (.di .node nk ep)) :
    Gr (upd C a.nd (.di .node (without nk n) e1)) a dv ev gk (σ.delN n) := by
  have hs : Same .node C (upd C a.nd (.di .node (without nk n) e1)) := .upd hnd rfl
  refine ⟨hs _ _ H.x (by intro q; cases q), hs _ _ H.dx (by intro q; cases q), H.gr.imp fun _ e => hs _ _ e (by intro q; cases q), ?_, ⟨H.tb.1.imp fun _ e => hs _ _ e (by intro q; cases q), H.tb.2.imp fun _ e => hs _ _ e (by intro q; cases q)⟩, ?_⟩
  · obtain ⟨nk', e, h1, h2, h3⟩ := H.nd
    rw [hnd] at h1; cases h1
    refine ⟨_, e1, upd_same .., by rw [keys_without, h2]; rfl, fun q hq => ?_⟩
    obtain ⟨b, e, h⟩ := h3 q (List.mem_filter.mp hq).1
    exact ⟨b, e, h.same hs (by intro q; cases q)⟩
  · obtain ⟨ak, e, h1, h2, h3⟩ := H.ad
    exact ⟨ak, e, hs _ _ h1 (by intro q; cases q), h2, fun q hq => let ⟨b, e, h⟩ := h3 q hq; ⟨b, e, h.same hs (by intro q; cases q) (by intro _ _ q; cases q) rfl rfl rfl⟩⟩
/-- the node's row taken out of _adj -/
theorem Gr.delA (H : Gr C a dv ev gk σ) {n : Int} {ak : List (Int × Value)} {ep e1 : Nat} (had : C a.ad = some (.di .adj ak ep)) :
    Gr (upd C a.ad (.di .adj (without ak n) e1)) a dv ev gk (σ.delA n) := by
  have hs : Same .adj C (upd C a.ad (.di .adj (without ak n) e1)) := .upd had rfl
  refine ⟨hs _ _ H.x (by intro q; cases q), hs _ _ H.dx (by intro q; cases q), H.gr.imp fun _ e => hs _ _ e (by intro q; cases q), ?_, ⟨H.tb.1.imp fun _ e => hs _ _ e (by intro q; cases q), H.tb.2.imp fun _ e => hs _ _ e (by intro q; cases q)⟩, ?_⟩
  · obtain ⟨nk, e, h1, h2, h3⟩ := H.nd
    exact ⟨nk, e, hs _ _ h1 (by intro q; cases q), h2, fun q hq => let ⟨b, e, h⟩ := h3 q hq; ⟨b, e, h.same hs (by intro q; cases q)⟩⟩
  · obtain ⟨ak', e, h1, h2, h3⟩ := H.ad
    rw [had] at h1; cases h1
    refine ⟨_, e1, upd_same .., by rw [keys_without, h2]; rfl, fun q hq => ?_⟩
    obtain ⟨hq, hne⟩ := List.mem_filter.mp hq
    have hne : q.1 ≠ n := of_decide_eq_true hne
    obtain ⟨b, e, h⟩ := h3 q hq
    exact ⟨b, e, h.same hs (by intro q; cases q) (by intro _ _ q; cases q) (by show (if q.1 = n then [] else σ.nbrs q.1) = _; rw [if_neg hne]) rfl rfl⟩
theorem key_eq {kvs : List (Int × Value)} (hn : (kvs.map (·.1)).Nodup) {k : Int} {u v : Value} (hu : (k, u) ∈ kvs) (hv : (k, v) ∈ kvs) : u = v := by
  induction kvs with
  | nil => cases hu
  | cons p l ih =>
    rw [List.map_cons, List.nodup_cons] at hn
    cases hu with
    | head => cases hv with
      | head => rfl
      | tail _ h2 => exact absurd (List.mem_map.mpr ⟨(k, v), h2, rfl⟩ : k ∈ l.map (·.1)) hn.1
    | tail _ h1 => cases hv with
      | head => exact absurd (List.mem_map.mpr ⟨(k, u), h1, rfl⟩ : k ∈ l.map (·.1)) hn.1
      | tail _ h2 => exact ih hn.2 h1 h2
/-- a row changed -/
theorem Gr.row (H : Gr C a dv ev gk σ) {n : Int} {b : Addr} {ak r r' : List (Int × Value)} {ea ep e1 : Nat} {l : List Int} (had : C a.ad = some (.di .adj ak ea)) (hin : (n, Value.ref b) ∈ ak) (han : σ.an.Nodup) (hb : C b = some (.di (.row n) r ep))
    (hl : r'.map (·.1) = l) (hr : ∀ q ∈ r', q.2 = .ref (σ.da (min n q.1) (max n q.1)) ∧ DatOk C σ (min n q.1) (max n q.1)) :
    Gr (upd C b (.di (.row n) r' e1)) a dv ev gk { σ with nbrs := fun k => if k = n then l else σ.nbrs k } := by
  have hs : Same (.row n) C (upd C b (.di (.row n) r' e1)) := .upd hb rfl
  refine ⟨hs _ _ H.x (by intro q; cases q), hs _ _ H.dx (by intro q; cases q), H.gr.imp fun _ e => hs _ _ e (by intro q; cases q), ?_, ⟨H.tb.1.imp fun _ e => hs _ _ e (by intro q; cases q), H.tb.2.imp fun _ e => hs _ _ e (by intro q; cases q)⟩, ?_⟩
  · obtain ⟨nk, e, h1, h2, h3⟩ := H.nd
    exact ⟨nk, e, hs _ _ h1 (by intro q; cases q), h2, fun q hq => let ⟨b, e, h⟩ := h3 q hq; ⟨b, e, h.same hs (by intro q; cases q)⟩⟩
  · obtain ⟨ak', e, h1, h2, h3⟩ := H.ad
    rw [had] at h1; cases h1
    refine ⟨ak, ea, hs _ _ had (by intro q; cases q), h2, fun q hq => ?_⟩
    obtain ⟨b', e', h⟩ := h3 q hq
    obtain ⟨k, v⟩ := q
    dsimp only at e' h ⊢
    by_cases hk : k = n
    · subst hk
      have := key_eq (by rw [h2]; exact han) hin hq
      subst this
      refine ⟨b, rfl, r', e1, upd_same .., by rw [hl]; exact (if_pos rfl).symm, fun z hz => ⟨(hr z hz).1, (hr z hz).2.same hs (by intro q; cases q) rfl rfl⟩⟩
    · refine ⟨b', e', h.same hs (by intro q; cases q; exact hk rfl) (by intro _ _ q; cases q) (by show (if k = n then l else σ.nbrs k) = _; rw [if_neg hk]) rfl rfl⟩

/-- what is known of a node's row -/
theorem Gr.rowOf (H : Gr C a dv ev gk σ) {ak : List (Int × Value)} {ea : Nat} (had : C a.ad = some (.di .adj ak ea)) {n : Int} (hn : n ∈ σ.an) : ∃ b r ep, (n, Value.ref b) ∈ ak ∧ C b = some (.di (.row n) r ep) ∧ r.map (·.1) = σ.nbrs n ∧
    ∀ q ∈ r, q.2 = .ref (σ.da (min n q.1) (max n q.1)) ∧ DatOk C σ (min n q.1) (max n q.1) := by
  obtain ⟨ak', e, h1, h2, h3⟩ := H.ad
  rw [had] at h1; cases h1
  rw [← h2] at hn
  obtain ⟨⟨k, v⟩, hq, rfl⟩ := List.mem_map.mp hn
  obtain ⟨b, e', r, ep, h4, h5, h6⟩ := h3 _ hq
  dsimp only at e'
  subst e'
  exact ⟨b, r, ep, hq, h4, h5, h6⟩
theorem valueAt_of_mem {kvs : List (Int × Value)} (hn : (kvs.map (·.1)).Nodup) {k : Int} {v : Value} (h : (k, v) ∈ kvs) : valueAt kvs k = some v := by
  unfold valueAt
  cases q : kvs.find? fun kv => decide (kv.1 = k) with
  | none =>
    rw [List.find?_eq_none] at q
    exact absurd (decide_eq_true rfl) (q _ h)
  | some kv =>
    have h1 := List.mem_of_find?_eq_some q
    have h2 : kv.1 = k := by simpa using List.find?_some q
    obtain ⟨k', v'⟩ := kv
    dsimp only at h2; subst h2
    rw [key_eq hn h1 h]; rfl
theorem valueAt_none {kvs : List (Int × Value)} {k : Int} (h : k ∉ kvs.map (·.1)) : valueAt kvs k = none := by
  unfold valueAt
  rw [List.find?_eq_none.mpr]; rfl
  intro kv hkv
  rw [decide_eq_true_eq]
  rintro rfl
  exact h (List.mem_map_of_mem hkv)
theorem valueAt_isSome {kvs : List (Int × Value)} {k : Int} : (valueAt kvs k).isSome = decide (k ∈ kvs.map (·.1)) := by
  by_cases h : k ∈ kvs.map (·.1)
  · rw [decide_eq_true h]
    cases q : valueAt kvs k with
    | some _ => rfl
    | none =>
      unfold valueAt at q
      rw [Option.map_eq_none_iff, List.find?_eq_none] at q
      obtain ⟨kv, hkv, rfl⟩ := List.mem_map.mp h
      exact absurd (decide_eq_true rfl) (q _ hkv)
  · rw [valueAt_none h, decide_eq_false h]; rfl

/-- a pair's data made or changed: no row that stands may hold the pair under another dict -/
theorem Gr.setW (H : Gr C a dv ev gk σ) {i j : Int} {d : Addr} {kvs : List (Str × Value)} {c₀ : Cell} {e1 : Nat} {x : Int × Option Int} (hd : C d = some c₀) (ht : tagOf c₀ = some (.data i j)) (hx : KvsOk kvs x)
    (hold : ∀ n ∈ σ.an, ∀ v ∈ σ.nbrs n, min n v = i → max n v = j → σ.da i j = d) :
    Gr (upd C d (.ds (.data i j) kvs e1)) a dv ev gk (σ.setW i j d x) := by
  have hs : Same (.data i j) C (upd C d (.ds (.data i j) kvs e1)) := .upd hd ht
  refine ⟨hs _ _ H.x (by intro q; cases q), hs _ _ H.dx (by intro q; cases q), H.gr.imp fun _ e => hs _ _ e (by intro q; cases q), ?_, ⟨H.tb.1.imp fun _ e => hs _ _ e (by intro q; cases q), H.tb.2.imp fun _ e => hs _ _ e (by intro q; cases q)⟩, ?_⟩
  · obtain ⟨nk, e, h1, h2, h3⟩ := H.nd
    exact ⟨nk, e, hs _ _ h1 (by intro q; cases q), h2, fun q hq => let ⟨b, e, h⟩ := h3 q hq; ⟨b, e, h.same hs (by intro q; cases q)⟩⟩
  · obtain ⟨ak, e, h1, h2, h3⟩ := H.ad
    refine ⟨ak, e, hs _ _ h1 (by intro q; cases q), h2, fun q hq => ?_⟩
    obtain ⟨b, e', r, ep, h4, h5, h6⟩ := h3 q hq
    refine ⟨b, e', r, ep, hs _ _ h4 (by intro q; cases q), h5, fun z hz => ?_⟩
    obtain ⟨g1, g2⟩ := h6 z hz
    by_cases hij : min q.1 z.1 = i ∧ max q.1 z.1 = j
    · have hda := hold q.1 (h2 ▸ List.mem_map_of_mem hq) z.1 (h5 ▸ List.mem_map_of_mem hz) hij.1 hij.2
      refine ⟨?_, ?_⟩
      · rw [g1, hij.1, hij.2, hda]; show _ = Value.ref (if i = i ∧ j = j then d else σ.da i j); rw [if_pos ⟨rfl, rfl⟩]
      · rw [hij.1, hij.2]
        exact ⟨kvs, e1, by show upd C d _ (if i = i ∧ j = j then d else σ.da i j) = _; rw [if_pos ⟨rfl, rfl⟩, upd_same], by show KvsOk kvs (if i = i ∧ j = j then x else σ.wt i j); rw [if_pos ⟨rfl, rfl⟩]; exact hx⟩
    · have e1 : (σ.setW i j d x).da (min q.1 z.1) (max q.1 z.1) = σ.da (min q.1 z.1) (max q.1 z.1) := if_neg hij
      have e2 : (σ.setW i j d x).wt (min q.1 z.1) (max q.1 z.1) = σ.wt (min q.1 z.1) (max q.1 z.1) := if_neg hij
      exact ⟨by rw [e1]; exact g1, g2.same hs (by intro q; cases q; exact hij ⟨rfl, rfl⟩) e1 e2⟩
end
end Mine
end
section -- B4
open PySem PySem.W PySem.Calls PyProof.Rows
namespace Mine

def PS.ens (σ : PS) (n : Int) : PS := if n ∈ σ.nodes then σ else (σ.putA n).putN n

/-- a callee's local dicts and the like may be forgotten: the graph stays -/
theorem Gr.same {C C' : Led} {a : GA} {dv ev : Option Value} {gk : List (Str × Value)} {σ : PS} (H : Gr C a dv ev gk σ) (x : Ext C C') : Gr C' a dv ev gk σ := H.ext x

section
variable {p : Program} {loose : List Str} {mg mb : Str → Option Value} 
  {w : World} {g : Heap} {L : Addr} {m : List (Str × Value)} {F : List (Addr × List (Str × Value))} {C : Led} {G : Array GenState} {O : OsState} {s : Shared} {A : Around} {E : Value → Shared → Prop}
  {env : Env}

theorem PS.WF.ens {σ : PS} (W : σ.WF) {n : Int} (hr : 0 ≤ n ∧ n < 6) : (σ.ens n).WF := by
  unfold PS.ens
  by_cases h : n ∈ σ.nodes
  · rw [if_pos h]; exact W
  · rw [if_neg h]
    have hn : ∀ k, k ∈ σ.nbrs n → False := fun k hk => h (W.mem n k hk).1
    refine ⟨by show σ.an ++ [n] = σ.nodes ++ [n]; rw [W.an], ?_, ?_, ?_, ?_⟩
    · exact List.nodup_append.mpr ⟨W.nd, List.nodup_cons.mpr ⟨by simp, List.nodup_nil⟩, fun x hx y hy => by rw [List.mem_singleton] at hy; subst hy; rintro rfl; exact h hx⟩
    · intro k hk
      rcases List.mem_append.mp hk with hk | hk
      · exact W.rng k hk
      · rw [List.mem_singleton] at hk; subst hk; exact hr
    · intro k
      show (if k = n then [] else σ.nbrs k).Nodup
      split
      · exact List.nodup_nil
      · exact W.nn k
    · intro k v hv
      have hv' : v ∈ (if k = n then [] else σ.nbrs k) := hv
      by_cases hk : k = n
      · rw [if_pos hk] at hv'; cases hv'
      · rw [if_neg hk] at hv'
        obtain ⟨h1, h2, h3⟩ := W.mem k v hv'
        refine ⟨List.mem_append_left _ h1, List.mem_append_left _ h2, ?_⟩
        show k ∈ (if v = n then [] else σ.nbrs v)
        rw [if_neg (by rintro rfl; exact h h2)]; exact h3

theorem PS.WF.len {σ : PS} (W : σ.WF) : σ.nodes.length ≤ 6 := small_len W.nd W.rng
theorem PS.WF.lenN {σ : PS} (W : σ.WF) (n : Int) : (σ.nbrs n).length ≤ 6 := small_len (W.nn n) fun v hv => W.rng v (W.mem n v hv).2.1

/-- «if u not in self._node: ..», the two dicts of a new node -/
theorem r_ensure {a : GA} {dv ev : Option Value} {gk : List (Str × Value)} {σ : PS} {xu : Str} {u : Int} {t : Tok} {p1 p2 p3 p4 p5 p6 p7 p8 p9 p10 p11 p12 p13 p14 p15 p16 p17 p18 p19 p20 p21 p22 p23 p24 p25 : Pos} {k0 : Nat} {rs : List Stmt} {Q : Flow → Shared → Prop}
    (S : St w g L m F C G O s) (D : Wd (hd.heap_39 w.params) p loose mg mb g) (hroom : A.depth < recursionLimit) (H : Gr C a dv ev gk σ) (W : σ.WF)
    (hself : m.lookup (Str.ofString "self") = some (.ref a.x)) (hu : m.lookup xu = some (.int u t))
    (hk : env.scope.kind = .function) (hL : env.locals = L) (hx : env.kindOf xu = some .local) (hy : env.kindOf "self" = some .local) (hxd : (xu == ("__debug__" : Str)) = false)
    (sw1 : swapsWith (.Call (.Attribute (.Name "self" p13) "adjlist_inner_dict_factory" p14) [] [] p15) (some (.Subscript (.Attribute (.Name "self" p9) "_adj" p10) (.Name xu p11) p12)) p16.line env = pure false)
    (sw2 : swapsWith (.Call (.Attribute (.Name "self" p21) "node_attr_dict_factory" p22) [] [] p23) (some (.Subscript (.Attribute (.Name "self" p17) "_node" p18) (.Name xu p19) p20)) p24.line env = pure false)
    (he1 : MForm (.Name "self" p13) "adjlist_inner_dict_factory" p14 [] [] p15 env) (he2 : MForm (.Name "self" p21) "node_attr_dict_factory" p22 [] [] p23 env)
    (h : ∀ s' C', St w g L m F C' G O s' → Gr C' a dv ev gk (σ.ens u) → KeepsP C C' → Q .next s') :
    wpAny (model PR w) A (exec (.If (.Compare (.Name xu p1) [.NotIn] [.Attribute (.Name "self" p2) "_node" p3] p4)
      [.If (.Compare (.Name xu p5) [.Is] [.Constant .none k0 p6] p7) rs [] p8,
       .Assign [.Subscript (.Attribute (.Name "self" p9) "_adj" p10) (.Name xu p11) p12] (.Call (.Attribute (.Name "self" p13) "adjlist_inner_dict_factory" p14) [] [] p15) p16,
       .Assign [.Subscript (.Attribute (.Name "self" p17) "_node" p18) (.Name xu p19) p20] (.Call (.Attribute (.Name "self" p21) "node_attr_dict_factory" p22) [] [] p23) p24] [] p25) env) Q E s := by
  obtain ⟨nk, en, hnd, hnk, _⟩ := H.nd
  obtain ⟨ak, ea, had, hak, _⟩ := H.ad
  refine wpAny_If (wpAny_isTrue_Compare1 (r_loc S hu ?_ hk hx hxd hL))
  refine r_nattr S D hself H.x H.dx (ok_node w) rfl rfl (fun s1 S1 => r_notinI S1 hnd fun s2 S2 => wpAny_truthy_bool ?_) hk hy (by decide) hL
  rw [valueAt_isSome, hnk]
  by_cases hin : u ∈ σ.nodes
  · rw [decide_eq_true hin]
    refine wpAny_execs_nil (h _ _ S2 ?_ (.refl _))
    unfold PS.ens; rw [if_pos hin]; exact H
  · rw [decide_eq_false hin]
    show wpAny _ _ (execs _ _) _ _ _
    refine wpAny_execs_cons (wpAny_If (wpAny_isTrue_Compare1 (r_loc S2 hu (wpAny_Constant_none (is_none (wpAny_truthy_bool ?_))) hk hx hxd hL)))
    refine wpAny_execs_nil (wpAny_execs_cons (wpAny_Assign_Subscript (hs := sw1) ?_))
    refine r_mcall0 S2 D hself H.x H.dx (pl_617 w _) (m_359 w) (fn_359 w) (kp_359 w) rfl ?_ he1 hk hy (by decide) hL
    refine call_359 (.row u) S2 D hroom fun ra s3 hra S3 => ?_
    have X3 : Ext C (upd C ra (.di (.row u) [] 0)) := .upd hra
    have H3 := H.ext X3
    refine r_nattr S3 D hself H3.x H3.dx (ok_adj w) rfl rfl (fun s4 S4 => r_loc S4 hu ?_ hk hx hxd hL) hk hy (by decide) hL
    refine r_setI S4 (X3 _ _ had) (by have := W.len; rw [← W.an, ← hak, List.length_map] at this; omega) fun e4 s5 S5 => ?_
    have hin' : u ∉ σ.an := by rw [W.an]; exact hin
    have H5 := H3.putA (e1 := e4) (X3 _ _ had) hin' (upd_same ..)
    have K5 : KeepsP C _ := X3.keepsP.trans (KeepsP.upd (c' := .di .adj (stored ak u (.ref ra)) e4) (X3 _ _ had) (by intro q; cases q))
    obtain ⟨nk5, en5, hnd5, hnk5, _⟩ := H5.nd
    refine wpAny_execs_cons (wpAny_Assign_Subscript (hs := sw2) ?_)
    refine r_mcall0 S5 D hself H5.x H5.dx (pl_617 w _) (m_345 w) (fn_345 w) (kp_345 w) rfl ?_ he2 hk hy (by decide) hL
    refine call_345 (.attr u) S5 D hroom fun na s6 hna S6 => ?_
    have X6 := Ext.upd (c := .ds (.attr u) [] 0) hna
    have H6 := H5.ext X6
    refine r_nattr S6 D hself H6.x H6.dx (ok_node w) rfl rfl (fun s7 S7 => r_loc S7 hu ?_ hk hx hxd hL) hk hy (by decide) hL
    refine r_setI S7 (X6 _ _ hnd5) (by have := W.len; rw [show σ.nodes = nk5.map (·.1) from hnk5.symm, List.length_map] at this; omega) fun e8 s8 S8 => ?_
    have H8 := H6.putN (e1 := e8) (X6 _ _ hnd5) hin (upd_same ..)
    refine wpAny_execs_nil (h _ _ S8 ?_ ?_)
    · unfold PS.ens; rw [if_neg hin]; exact H8
    · exact (K5.trans X6.keepsP).trans (KeepsP.upd (X6 _ _ hnd5) (by intro q; cases q))
end
end Mine
end
section -- B5
open PySem PySem.W PySem.Calls PyProof.Rows
namespace Mine

theorem kvs_w {kvs : List (Str × Value)} {o : Int × Option Int} (h : KvsOk kvs o) (n : Int) (t : Tok) : KvsOk (merged kvs [(Str.ofString "w", .int n t)]) (n, o.2) := by
  obtain ⟨w, v⟩ := o
  cases v with
  | none => obtain ⟨t1, rfl⟩ := h; exact ⟨t, rfl⟩
  | some v => obtain ⟨t1, t2, rfl⟩ := h; exact ⟨t, t2, rfl⟩
theorem kvs_w0 (n : Int) (t : Tok) : KvsOk (merged [] [(Str.ofString "w", .int n t)]) (n, none) := ⟨t, rfl⟩
theorem kvs_v {kvs : List (Str × Value)} {o : Int × Option Int} (h : KvsOk kvs o) (n : Int) (t : Tok) : KvsOk (merged kvs [(Str.ofString "v", .int n t)]) (o.1, some n) := by
  obtain ⟨w, v⟩ := o
  cases v with
  | none => obtain ⟨t1, rfl⟩ := h; exact ⟨t1, t, rfl⟩
  | some v => obtain ⟨t1, t2, rfl⟩ := h; exact ⟨t1, t, rfl⟩
theorem kvs_0 {kvs : List (Str × Value)} {o : Int × Option Int} (h : KvsOk kvs o) : kvs.length ≤ 2 := by
  obtain ⟨w, v⟩ := o
  cases v with
  | none => obtain ⟨t1, rfl⟩ := h; exact Nat.le_succ 1
  | some v => obtain ⟨t1, t2, rfl⟩ := h; exact Nat.le_refl _

/-- what a pair's data become when it is told again -/
def mrg (o : Option (Int × Option Int)) (n : Int × Option Int) : Int × Option Int := (n.1, match n.2 with | some v => some v | none => o.bind (·.2))
def PS.ij (σ : PS) (u v : Int) : Option (Int × Option Int) := if v ∈ σ.nbrs u then some (σ.wt (min u v) (max u v)) else none
def PS.addE (σ : PS) (u v : Int) (d : Addr) (x : Int × Option Int) : PS := ((σ.setW (min u v) (max u v) d x).half u v).half v u

section
variable {p : Program} {loose : List Str} {mg mb : Str → Option Value} 
  {w : World} {g : Heap} {L : Addr} {m : List (Str × Value)} {F : List (Addr × List (Str × Value))} {C : Led} {G : Array GenState} {O : OsState} {s : Shared} {A : Around} {E : Value → Shared → Prop}

theorem Gr.half {C : Led} {a : GA} {dv ev : Option Value} {gk : List (Str × Value)} {σ : PS} (H : Gr C a dv ev gk σ) (han : σ.an.Nodup) {u v : Int} {b d : Addr} {ak r : List (Int × Value)} {ea ep e1 : Nat} (had : C a.ad = some (.di .adj ak ea)) (hin : (u, Value.ref b) ∈ ak)
    (hb : C b = some (.di (.row u) r ep)) (hr : r.map (·.1) = σ.nbrs u ∧ ∀ q ∈ r, q.2 = .ref (σ.da (min u q.1) (max u q.1)) ∧ DatOk C σ (min u q.1) (max u q.1)) (hd : σ.da (min u v) (max u v) = d) (hx : DatOk C σ (min u v) (max u v)) :
    Gr (upd C b (.di (.row u) (stored r v (.ref d)) e1)) a dv ev gk (σ.half u v) := by
  refine H.row (l := ins (σ.nbrs u) v) had hin han hb (by rw [keys_stored, hr.1]) fun q hq => ?_
  rcases mem_stored hq with rfl | ⟨hq, _⟩
  · exact ⟨by rw [hd], hx⟩
  · exact hr.2 q hq
end
end Mine
end
section -- B6
open PySem PySem.W PySem.Calls PyProof.Rows
namespace Mine
section
variable {p : Program} {loose : List Str} {mg mb : Str → Option Value} 
  {w : World} {g : Heap} {L : Addr} {m : List (Str × Value)} {F : List (Addr × List (Str × Value))} {C : Led} {G : Array GenState} {O : OsState} {s : Shared} {A : Around} {E : Value → Shared → Prop}
  {env : Env} {a : GA} {dv ev : Option Value} {gk : List (Str × Value)} {σ : PS}

/-- the names that a def's body reads are its own -/
def Loc (env : Env) (x : Str) : Prop := env.kindOf x = some .local ∧ (x == ("__debug__" : Str)) = false

theorem Gr.lenA (H : Gr C a dv ev gk σ) (W : σ.an.length ≤ 6) {ak : List (Int × Value)} {ea : Nat} (had : C a.ad = some (.di .adj ak ea)) : ak.length ≤ 6 := by
  obtain ⟨ak', e, h1, h2, _⟩ := H.ad
  rw [had] at h1; cases h1
  rw [← h2, List.length_map] at W; exact W

/-- self._adj[u], a row -/
theorem r_rowAt {xu : Str} {u : Int} {t : Tok} {p1 p2 p3 p4 : Pos} {ak : List (Int × Value)} {ea : Nat} {b : Addr} {Q : Value → Shared → Prop}
    (S : St w g L m F C G O s) (D : Wd (hd.heap_39 w.params) p loose mg mb g) (H : Gr C a dv ev gk σ) (han : σ.an.Nodup) (hself : m.lookup (Str.ofString "self") = some (.ref a.x)) (hu : m.lookup xu = some (.int u t))
    (hk : env.scope.kind = .function) (hL : env.locals = L) (hx : Loc env xu) (hy : Loc env "self") (had : C a.ad = some (.di .adj ak ea)) (hin : (u, Value.ref b) ∈ ak)
    (h : ∀ s', St w g L m F C G O s' → Q (.ref b) s') :
    wpAny (model PR w) A (eval (.Subscript (.Attribute (.Name "self" p1) "_adj" p2) (.Name xu p3) p4) env) Q E s := by
  have hn : (ak.map (·.1)).Nodup := S.nodupI had
  refine Subscript_ (r_nattr S D hself H.x H.dx (ok_adj w) rfl rfl (fun s1 S1 => r_loc S1 hu ?_ hk hx.1 hx.2 hL) hk hy.1 (by decide) hL)
  exact r_subI S1 had (valueAt_of_mem hn hin) h

/-- self._adj[u][v] = datadict -/
theorem r_stedge {xu xv xd : Str} {u v : Int} {t t' : Tok} {d : Addr} {p1 p2 p3 p4 p5 p6 p7 p8 : Pos} {Q : Flow → Shared → Prop}
    (S : St w g L m F C G O s) (D : Wd (hd.heap_39 w.params) p loose mg mb g) (H : Gr C a dv ev gk σ) (han : σ.an.Nodup) (hlen : (σ.nbrs u).length ≤ 6) (hua : u ∈ σ.an) (hself : m.lookup (Str.ofString "self") = some (.ref a.x)) (hu : m.lookup xu = some (.int u t)) (hv : m.lookup xv = some (.int v t')) (hdl : m.lookup xd = some (.ref d))
    (hk : env.scope.kind = .function) (hL : env.locals = L) (hx : Loc env xu) (hx' : Loc env xv) (hxd : Loc env xd) (hy : Loc env "self")
    (hd : σ.da (min u v) (max u v) = d) (hda : DatOk C σ (min u v) (max u v))
    (sw : swapsWith (.Name xd p7) (some (.Subscript (.Subscript (.Attribute (.Name "self" p1) "_adj" p2) (.Name xu p3) p4) (.Name xv p5) p6)) p8.line env = pure false)
    (h : ∀ s' C', St w g L m F C' G O s' → Gr C' a dv ev gk (σ.half u v) → KeepsP C C' → Same (.row u) C C' → Q .next s') :
    wpAny (model PR w) A (exec (.Assign [.Subscript (.Subscript (.Attribute (.Name "self" p1) "_adj" p2) (.Name xu p3) p4) (.Name xv p5) p6] (.Name xd p7) p8) env) Q E s := by
  obtain ⟨ak, ea, had, hak, hrows⟩ := H.ad
  obtain ⟨b, r, ep, hin, hb, hr1, hr2⟩ := H.rowOf had hua
  refine wpAny_Assign_Subscript (hs := sw) (r_loc S hdl ?_ hk hxd.1 hxd.2 hL)
  refine r_rowAt S D H han hself hu hk hL hx hy had hin fun s1 S1 => r_loc S1 hv ?_ hk hx'.1 hx'.2 hL
  refine r_setI S1 hb (by rw [← hr1, List.length_map] at hlen; omega) fun e1 s2 S2 => ?_
  exact h _ _ S2 (H.half han had hin hb ⟨hr1, hr2⟩ hd hda) (KeepsP.upd hb (by intro q; cases q)) (.upd hb rfl)

/-- datadict = self._adj[u].get(v, self.edge_attr_dict_factory()) -/
theorem r_getdat {xu xv xd : Str} {u v : Int} {t t' : Tok} {p1 p2 p3 p4 p5 p6 p7 p8 p9 p10 p11 p12 : Pos} {Q : Flow → Shared → Prop}
    (S : St w g L m F C G O s) (D : Wd (hd.heap_39 w.params) p loose mg mb g) (hroom : A.depth < recursionLimit) (H : Gr C a dv ev gk σ) (han : σ.an.Nodup) (hua : u ∈ σ.an) (hself : m.lookup (Str.ofString "self") = some (.ref a.x)) (hu : m.lookup xu = some (.int u t)) (hv : m.lookup xv = some (.int v t'))
    (hk : env.scope.kind = .function) (hL : env.locals = L) (hx : Loc env xu) (hx' : Loc env xv) (hxd : Loc env xd) (hy : Loc env "self")
    (sw : swapsWith (.Call (.Attribute (.Subscript (.Attribute (.Name "self" p1) "_adj" p2) (.Name xu p3) p4) "get" p5) [.Name xv p6, .Call (.Attribute (.Name "self" p7) "edge_attr_dict_factory" p8) [] [] p9] [] p10) (some (.Name xd p11)) p12.line env = pure false)
    (he1 : MForm (.Subscript (.Attribute (.Name "self" p1) "_adj" p2) (.Name xu p3) p4) "get" p5 [.Name xv p6, .Call (.Attribute (.Name "self" p7) "edge_attr_dict_factory" p8) [] [] p9] [] p10 env)
    (he2 : MForm (.Name "self" p7) "edge_attr_dict_factory" p8 [] [] p9 env)
    (h : ∀ s' C' d kvs ep, St w g L ((xd, .ref d) :: m) F C' G O s' → Gr C' a dv ev gk σ → Ext C C' → C' d = some (.ds (.data (min u v) (max u v)) kvs ep) →
      ((v ∈ σ.nbrs u ∧ KvsOk kvs (σ.wt (min u v) (max u v)) ∧ σ.da (min u v) (max u v) = d) ∨ (v ∉ σ.nbrs u ∧ kvs = [])) → Q .next s') :
    wpAny (model PR w) A (exec (.Assign [.Name xd p11] (.Call (.Attribute (.Subscript (.Attribute (.Name "self" p1) "_adj" p2) (.Name xu p3) p4) "get" p5) [.Name xv p6, .Call (.Attribute (.Name "self" p7) "edge_attr_dict_factory" p8) [] [] p9] [] p10) p12) env) Q E s := by
  obtain ⟨ak, ea, had, hak, hrows⟩ := H.ad
  obtain ⟨b, r, ep, hin, hb, hr1, hr2⟩ := H.rowOf had hua
  obtain ⟨pl, he1⟩ := he1
  refine wpAny_Assign_Name (hs := sw) (MethodCall_ (he := he1) ?_)
  refine r_rowAt S D H han hself hu hk hL hx hy had hin fun s1 S1 => ?_
  refine r_methD S1 hb (.inl ⟨_, _, _, rfl⟩) PySem.F.slot_dict_get ty_get ?_
  refine PyProof.Rows.callWith_method1 (he := rfl) ?_ (by rfl)
  refine wpAny_items_cons (he := rfl) (r_loc S1 hv ?_ hk hx'.1 hx'.2 hL)
  refine wpAny_items_cons (he := rfl) ?_
  refine r_mcall0 S1 D hself H.x H.dx (pl_617 w _) (m_366 w) (fn_366 w) (kp_366 w) rfl ?_ he2 hk hy.1 (by decide) hL
  refine call_366 (.data (min u v) (max u v)) S1 D hroom fun d s2 hd S2 => wpAny_items_nil ?_
  have X2 := Ext.upd (c := .ds (.data (min u v) (max u v)) [] 0) hd
  refine r_getI S2 (X2 _ _ hb) fun s3 S3 => ?_
  have hn : (r.map (·.1)).Nodup := S.nodupI hb
  by_cases hvr : v ∈ σ.nbrs u
  · have hvr' : v ∈ r.map (·.1) := by rw [hr1]; exact hvr
    obtain ⟨⟨k, z⟩, hz, rfl⟩ := List.mem_map.mp hvr'
    rw [valueAt_of_mem hn hz]
    obtain ⟨e1, kvs, ep', e2, e3⟩ := hr2 _ hz
    dsimp only at e1 e2 e3 ⊢
    subst e1
    exact r_store S3 (fun s4 S4 => h _ _ _ kvs ep' S4 (H.ext X2) X2 (X2 _ _ e2) (.inl ⟨hvr, e3, rfl⟩)) hk hxd.1 hL
  · rw [valueAt_none (by rw [hr1]; exact hvr)]
    exact r_store S3 (fun s4 S4 => h _ _ _ [] 0 S4 (H.ext X2) X2 (upd_same ..) (.inr ⟨hvr, rfl⟩)) hk hxd.1 hL

/-- datadict.update(attr) -/
theorem r_upddat {xd xe : Str} {i j : Int} {d e : Addr} {kvs ex : List (Str × Value)} {ep ep2 : Nat} {x : Int × Option Int} {p1 p2 p3 p4 p5 : Pos} {Q : Flow → Shared → Prop}
    (S : St w g L m F C G O s) (H : Gr C a dv ev gk σ) (hdl : m.lookup xd = some (.ref d)) (hel : m.lookup xe = some (.ref e)) (hd : C d = some (.ds (.data i j) kvs ep)) (he : C e = some (.ds .none ex ep2))
    (hk : env.scope.kind = .function) (hL : env.locals = L) (hxd : Loc env xd) (hxe : Loc env xe) (hz : kvs.length + ex.length ≤ 1000) (hx : KvsOk (merged kvs ex) x)
    (hold : ∀ n ∈ σ.an, ∀ v ∈ σ.nbrs n, min n v = i → max n v = j → σ.da i j = d)
    (hi : interactive env = false) (sw : swapsWith (.Call (.Attribute (.Name xd p1) "update" p2) [.Name xe p3] [] p4) none p5.line env = pure false)
    (he1 : MForm (.Name xd p1) "update" p2 [.Name xe p3] [] p4 env)
    (h : ∀ s' C' ep', St w g L m F C' G O s' → Gr C' a dv ev gk (σ.setW i j d x) → KeepsP C C' → C' d = some (.ds (.data i j) (merged kvs ex) ep') → Q .next s') :
    wpAny (model PR w) A (exec (.Expr (.Call (.Attribute (.Name xd p1) "update" p2) [.Name xe p3] [] p4) p5) env) Q E s := by
  obtain ⟨pl, he1⟩ := he1
  refine wpAny_Expr (hi := hi) (hs := sw) (MethodCall_ (he := he1) (r_loc S hdl ?_ hk hxd.1 hxd.2 hL))
  refine r_methD S hd (.inr (.inl ⟨_, _, _, rfl⟩)) PySem.F.slot_dict_update ty_update ?_
  refine PyProof.Rows.callWith_method1 (he := rfl) ?_ (by rfl)
  refine wpAny_items_cons (he := rfl) (r_loc S hel ?_ hk hxe.1 hxe.2 hL)
  refine wpAny_items_nil ?_
  refine r_updateS S hd he (ne_of_cells hd he (by intro q; cases q)) hz fun ep' s1 S1 => ?_
  exact h _ _ ep' S1 (H.setW hd rfl hx hold) (KeepsP.upd hd (by intro q; cases q)) (upd_same ..)
end
end Mine
end
section -- B7
open PySem PySem.W PySem.Calls PyProof.Rows
namespace Mine
section
variable {p : Program} {loose : List Str} {mg mb : Str → Option Value} 
  {w : World} {g : Heap} {L : Addr} {m : List (Str × Value)} {F : List (Addr × List (Str × Value))} {C : Led} {G : Array GenState} {O : OsState} {s : Shared} {A : Around} {E : Value → Shared → Prop}
  {env : Env} {a : GA} {dv ev : Option Value} {gk : List (Str × Value)} {σ : PS}

/-- x, y = (x', y'), all names of the frame's -/
theorem r_swapNames {x y x' y' : Str} {v1 v2 : Value} {p1 p2 p3 p4 p5 p6 p7 : Pos} {k1 k2 : Nat} {Q : Flow → Shared → Prop}
    (S : St w g L m F C G O s) (hh : A.handled = none) (h1 : m.lookup x' = some v1) (h2 : m.lookup y' = some v2)
    (hk : env.scope.kind = .function) (hL : env.locals = L) (hx : Loc env x) (hy : Loc env y) (hx' : Loc env x') (hy' : Loc env y')
    (hs : swapsWithSole [.Tuple [.Name x p1, .Name y p2] k1 p3] (.Tuple [.Name x' p4, .Name y' p5] k2 p6) p7.line env = pure false)
    (hw : swappedStores [.Tuple [.Name x p1, .Name y p2] k1 p3] (.Tuple [.Name x' p4, .Name y' p5] k2 p6) env = pure (some [x, y]))
    (h : ∀ s' C', St w g L ((x, v1) :: (y, v2) :: m) F C' G O s' → Ext C C' → Q .next s') :
    wpAny (model PR w) A (exec (.Assign [.Tuple [.Name x p1, .Name y p2] k1 p3] (.Tuple [.Name x' p4, .Name y' p5] k2 p6) p7) env) Q E s := by
  refine Assign_Tuple_swapped (hs := hs) (hw := hw) (r_tup ?_)
  refine wpAny_items_cons (he := rfl) (r_loc S h1 ?_ hk hx'.1 hx'.2 hL)
  refine wpAny_items_cons (he := rfl) (r_loc S h2 ?_ hk hy'.1 hy'.2 hL)
  refine wpAny_items_nil ⟨Nat.le_of_ble_eq_true rfl, g, L, m, F, C, G, O, S, fun t s1 ht S1 => ?_⟩
  refine r_unpackItems S1 hh (upd_same ..) rfl fun s2 S2 => ?_
  show wpAny _ _ (assignInOrder [bindName _ y, bindName _ x] [v2, v1]) _ _ _
  refine assignInOrder_cons (wpAny_bindName (r_store S2 (fun s3 S3 => ?_) hk hy.1 hL))
  refine assignInOrder_cons (wpAny_bindName (r_store S3 (fun s4 S4 => ?_) hk hx.1 hL))
  exact assignInOrder_nil (h _ _ S4 (.upd ht))
end

theorem ins_nodup {l : List Int} (h : l.Nodup) (v : Int) : (ins l v).Nodup := by
  unfold ins
  split
  · exact h
  · exact List.nodup_append.mpr ⟨h, List.nodup_cons.mpr ⟨by simp, List.nodup_nil⟩, fun x hx y hy => by rw [List.mem_singleton] at hy; subst hy; rintro rfl; contradiction⟩
theorem mem_ins {l : List Int} {v x : Int} : x ∈ ins l v ↔ x ∈ l ∨ x = v := by
  unfold ins
  split
  · constructor
    · exact .inl
    · rintro (h | rfl)
      · exact h
      · assumption
  · simp
theorem PS.setW2 (σ : PS) (i j : Int) (d : Addr) (x y : Int × Option Int) : (σ.setW i j d x).setW i j d y = σ.setW i j d y := by
  unfold PS.setW
  congr 1
  · funext a b; by_cases h : a = i ∧ b = j
    · simp [h]
    · simp [h]
  · funext a b; by_cases h : a = i ∧ b = j
    · simp [h]
    · simp [h]

/-- a pair that its row does not hold stands in no row -/
theorem PS.WF.apart {σ : PS} (W : σ.WF) {u v : Int} (h : v ∉ σ.nbrs u) {n k : Int} (hk : k ∈ σ.nbrs n) (h1 : min n k = min u v) (h2 : max n k = max u v) : False := by
  have h3 := (W.mem n k hk).2.2
  by_cases e : n = u
  · subst e
    have : k = v := by omega
    subst this; exact h hk
  · have e1 : n = v := by omega
    have e2 : k = u := by omega
    subst e1; subst e2; exact h h3
theorem ens_mem {σ : PS} {u : Int} : u ∈ (σ.ens u).nodes := by
  unfold PS.ens
  split
  · assumption
  · exact List.mem_append_right _ (.head _)
theorem ens_keep {σ : PS} {u v : Int} (h : v ∈ σ.nodes) : v ∈ (σ.ens u).nodes := by
  unfold PS.ens
  split
  · exact h
  · exact List.mem_append_left _ h

example : hd.heap_39 = hd.heap_39 ∧ PySem.Challenge.rw_ez0179_01 = PySem.Challenge.rw_ez0179_01 := by k_fill; exact ⟨rfl, rfl⟩
theorem m_add_edge (w : World) : findIn (hd.heap_39 w.params) (.ref 617) "add_edge" = some (some (.ref 485)) := by kernel_rfl

section
variable {p : Program} {loose : List Str} {mg mb : Str → Option Value} 
  {w : World} {g : Heap} {L : Addr} {m : List (Str × Value)} {F : List (Addr × List (Str × Value))} {C : Led} {G : Array GenState} {O : OsState} {s : Shared} {A : Around} {E Q : Value → Shared → Prop}
  {a : GA} {dv ev : Option Value} {gk : List (Str × Value)} {σ : PS}

theorem lookup_cons_ne {x y : Str} {v u : Value} {l : List (Str × Value)} (h : l.lookup x = some u) (hn : (x == y) = false) : ((y, v) :: l).lookup x = some u := by
  rw [List.lookup_cons, hn]; exact h

theorem add_edge_spec (S : St w g L m F C G O s) (D : Wd (hd.heap_39 w.params) p loose mg mb g) (hroom : A.depth + 5 < recursionLimit) (hh : A.handled = none)
    (H : Gr C a dv ev gk σ) (W : σ.WF) {u v n : Int} {t1 t2 t3 : Tok} (hu : 0 ≤ u ∧ u < 6) (hv : 0 ≤ v ∧ v < 6)
    (h : ∀ s' C' d, St w g L m F C' G O s' → Gr C' a dv ev gk (((σ.ens u).ens v).addE u v d (mrg (((σ.ens u).ens v).ij u v) (n, none))) → KeepsP C C' → Q .none s') :
    wpAny (model PR w) A (call (.ref 485) [.ref a.x, .int u t1, .int v t2] [(Str.ofString "w", .int n t3)]) Q E s := by
  refine wpAny_call ?_
  refine' r_enterKw (ex := [(Str.ofString "w", .int n t3)]) (front := [(Str.ofString "self", .ref a.x), (Str.ofString "u_of_edge", .int u t1), (Str.ofString "v_of_edge", .int v t2)]) (nm := Str.ofString "attr") S D ?ho ?hcd ?room ?hp ?hk ?hn ?hloc ?_ ?c1 ?c2 ?c3 ?c4
  case ho => k_is
  case hcd => k_is
  case room => omega
  case hp => exact rfl
  case hk => exact fun _ => rfl
  case hn => exact List.nodup_cons.mpr ⟨by simp, List.nodup_nil⟩
  case hloc => exact fun _ => locs rfl
  case c1 => rfl
  case c2 => rfl
  case c3 => rfl
  case c4 => decide
  intro da ep L1 s1 hda S1
  have X1 := Ext.upd (c := .ds .none [(Str.ofString "w", Value.int n t3)] ep) hda
  have H1 := H.ext X1
  refine wpAny_execs_cons (r_swapNames S1 hh rfl rfl rfl rfl ⟨rfl, rfl⟩ ⟨rfl, rfl⟩ ⟨rfl, rfl⟩ ⟨rfl, rfl⟩ rfl rfl fun s2 C2 S2 X2 => ?_)
  have H2 := H1.ext X2
  refine wpAny_execs_cons (r_ensure S2 D (by show A.depth + 1 < _; omega) H2 W rfl rfl rfl rfl rfl rfl rfl rfl rfl ⟨_, rfl⟩ ⟨_, rfl⟩ fun s3 C3 S3 H3 K3 => ?_)
  have W3 := W.ens hu
  refine wpAny_execs_cons (r_ensure S3 D (by show A.depth + 1 < _; omega) H3 W3 rfl rfl rfl rfl rfl rfl rfl rfl rfl ⟨_, rfl⟩ ⟨_, rfl⟩ fun s4 C4 S4 H4 K4 => ?_)
  have W4 := W3.ens hv
  have han : ((σ.ens u).ens v).an.Nodup := by rw [W4.an]; exact W4.nd
  have hua : u ∈ ((σ.ens u).ens v).an := by rw [W4.an]; exact ens_keep ens_mem
  have hva : v ∈ ((σ.ens u).ens v).an := by rw [W4.an]; exact ens_mem
  refine wpAny_execs_cons (r_getdat S4 D (by show A.depth + 1 < _; omega) H4 han hua rfl rfl rfl rfl rfl ⟨rfl, rfl⟩ ⟨rfl, rfl⟩ ⟨rfl, rfl⟩ ⟨rfl, rfl⟩ rfl ⟨_, rfl⟩ ⟨_, rfl⟩ fun s5 C5 d kvs e5 S5 H5 X5 hd5 hc => ?_)
  have hat : C5 da = some (.ds .none [(Str.ofString "w", Value.int n t3)] ep) := X5 _ _ (K4 _ _ (K3 _ _ (X2 _ _ (upd_same ..)) rfl) rfl)
  have hx : KvsOk (merged kvs [(Str.ofString "w", Value.int n t3)]) (mrg (((σ.ens u).ens v).ij u v) (n, none)) := by
    rcases hc with ⟨c1, c2, c3⟩ | ⟨c1, rfl⟩
    · have := kvs_w c2 n t3
      unfold PS.ij mrg; rw [if_pos c1]; exact this
    · unfold PS.ij mrg; rw [if_neg c1]; exact kvs_w0 n t3
  have hz : kvs.length + 1 ≤ 1000 := by
    rcases hc with ⟨_, c2, _⟩ | ⟨_, rfl⟩
    · have := kvs_0 c2; omega
    · exact Nat.le_of_ble_eq_true rfl
  have hold : ∀ k ∈ ((σ.ens u).ens v).an, ∀ y ∈ ((σ.ens u).ens v).nbrs k, min k y = min u v → max k y = max u v → ((σ.ens u).ens v).da (min u v) (max u v) = d := by
    intro k _ y hy e1 e2
    rcases hc with ⟨_, _, c3⟩ | ⟨c1, _⟩
    · exact c3
    · exact (W4.apart c1 hy e1 e2).elim
  refine wpAny_execs_cons (r_upddat S5 H5 rfl rfl hd5 hat rfl rfl ⟨rfl, rfl⟩ ⟨rfl, rfl⟩ hz hx hold rfl rfl ⟨_, rfl⟩ fun s6 C6 e6 S6 H6 K6 hd6 => ?_)
  have hda6 : (((σ.ens u).ens v).setW (min u v) (max u v) d (mrg (((σ.ens u).ens v).ij u v) (n, none))).da (min u v) (max u v) = d := if_pos ⟨rfl, rfl⟩
  have hdat : DatOk C6 (((σ.ens u).ens v).setW (min u v) (max u v) d (mrg (((σ.ens u).ens v).ij u v) (n, none))) (min u v) (max u v) :=
    ⟨_, e6, by rw [hda6]; exact hd6, by rw [show (PS.setW _ _ _ _ _).wt (min u v) (max u v) = mrg (((σ.ens u).ens v).ij u v) (n, none) from if_pos ⟨rfl, rfl⟩]; exact hx⟩
  refine wpAny_execs_cons (r_stedge S6 D H6 han (W4.lenN u) hua rfl rfl rfl rfl rfl rfl ⟨rfl, rfl⟩ ⟨rfl, rfl⟩ ⟨rfl, rfl⟩ ⟨rfl, rfl⟩ hda6 hdat rfl fun s7 C7 S7 H7 K7 M7 => ?_)
  have hlen7 : ((PS.half (((σ.ens u).ens v).setW (min u v) (max u v) d (mrg (((σ.ens u).ens v).ij u v) (n, none))) u v).nbrs v).length ≤ 6 := by
    show (if v = u then ins (((σ.ens u).ens v).nbrs u) v else ((σ.ens u).ens v).nbrs v).length ≤ 6
    have hin : (ins (((σ.ens u).ens v).nbrs u) v).length ≤ 6 := small_len (ins_nodup (W4.nn u) v) fun x hx => by
      rcases mem_ins.mp hx with hx | rfl
      · exact W4.rng x (W4.mem _ _ hx).2.1
      · exact hv
    split
    · exact hin
    · exact W4.lenN v
  refine wpAny_execs_cons (r_stedge S7 D H7 han hlen7 hva rfl rfl rfl rfl rfl rfl ⟨rfl, rfl⟩ ⟨rfl, rfl⟩ ⟨rfl, rfl⟩ ⟨rfl, rfl⟩ ?_ ?_ rfl fun s8 C8 S8 H8 K8 M8 => ?_)
  · rw [Int.min_comm v u, Int.max_comm v u]; exact hda6
  · rw [Int.min_comm v u, Int.max_comm v u]; exact hdat.same M7 (by intro q; cases q) rfl rfl
  refine wpAny_execs_nil ?_
  exact h _ _ d (S.pop S8) H8 ((((((X1.keepsP.trans X2.keepsP).trans K3).trans K4).trans X5.keepsP).trans K6).trans (K7.trans K8))
end
end Mine
end
section -- C3
open PySem PySem.W PySem.Calls PyProof.Rows
namespace Mine
/-- the same but for a dict's count of changes -/
def Sim (c c' : Cell) : Prop := c = c' ∨ (∃ tg kvs e e', c = .ds tg kvs e ∧ c' = .ds tg kvs e') ∨ ∃ tg kvs e e', c = .di tg kvs e ∧ c' = .di tg kvs e'
def Sims (C C' : Led) : Prop := ∀ b c, C b = some c → ∃ c', C' b = some c' ∧ Sim c c'
theorem Sims.ds {C C' : Led} (h : Sims C C') {b : Addr} {tg : Tag} {kvs : List (Str × Value)} {e : Nat} (hb : C b = some (.ds tg kvs e)) : ∃ e', C' b = some (.ds tg kvs e') := by
  obtain ⟨c', h1, h2 | ⟨tg, kvs, e, e', h2, h3⟩ | ⟨tg, kvs, e, e', h2, h3⟩⟩ := h b _ hb
  · exact ⟨e, by rw [h1, ← h2]⟩
  · cases h2; exact ⟨e', by rw [h1, h3]⟩
  · cases h2
theorem Sims.di {C C' : Led} (h : Sims C C') {b : Addr} {tg : Tag} {kvs : List (Int × Value)} {e : Nat} (hb : C b = some (.di tg kvs e)) : ∃ e', C' b = some (.di tg kvs e') := by
  obtain ⟨c', h1, h2 | ⟨tg, kvs, e, e', h2, h3⟩ | ⟨tg, kvs, e, e', h2, h3⟩⟩ := h b _ hb
  · exact ⟨e, by rw [h1, ← h2]⟩
  · cases h2
  · cases h2; exact ⟨e', by rw [h1, h3]⟩
theorem Sims.upd {C : Led} {b : Addr} {tg : Tag} {kvs : List (Str × Value)} {e e' : Nat} (hb : C b = some (.ds tg kvs e)) : Sims C (upd C b (.ds tg kvs e')) := fun d c hd => by
  by_cases h : d = b
  · subst h; rw [hb] at hd; cases hd; exact ⟨_, upd_same .., .inr (.inl ⟨_, _, _, _, rfl, rfl⟩)⟩
  · exact ⟨c, by rw [upd_ne h]; exact hd, .inl rfl⟩
theorem Sims.other {C C' : Led} (h : Sims C C') {b : Addr} {c : Cell} (hb : C b = some c) (h1 : ∀ tg kvs e, c ≠ .ds tg kvs e) (h2 : ∀ tg kvs e, c ≠ .di tg kvs e) : C' b = some c := by
  obtain ⟨c', e1, e2 | ⟨tg, kvs, e, e', e2, e3⟩ | ⟨tg, kvs, e, e', e2, e3⟩⟩ := h b _ hb
  · rw [e1, ← e2]
  · exact absurd e2 (h1 _ _ _)
  · exact absurd e2 (h2 _ _ _)
theorem Gr.sims {C C' : Led} {a : GA} {dv ev : Option Value} {gk : List (Str × Value)} {σ : PS} (H : Gr C a dv ev gk σ) (x : Sims C C') : Gr C' a dv ev gk σ := by
  refine ⟨x.other H.x (by intros; intro q; cases q) (by intros; intro q; cases q), x.other H.dx (by intros; intro q; cases q) (by intros; intro q; cases q), let ⟨_, e⟩ := H.gr; x.ds e, ?_,
    ⟨let ⟨ps, e⟩ := H.tb.1; ⟨ps, x.other e (by intros; intro q; cases q) (by intros; intro q; cases q)⟩, let ⟨ps, e⟩ := H.tb.2; ⟨ps, x.other e (by intros; intro q; cases q) (by intros; intro q; cases q)⟩⟩, ?_⟩
  · obtain ⟨nk, ep, h1, h2, h3⟩ := H.nd
    obtain ⟨e', h1⟩ := x.di h1
    exact ⟨nk, e', h1, h2, fun q hq => let ⟨b, e, _, h⟩ := h3 q hq; ⟨b, e, x.ds h⟩⟩
  · obtain ⟨ak, ep, h1, h2, h3⟩ := H.ad
    obtain ⟨e', h1⟩ := x.di h1
    refine ⟨ak, e', h1, h2, fun q hq => ?_⟩
    obtain ⟨b, e, r, ep', h4, h5, h6⟩ := h3 q hq
    obtain ⟨e'', h4⟩ := x.di h4
    refine ⟨b, e, r, e'', h4, h5, fun z hz => ?_⟩
    obtain ⟨k1, kvs, ep, k2, k3⟩ := h6 z hz
    obtain ⟨e3, k2⟩ := x.ds k2
    exact ⟨k1, kvs, e3, k2, k3⟩

example : hd.heap_39 = hd.heap_39 ∧ PySem.Challenge.rw_ez0179_01 = PySem.Challenge.rw_ez0179_01 := by k_fill; exact ⟨rfl, rfl⟩
section
variable {p : Program} {loose : List Str} {mg mb : Str → Option Value}
  {w : World} {g : Heap} {L : Addr} {m : List (Str × Value)} {F : List (Addr × List (Str × Value))} {C : Led} {G : Array GenState} {O : OsState} {s : Shared} {A : Around} {E Q : Value → Shared → Prop}
  {a : GA} {dv ev : Option Value} {gk : List (Str × Value)} {σ : PS}

theorem r_asS {env : Env} {o i : PySem.Expr} {pos : Pos} {v : Value} {Q : Unit → Shared → Prop}
    (h : wpAny (model PR w) A (eval o env) (fun ov s₂ => wpAny (model PR w) A (eval i env) (fun iv s₃ => wpAny (model PR w) A (setItem ov iv v) Q E s₃) E s₂) E s) :
    wpAny (model PR w) A (assign (.Subscript o i pos) env v) Q E s := by
  rw [assign_Subscript]
  first
    | exact wpAny_bind (wpAny_mono h (fun ov s₂ h₂ => wpAny_bind (wpAny_holding (wpAny_mono h₂ (fun iv s₃ h₃ => wpAny_bind (wpAny_standAt (wpAny_holding h₃))) fun _ _ e => e))) fun _ _ e => e)
    | exact wpAny_holding (wpAny_bind (wpAny_mono h (fun ov s₂ h₂ => wpAny_bind (wpAny_holding (wpAny_mono h₂ (fun iv s₃ h₃ => wpAny_bind (wpAny_standAt (wpAny_holding h₃))) fun _ _ e => e))) fun _ _ e => e))
    | exact wpAny_bind (wpAny_holding (wpAny_mono h (fun ov s₂ h₂ => wpAny_bind (wpAny_holding (wpAny_mono h₂ (fun iv s₃ h₃ => wpAny_bind (wpAny_standAt (wpAny_bind (wpAny_holding (wpAny_mono h₃ (fun _ _ q => wpAny_release q) fun _ _ e => e))))) fun _ _ e => e))) fun _ _ e => e))

/-- d.update(e), both names of the frame's, nothing in e -/
theorem r_update0 {env : Env} {xd xe : Str} {d e : Addr} {tg : Tag} {kvs : List (Str × Value)} {ep ep2 : Nat} {p1 p2 p3 p4 p5 : Pos} {Q : Flow → Shared → Prop}
    (S : St w g L m F C G O s) (hdl : m.lookup xd = some (.ref d)) (hel : m.lookup xe = some (.ref e)) (hd : C d = some (.ds tg kvs ep)) (he : C e = some (.ds .none [] ep2)) (hne : d ≠ e)
    (hk : env.scope.kind = .function) (hL : env.locals = L) (hxd : Loc env xd) (hxe : Loc env xe) (hz : kvs.length ≤ 1000)
    (hi : interactive env = false) (sw : swapsWith (.Call (.Attribute (.Name xd p1) "update" p2) [.Name xe p3] [] p4) none p5.line env = pure false)
    (he1 : MForm (.Name xd p1) "update" p2 [.Name xe p3] [] p4 env)
    (h : ∀ s' ep', St w g L m F (upd C d (.ds tg kvs ep')) G O s' → Q .next s') :
    wpAny (model PR w) A (exec (.Expr (.Call (.Attribute (.Name xd p1) "update" p2) [.Name xe p3] [] p4) p5) env) Q E s := by
  obtain ⟨pl, he1⟩ := he1
  refine wpAny_Expr (hi := hi) (hs := sw) (MethodCall_ (he := he1) (r_loc S hdl ?_ hk hxd.1 hxd.2 hL))
  refine r_methD S hd (.inr (.inl ⟨_, _, _, rfl⟩)) PySem.F.slot_dict_update ty_update ?_
  refine PyProof.Rows.callWith_method1 (he := rfl) ?_ (by rfl)
  refine wpAny_items_cons (he := rfl) (r_loc S hel ?_ hk hxe.1 hxe.2 hL)
  refine wpAny_items_nil ?_
  exact r_updateS S hd he hne (by simpa using hz) fun ep' s1 S1 => h _ ep' S1

theorem add_node_spec (S : St w g L m F C G O s) (D : Wd (hd.heap_39 w.params) p loose mg mb g) (hroom : A.depth + 5 < recursionLimit) (hh : A.handled = none)
    (H : Gr C a dv ev gk σ) (W : σ.WF) {u : Int} {t1 : Tok}
    (h : ∀ s' C', St w g L m F C' G O s' → Gr C' a dv ev gk (σ.ens u) → KeepsP C C' → Q .none s') :
    wpAny (model PR w) A (call (.ref 426) [.ref a.x, .int u t1]) Q E s := by
  refine wpAny_call ?_
  refine' r_enterKw (ex := []) (front := [(Str.ofString "self", .ref a.x), (Str.ofString "node_for_adding", .int u t1)]) (nm := Str.ofString "attr") S D ?ho ?hcd ?room ?hp ?hk ?hn ?hloc ?_ ?c1 ?c2 ?c3 ?c4
  case ho => k_is
  case hcd => k_is
  case room => omega
  case hp => exact rfl
  case hk => exact fun _ => rfl
  case hn => exact List.nodup_nil
  case hloc => exact fun _ => locs rfl
  case c1 => rfl
  case c2 => rfl
  case c3 => rfl
  case c4 => decide
  intro da ep L1 s1 hda S1
  have X1 := Ext.upd (c := .ds .none [] ep) hda
  have H1 := H.ext X1
  obtain ⟨nk, en, hnd, hnk, hnv⟩ := H1.nd
  obtain ⟨ak, ea, had, hak, _⟩ := H1.ad
  have hda1 : upd C da (.ds .none [] ep) da = some (.ds .none [] ep) := upd_same ..
  generalize upd C da (.ds .none [] ep) = C1 at *
  refine wpAny_execs_cons (wpAny_If (wpAny_isTrue_Compare1 (r_loc S1 rfl ?_)))
  refine r_nattr S1 D rfl H1.x H1.dx (ok_node w) rfl rfl (fun s2 S2 => r_notinI S2 hnd fun s3 S3 => wpAny_truthy_bool ?_)
  rw [valueAt_isSome, hnk]
  by_cases hin : u ∈ σ.nodes
  · rw [decide_eq_true hin]
    obtain ⟨⟨k, v⟩, hq, rfl⟩ := List.mem_map.mp (show u ∈ nk.map (·.1) from hnk ▸ hin)
    obtain ⟨b, rfl, e0, hb⟩ := hnv _ hq
    show wpAny _ _ (execs _ _) _ _ _
    refine wpAny_execs_cons (wpAny_Expr (hi := rfl) (hs := rfl) (MethodCall_ (he := rfl) ?_))
    refine Subscript_ (r_nattr S3 D rfl H1.x H1.dx (ok_node w) rfl rfl (fun s4 S4 => r_loc S4 rfl ?_))
    refine r_subI S4 hnd (valueAt_of_mem (S4.nodupI hnd) hq) fun s5 S5 => ?_
    refine r_methD S5 hb (.inr (.inl ⟨_, _, _, rfl⟩)) PySem.F.slot_dict_update ty_update ?_
    refine PyProof.Rows.callWith_method1 (he := rfl) ?_ (by rfl)
    refine wpAny_items_cons (he := rfl) (r_loc S5 rfl ?_)
    refine wpAny_items_nil ?_
    refine r_updateS S5 hb hda1 (ne_of_cells hb hda1 (by intro q; cases q)) (Nat.le_of_ble_eq_true rfl) fun ep' s6 S6 => ?_
    refine wpAny_execs_nil (wpAny_execs_nil (h _ _ (S.pop S6) ?_ ?_))
    · unfold PS.ens; rw [if_pos hin]; exact H1.sims (.upd hb)
    · exact X1.keepsP.trans (KeepsP.upd hb (by intro q; cases q))
  · rw [decide_eq_false hin]
    show wpAny _ _ (execs _ _) _ _ _
    refine wpAny_execs_cons (wpAny_If (wpAny_isTrue_Compare1 (r_loc S3 rfl (wpAny_Constant_none (is_none (wpAny_truthy_bool ?_))))))
    refine wpAny_execs_nil (wpAny_execs_cons (wpAny_Assign_Subscript (hs := rfl) ?_))
    refine r_mcall0 S3 D rfl H1.x H1.dx (pl_617 w _) (m_359 w) (fn_359 w) (kp_359 w) rfl ?_
    refine call_359 (.row u) S3 D (by show A.depth + 1 < _; omega) fun ra s4 hra S4 => ?_
    have X4 : Ext C1 (upd C1 ra (.di (.row u) [] 0)) := .upd hra
    have H4 := H1.ext X4
    refine r_nattr S4 D rfl H4.x H4.dx (ok_adj w) rfl rfl (fun s5 S5 => r_loc S5 rfl ?_)
    refine r_setI S5 (X4 _ _ had) (by have := W.len; rw [← W.an, ← hak, List.length_map] at this; omega) fun e6 s6 S6 => ?_
    have hin' : u ∉ σ.an := by rw [W.an]; exact hin
    have H6 := H4.putA (e1 := e6) (X4 _ _ had) hin' (upd_same ..)
    have K6 : KeepsP C1 _ := X4.keepsP.trans (KeepsP.upd (c' := .di .adj (stored ak u (.ref ra)) e6) (X4 _ _ had) (by intro q; cases q))
    have hda6 := K6 _ _ hda1 rfl
    obtain ⟨nk6, en6, hnd6, hnk6, _⟩ := H6.nd
    refine wpAny_execs_cons (wpAny_Assign_two ?_)
    refine r_mcall0 S6 D rfl H6.x H6.dx (pl_617 w _) (m_345 w) (fn_345 w) (kp_345 w) rfl ?_
    refine call_345 (.attr u) S6 D (by show A.depth + 1 < _; omega) fun na s7 hna S7 => ?_
    have X7 := Ext.upd (c := .ds (.attr u) [] 0) hna
    have H7 := H6.ext X7
    have hna7 := upd_same (upd (upd C1 ra (.di (.row u) [] 0)) a.ad (.di .adj (stored ak u (.ref ra)) e6)) na (.ds (.attr u) [] 0)
    refine r_asN S7 (fun s8 S8 => ?_)
    refine r_asS ?_
    refine r_nattr S8 D rfl H7.x H7.dx (ok_node w) rfl rfl (fun s9 S9 => r_loc S9 rfl ?_)
    refine r_setI S9 (X7 _ _ hnd6) (by have := W.len; rw [show σ.nodes = nk6.map (·.1) from hnk6.symm, List.length_map] at this; omega) fun e10 s10 S10 => ?_
    have H10 := H7.putN (e1 := e10) (X7 _ _ hnd6) hin (upd_same ..)
    have K10 := (K6.trans X7.keepsP).trans (KeepsP.upd (c' := .di .node (stored nk6 u (.ref na)) e10) (X7 _ _ hnd6) (by intro q; cases q))
    have hna10 := (upd_ne (c := .di .node (stored nk6 u (.ref na)) e10) (ne_of_cells hna7 (X7 _ _ hnd6) (by intro q; cases q))).trans hna7
    have hda10 := K10 _ _ hda1 rfl
    refine wpAny_execs_cons (r_update0 S10 rfl rfl hna10 hda10 (ne_of_cells hna10 hda10 (by intro q; cases q)) rfl rfl ⟨rfl, rfl⟩ ⟨rfl, rfl⟩ (Nat.zero_le _) rfl rfl ⟨_, rfl⟩ fun s11 e11 S11 => ?_)
    refine wpAny_execs_nil (wpAny_execs_nil (h _ _ (S.pop S11) ?_ ?_))
    · unfold PS.ens; rw [if_neg hin]; exact H10.sims (.upd hna10)
    · exact X1.keepsP.trans (K10.trans (KeepsP.upd hna10 (by intro q; cases q)))
end
end Mine
end
section -- C4
open PySem PySem.W PySem.Calls PyProof.Rows
namespace Mine
def GCell (a : GA) (c : Cell) : Prop := (∃ tg k e, c = .di tg k e) ∨ (∃ tg k e, c = .ds tg k e) ∨ (∃ f : (Str → Option Value) × Nat × Bool, c = .sm f.1 f.2.1 f.2.2) ∨ (∃ ps, c = .tab ps) ∨ c = .obj (instObj 617 a.dx)
theorem Gr.mono {C C' : Led} {a : GA} {dv ev : Option Value} {gk : List (Str × Value)} {σ : PS} (H : Gr C a dv ev gk σ) (x : ∀ b c, C b = some c → GCell a c → C' b = some c) : Gr C' a dv ev gk σ := by
  have d1 : ∀ {tg k e}, GCell a (.di tg k e) := .inl ⟨_, _, _, rfl⟩
  have d2 : ∀ {tg k e}, GCell a (.ds tg k e) := .inr (.inl ⟨_, _, _, rfl⟩)
  have d3 : ∀ {f nf hot}, GCell a (.sm f nf hot) := fun {f nf hot} => .inr (.inr (.inl ⟨(f, nf, hot), rfl⟩))
  have d4 : ∀ {ps}, GCell a (.tab ps) := .inr (.inr (.inr (.inl ⟨_, rfl⟩)))
  refine ⟨x _ _ H.x (.inr (.inr (.inr (.inr rfl)))), x _ _ H.dx d3, H.gr.imp fun _ e => x _ _ e d2, ?_, ⟨H.tb.1.imp fun _ e => x _ _ e d4, H.tb.2.imp fun _ e => x _ _ e d4⟩, ?_⟩
  · obtain ⟨nk, ep, h1, h2, h3⟩ := H.nd
    exact ⟨nk, ep, x _ _ h1 d1, h2, fun q hq => let ⟨b, e, ep', h⟩ := h3 q hq; ⟨b, e, ep', x _ _ h d2⟩⟩
  · obtain ⟨ak, ep, h1, h2, h3⟩ := H.ad
    refine ⟨ak, ep, x _ _ h1 d1, h2, fun q hq => ?_⟩
    obtain ⟨b, e, r, ep', h4, h5, h6⟩ := h3 q hq
    exact ⟨b, e, r, ep', x _ _ h4 d1, h5, fun z hz => let ⟨k1, kvs, ep, k2, k3⟩ := h6 z hz; ⟨k1, kvs, ep, x _ _ k2 d2, k3⟩⟩
theorem KeepsBut.g {C C' : Led} {it : Addr} {c₀ : Cell} {a : GA} (k : KeepsBut it C C') (h : C it = some c₀) (hc : ¬ GCell a c₀) : ∀ b c, C b = some c → GCell a c → C' b = some c := fun b c e hg =>
  k b c (by rintro rfl; rw [h] at e; cases e; exact hc hg) e
theorem KeepsP.but {C₀ C C' : Led} {it : Addr} (h : KeepsP C₀ C) (h0 : C₀ it = none) (k : KeepsBut it C C') : KeepsP C₀ C' := fun b c e hp => k b c (by rintro rfl; rw [h0] at e; cases e) (h b c e hp)

def PS.clr (σ : PS) : PS := { σ with nodes := [], an := [], nbrs := fun _ => [] }
def PS.clrE (σ : PS) : PS := { σ with nbrs := fun _ => [] }
def PS.clrTo (σ : PS) (i : Nat) : PS := { σ with nbrs := fun k => if k ∈ σ.an.take i then [] else σ.nbrs k }

theorem Gr.clr {C : Led} {a : GA} {dv ev : Option Value} {gk : List (Str × Value)} {σ : PS} (H : Gr C a dv ev gk σ) (e1 e2 e3 : Nat) :
    Gr (upd (upd (upd C a.ad (.di .adj [] e1)) a.nd (.di .node [] e2)) a.gr (.ds .gattr [] e3)) a dv ev [] σ.clr ∧ KeepsP C (upd (upd (upd C a.ad (.di .adj [] e1)) a.nd (.di .node [] e2)) a.gr (.ds .gattr [] e3)) := by
  obtain ⟨nk, en, h1, _⟩ := H.nd
  obtain ⟨ak, ea, h2, _⟩ := H.ad
  obtain ⟨eg, h3⟩ := H.gr
  have n1 : a.ad ≠ a.nd := ne_of_cells h2 h1 (by intro q; cases q)
  have n2 : a.ad ≠ a.gr := ne_of_cells h2 h3 (by intro q; cases q)
  have n3 : a.nd ≠ a.gr := ne_of_cells h1 h3 (by intro q; cases q)
  have key : ∀ b c, C b = some c → (∀ k e, c ≠ .di .adj k e) → (∀ k e, c ≠ .di .node k e) → (∀ k e, c ≠ .ds .gattr k e) → upd (upd (upd C a.ad (.di .adj [] e1)) a.nd (.di .node [] e2)) a.gr (.ds .gattr [] e3) b = some c := fun b c e k1 k2 k3 => by
    rw [upd_ne, upd_ne, upd_ne, e]
    · rintro rfl; rw [h2] at e; cases e; exact k1 _ _ rfl
    · rintro rfl; rw [h1] at e; cases e; exact k2 _ _ rfl
    · rintro rfl; rw [h3] at e; cases e; exact k3 _ _ rfl
  refine ⟨⟨key _ _ H.x (by intros; intro q; cases q) (by intros; intro q; cases q) (by intros; intro q; cases q), key _ _ H.dx (by intros; intro q; cases q) (by intros; intro q; cases q) (by intros; intro q; cases q), ⟨e3, upd_same ..⟩, ?_,
    ⟨H.tb.1.imp fun _ e => key _ _ e (by intros; intro q; cases q) (by intros; intro q; cases q) (by intros; intro q; cases q), H.tb.2.imp fun _ e => key _ _ e (by intros; intro q; cases q) (by intros; intro q; cases q) (by intros; intro q; cases q)⟩, ?_⟩, fun b c e hp => key b c e ?_ ?_ ?_⟩
  · exact ⟨[], e2, by rw [upd_ne n3, upd_same], rfl, fun _ h => nomatch h⟩
  · exact ⟨[], e1, by rw [upd_ne n2, upd_ne n1, upd_same], rfl, fun _ h => nomatch h⟩
  · rintro k e rfl; cases hp
  · rintro k e rfl; cases hp
  · rintro k e rfl; cases hp

example : hd.heap_39 = hd.heap_39 ∧ PySem.Challenge.rw_ez0179_01 = PySem.Challenge.rw_ez0179_01 := by k_fill; exact ⟨rfl, rfl⟩
section
variable {p : Program} {loose : List Str} {mg mb : Str → Option Value}
  {w : World} {g : Heap} {L : Addr} {m : List (Str × Value)} {F : List (Addr × List (Str × Value))} {C : Led} {G : Array GenState} {O : OsState} {s : Shared} {A : Around} {E Q : Value → Shared → Prop}
  {a : GA} {dv ev : Option Value} {gk : List (Str × Value)} {σ : PS}

theorem clear_spec (S : St w g L m F C G O s) (D : Wd (hd.heap_39 w.params) p loose mg mb g) (hroom : A.depth + 5 < recursionLimit) (H : Gr C a dv ev gk σ) (W : σ.WF) (hz : gk.length ≤ 10)
    (h : ∀ s' C', St w g L m F C' G O s' → Gr C' a dv ev [] σ.clr → KeepsP C C' → Q .none s') :
    wpAny (model PR w) A (call (.ref 562) [.ref a.x]) Q E s := by
  refine wpAny_call ?_
  refine' r_enter (binds := [(Str.ofString "self", .ref a.x)]) S D ?ho ?hcd ?room ?hb ?hl ?_ ?c1 ?c2 ?c3 ?c4
  case ho => k_is
  case hcd => k_is
  case room => omega
  case hb => exact .of_eq rfl
  case hl => exact locs rfl
  case c1 => rfl
  case c2 => rfl
  case c3 => rfl
  case c4 => decide
  intro L1 s1 S1
  obtain ⟨nk, en, h1, hnk, _⟩ := H.nd
  obtain ⟨ak, ea, h2, hak, _⟩ := H.ad
  obtain ⟨eg, h3⟩ := H.gr
  have n1 : a.ad ≠ a.nd := ne_of_cells h2 h1 (by intro q; cases q)
  have n2 : a.ad ≠ a.gr := ne_of_cells h2 h3 (by intro q; cases q)
  have n3 : a.nd ≠ a.gr := ne_of_cells h1 h3 (by intro q; cases q)
  have l1 : ak.length ≤ 6 := by have := W.len; rw [← W.an, ← hak, List.length_map] at this; exact this
  have l2 : nk.length ≤ 6 := by have := W.len; rw [← hnk, List.length_map] at this; exact this
  refine wpAny_execs_cons (wpAny_Expr (hi := rfl) (hs := rfl) (MethodCall_ (he := rfl) ?_))
  refine r_nattr S1 D rfl H.x H.dx (ok_adj w) rfl rfl (fun s2 S2 => ?_)
  refine r_methD S2 h2 (.inl ⟨_, _, _, rfl⟩) PySem.F.slot_dict_clear ty_clear ?_
  refine PyProof.Rows.callWith_method0 ?_
  refine r_clearI S2 h2 (by omega) fun e3 s3 S3 => ?_
  have x3 := (upd_ne (c := .di .adj [] e3) (ne_of_cells H.x h2 (by intro q; cases q))).trans H.x
  have d3 := (upd_ne (c := .di .adj [] e3) (ne_of_cells H.dx h2 (by intro q; cases q))).trans H.dx
  have h13 := (upd_ne (c := .di .adj [] e3) n1.symm).trans h1
  have h33 := (upd_ne (c := .di .adj [] e3) n2.symm).trans h3
  refine wpAny_execs_cons (wpAny_Expr (hi := rfl) (hs := rfl) (MethodCall_ (he := rfl) ?_))
  refine r_nattr S3 D rfl x3 d3 (ok_node w) rfl rfl (fun s4 S4 => ?_)
  refine r_methD S4 h13 (.inl ⟨_, _, _, rfl⟩) PySem.F.slot_dict_clear ty_clear ?_
  refine PyProof.Rows.callWith_method0 ?_
  refine r_clearI S4 h13 (by omega) fun e5 s5 S5 => ?_
  have x5 := (upd_ne (c := .di .node [] e5) (ne_of_cells x3 h13 (by intro q; cases q))).trans x3
  have d5 := (upd_ne (c := .di .node [] e5) (ne_of_cells d3 h13 (by intro q; cases q))).trans d3
  have h35 := (upd_ne (c := .di .node [] e5) n3.symm).trans h33
  refine wpAny_execs_cons (wpAny_Expr (hi := rfl) (hs := rfl) (MethodCall_ (he := rfl) ?_))
  refine r_nattr S5 D rfl x5 d5 (ok_graph w) rfl rfl (fun s6 S6 => ?_)
  refine r_methD S6 h35 (.inr (.inl ⟨_, _, _, rfl⟩)) PySem.F.slot_dict_clear ty_clear ?_
  refine PyProof.Rows.callWith_method0 ?_
  refine r_clearS S6 h35 (by omega) fun e7 s7 S7 => ?_
  exact wpAny_execs_nil (h _ _ (S.pop S7) (H.clr e3 e5 e7).1 (H.clr e3 e5 e7).2)

theorem PS.clrTo_zero (σ : PS) : σ.clrTo 0 = σ := by unfold PS.clrTo; simp
theorem PS.clrTo_all (W : σ.WF) : σ.clrTo σ.an.length = σ.clrE := by
  unfold PS.clrTo PS.clrE
  congr 1
  funext k
  rw [List.take_length]
  split
  · rfl
  · rename_i hk
    rw [W.an] at hk
    cases e : σ.nbrs k with
    | nil => rfl
    | cons v l => exact absurd (W.mem k v (by rw [e]; exact .head _)).1 hk
theorem PS.clrTo_succ {i : Nat} {n : Int} (hi : σ.an[i]? = some n) : { σ.clrTo i with nbrs := fun k => if k = n then [] else (σ.clrTo i).nbrs k } = σ.clrTo (i + 1) := by
  have e : (fun k => if k = n then [] else (σ.clrTo i).nbrs k) = (σ.clrTo (i + 1)).nbrs := by
    funext k
    show (if k = n then [] else if k ∈ σ.an.take i then [] else σ.nbrs k) = if k ∈ σ.an.take (i + 1) then [] else σ.nbrs k
    rw [List.take_add_one, hi]
    by_cases h : k = n
    · subst h; simp
    · simp [h]
  show PS.mk σ.nodes σ.an _ σ.da σ.wt = PS.mk σ.nodes σ.an _ σ.da σ.wt
  rw [e]; rfl

theorem clear_edges_spec (S : St w g L m F C G O s) (D : Wd (hd.heap_39 w.params) p loose mg mb g) (hroom : A.depth + 5 < recursionLimit) (hh : A.handled = none) (H : Gr C a dv ev gk σ) (W : σ.WF)
    (h : ∀ s' C' G', St w g L m F C' G' O s' → GB G G' → Gr C' a dv ev gk σ.clrE → KeepsP C C' → Q .none s') :
    wpAny (model PR w) A (call (.ref 569) [.ref a.x]) Q E s := by
  refine wpAny_call ?_
  refine' r_enter (binds := [(Str.ofString "self", .ref a.x)]) S D ?ho ?hcd ?room ?hb ?hl ?_ ?c1 ?c2 ?c3 ?c4
  case ho => k_is
  case hcd => k_is
  case room => omega
  case hb => exact .of_eq rfl
  case hl => exact locs rfl
  case c1 => rfl
  case c2 => rfl
  case c3 => rfl
  case c4 => decide
  intro L1 s1 S1
  obtain ⟨ak, ea, had, hak, hrows⟩ := H.ad
  have l1 : ak.length ≤ 6 := by have := W.len; rw [← W.an, ← hak, List.length_map] at this; exact this
  refine wpAny_execs_cons (wpAny_For (hs := fun _ => rfl) (MethodCall_ (he := rfl) ?_))
  refine r_nattr S1 D rfl H.x H.dx (ok_adj w) rfl rfl (fun s2 S2 => ?_)
  refine r_methD S2 had (.inl ⟨_, _, _, rfl⟩) PySem.F.slot_dict_values ty_values ?_
  refine PyProof.Rows.callWith_method0 ?_
  refine r_valuesI S2 had fun v s3 hv S3 => ?_
  have X3 := Ext.upd (c := .obj (valuesView a.ad)) hv
  refine r_iterV S3 (upd_same ..) (X3 _ _ had) fun it s4 hit S4 => ?_
  have X4 := X3.trans (Ext.upd (c := .vit a.ad 0 ak.length ea) hit)
  have hCit : C it = none := by
    cases q : C it with
    | none => rfl
    | some c => rw [X3 _ _ q] at hit; cases hit
  refine r_loop (m := [(Str.ofString "self", Value.ref a.x)]) (iter_valuesI .nm) (fun i m C' G' => GB G G' ∧ Gr C' a dv ev gk (σ.clrTo i) ∧ KeepsP C C') hh (by show A.depth + 1 + 0 < _; omega) (S4.sub (by simp)) ⟨upd_same .., X4 _ _ had⟩ ⟨.refl _, by rw [PS.clrTo_zero]; exact H.ext X4, X4.keepsP⟩ ?_ ?_
  · intro i m5 C5 G5 C6 G6 v s5 E' hi hI ⟨hB, hJ, hK⟩ hKP hGB hI' hP S5
    have hJ6 : Gr C6 a dv ev gk (σ.clrTo i) := hJ.mono (hKP.g hI.1 (by rintro (⟨_, _, _, q⟩ | ⟨_, _, _, q⟩ | ⟨_, q⟩ | ⟨_, q⟩ | q) <;> cases q))
    have hK6 := hK.but hCit hKP
    refine r_asN S5 fun s6 S6 => ?_
    obtain ⟨k, hk⟩ := hP
    have hk' : (k, v) ∈ ak := List.mem_of_getElem? hk
    have hka : σ.an[i]? = some k := by rw [← hak, List.getElem?_map, hk]; rfl
    obtain ⟨ak', ea', had', hak', hrows'⟩ := hJ6.ad
    rw [hI'.2] at had'; cases had'
    obtain ⟨b, rfl, r, er, hb, hr, hrv⟩ := hrows' _ hk'
    dsimp only at hb hr hrv
    have hlr : r.length ≤ 6 := by
      have := W.lenN k
      have h2 : r.length ≤ (σ.nbrs k).length := by
        rw [← List.length_map (f := (·.1)), hr]
        show (if k ∈ σ.an.take i then [] else σ.nbrs k).length ≤ _
        split
        · exact Nat.zero_le _
        · exact Nat.le_refl _
      omega
    refine wpAny_execs_cons (wpAny_Expr (hi := rfl) (hs := rfl) (MethodCall_ (he := rfl) (r_loc S6 rfl ?_)))
    refine r_methD S6 hb (.inl ⟨_, _, _, rfl⟩) PySem.F.slot_dict_clear ty_clear ?_
    refine PyProof.Rows.callWith_method0 ?_
    refine r_clearI S6 hb (by omega) fun e7 s7 S7 => wpAny_execs_nil ?_
    have hrow := hJ6.row (r' := []) (l := []) (e1 := e7) hI'.2 hk' (by show σ.an.Nodup; rw [W.an]; exact W.nd) hb rfl (fun _ h => nomatch h)
    rw [PS.clrTo_succ hka] at hrow
    have n1 : it ≠ b := ne_of_cells hI'.1 hb (by intro q; cases q)
    have n2 : a.ad ≠ b := ne_of_cells hI'.2 hb (by intro q; cases q)
    exact ⟨_, _, G6, S7, ⟨by rw [upd_ne n1]; exact hI'.1, by rw [upd_ne n2]; exact hI'.2⟩, hB.trans hGB, hrow, hK6.trans (KeepsP.upd hb (by intro q; cases q))⟩
  · intro m5 C5 G5 C6 G6 s5 hI ⟨hB, hJ, hK⟩ hKP hGB S5
    have hJ6 : Gr C6 a dv ev gk (σ.clrTo ak.length) := hJ.mono (hKP.g hI.1 (by rintro (⟨_, _, _, q⟩ | ⟨_, _, _, q⟩ | ⟨_, q⟩ | ⟨_, q⟩ | q) <;> cases q))
    refine wpAny_execs_nil (h _ _ _ (S.pop S5) (hB.trans hGB) ?_ (hK.but hCit hKP))
    have e : ak.length = σ.an.length := by rw [← hak, List.length_map]
    rw [e, PS.clrTo_all W] at hJ6
    exact hJ6
end
end Mine
end
section -- C5
open PySem PySem.W PySem.Calls PyProof.Rows
namespace Mine
section
variable {K : Frag} {p : Program} {loose : List Str} {mg mb : Str → Option Value}
  {w : World} {g : Heap} {L : Addr} {m : List (Str × Value)} {F : List (Addr × List (Str × Value))} {C : Led} {G : Array GenState} {O : OsState} {s : Shared} {A : Around} {E Q : Value → Shared → Prop} {env : Env}

/-- f(e), f a builtin function; T(e), T a builtin type -/
theorem r_bcall1 {x : Str} {id : String} {xp pos : Pos} {e : PySem.Expr} (S : St w g L m F C G O s) (D : Wd K p loose mg mb g) (hK : nsIn K mainGlobals x = some none) (hv : bootBuiltins x = some (.builtin id)) (hn : x ≠ "__name__")
    (h : wpAny (model PR w) A (eval e env) (fun v s₁ => wpAny (model PR w) A (call (.builtin id) [v]) Q E s₁) E s)
    (he : starEach [e] env = (false, eval e env) :: starEach [] env := by rfl)
    (hc : eval (.Call (.Name x xp) [e] [] pos) env = (do callWith pos (← eval (.Name x xp) env) [] (backTo pos (starEach [e] env)) (backToKw pos (keywordEach [] env))) := by rfl)
    (hk : env.scope.kind = .function := by rfl) (hx : env.kindOf x = some .globalImplicit := by rfl) (hd : (x == ("__debug__" : Str)) = false := by decide) (hg : env.globals = mainGlobals := by rfl) (hb : env.builtins = builtinsNs := by rfl) :
    wpAny (model PR w) A (eval (.Call (.Name x xp) [e] [] pos) env) Q E s := by
  refine Call_ (he := hc) (r_bi S D hK hv hn ?_ hk hx hd hg hb)
  refine PyProof.Rows.callWith_builtin1 (he := he) (wpAny_items_cons (he := he) (wpAny_mono h (fun v s₁ h₁ => wpAny_items_nil h₁) fun _ _ e => e)) (by rfl)
theorem r_tcall1 {x : Str} {T : String} {xp pos : Pos} {e : PySem.Expr} (S : St w g L m F C G O s) (D : Wd K p loose mg mb g) (hK : nsIn K mainGlobals x = some none) (hv : bootBuiltins x = some (.type T)) (hn : x ≠ "__name__")
    (h : wpAny (model PR w) A (eval e env) (fun v s₁ => wpAny (model PR w) A (call (.type T) [v]) Q E s₁) E s)
    (he : starEach [e] env = (false, eval e env) :: starEach [] env := by rfl)
    (hc : eval (.Call (.Name x xp) [e] [] pos) env = (do callWith pos (← eval (.Name x xp) env) [] (backTo pos (starEach [e] env)) (backToKw pos (keywordEach [] env))) := by rfl)
    (hk : env.scope.kind = .function := by rfl) (hx : env.kindOf x = some .globalImplicit := by rfl) (hd : (x == ("__debug__" : Str)) = false := by decide) (hg : env.globals = mainGlobals := by rfl) (hb : env.builtins = builtinsNs := by rfl) :
    wpAny (model PR w) A (eval (.Call (.Name x xp) [e] [] pos) env) Q E s := by
  refine Call_ (he := hc) (r_bi S D hK hv hn ?_ hk hx hd hg hb)
  refine PyProof.Rows.callWith_type1 (he := he) (wpAny_items_cons (he := he) (wpAny_mono h (fun v s₁ h₁ => wpAny_items_nil h₁) fun _ _ e => e)) (by rfl)

theorem r_lenT {t : Addr} {vs : List Value} (S : St w g L m F C G O s) (ht : C t = some (.tup vs)) (hz : vs.length ≤ 1000) (h : ∀ u s', St w g L m F C G O s' → Q (.int vs.length u) s') : wpAny (model PR w) A (call (.builtin "len") [.ref t]) Q E s :=
  PyProof.Rows.len_tuple (S.isTup ht) (by simp; omega) (by simpa using h _ _ (S.toks _))
theorem r_lenL {t : Addr} {vs : List Value} (S : St w g L m F C G O s) (ht : C t = some (.lst vs)) (hz : vs.length ≤ 1000) (h : ∀ u s', St w g L m F C G O s' → Q (.int vs.length u) s') : wpAny (model PR w) A (call (.builtin "len") [.ref t]) Q E s :=
  call_len_list (S.isList ht) (by simp; omega) (by simpa using h _ _ (S.toks _))
theorem r_asT3 {x y z : Str} {p1 p2 p3 p4 : Pos} {k : Nat} {t : Addr} {v1 v2 v3 : Value} {Q : Unit → Shared → Prop} (S : St w g L m F C G O s) (hh : A.handled = none) (ht : C t = some (.tup [v1, v2, v3])) (h : ∀ s', St w g L ((z, v3) :: (y, v2) :: (x, v1) :: m) F C G O s' → Q () s')
    (hk : env.scope.kind = .function := by rfl) (hx : env.kindOf x = some .local := by rfl) (hy : env.kindOf y = some .local := by rfl) (hz : env.kindOf z = some .local := by rfl) (hL : env.locals = L := by rfl) :
    wpAny (model PR w) A (assign (.Tuple [.Name x p1, .Name y p2, .Name z p3] k p4) env (.ref t)) Q E s := by
  refine r_assignT S hh ht rfl rfl fun s1 S1 => ?_
  show wpAny _ _ (assignInOrder [assign (.Name x p1) env, assign (.Name y p2) env, assign (.Name z p3) env] [v1, v2, v3]) _ _ _
  refine assignInOrder_cons (r_asN S1 (fun s2 S2 => ?_) hk hx hL)
  refine assignInOrder_cons (r_asN S2 (fun s3 S3 => ?_) hk hy hL)
  refine assignInOrder_cons (r_asN S3 (fun s4 S4 => ?_) hk hz hL)
  exact assignInOrder_nil (h _ S4)
end

/-- an edge as it is handed to add_edges_from: with a dict of its own or without -/
def Item (C : Led) (v : Value) (e : Int × Int × Option Int) : Prop := ∃ t t1 t2, v = .ref t ∧ match e.2.2 with
  | none => C t = some (.tup [.int e.1 t1, .int e.2.1 t2])
  | some n => ∃ d ep t3, C t = some (.tup [.int e.1 t1, .int e.2.1 t2, .ref d]) ∧ C d = some (.ds .none [(Str.ofString "v", .int n t3)] ep)
theorem Item.keeps {C C' : Led} {v : Value} {e : Int × Int × Option Int} (x : Item C v e) (h : KeepsP C C') : Item C' v e := by
  obtain ⟨u, w, o⟩ := e
  obtain ⟨t, t1, t2, rfl, h1⟩ := x
  refine ⟨t, t1, t2, rfl, ?_⟩
  cases o with
  | none => exact h _ _ h1 trivial
  | some n => obtain ⟨d, ep, t3, h2, h3⟩ := h1; exact ⟨d, ep, t3, h _ _ h2 trivial, h _ _ h3 rfl⟩
def PS.add1 (σ : PS) (e : Int × Int × Option Int) (k : Int) (d : Addr) : PS := ((σ.ens e.1).ens e.2.1).addE e.1 e.2.1 d (mrg (((σ.ens e.1).ens e.2.1).ij e.1 e.2.1) (k, e.2.2))

theorem half_mem {σ : PS} {u v n k : Int} : k ∈ (σ.half u v).nbrs n ↔ k ∈ σ.nbrs n ∨ (n = u ∧ k = v) := by
  show k ∈ (if n = u then ins (σ.nbrs u) v else σ.nbrs n) ↔ _
  by_cases h : n = u
  · subst h; rw [if_pos rfl, mem_ins]; simp
  · rw [if_neg h]; simp [h]
theorem addE_mem {σ : PS} {u v n k : Int} {d : Addr} {x : Int × Option Int} : k ∈ (σ.addE u v d x).nbrs n ↔ k ∈ σ.nbrs n ∨ (n = u ∧ k = v) ∨ (n = v ∧ k = u) := by
  unfold PS.addE
  rw [half_mem, half_mem, or_assoc]; rfl
theorem PS.WF.addE {σ : PS} (W : σ.WF) {u v : Int} (hu : u ∈ σ.nodes) (hv : v ∈ σ.nodes) (d : Addr) (x : Int × Option Int) : (σ.addE u v d x).WF := by
  have nd : ∀ (τ : PS), (∀ n, (τ.nbrs n).Nodup) → ∀ a b n, ((τ.half a b).nbrs n).Nodup := fun τ h a b n => by
    show (if n = a then ins (τ.nbrs a) b else τ.nbrs n).Nodup
    split
    · exact ins_nodup (h a) b
    · exact h n
  refine ⟨W.an, W.nd, W.rng, nd _ (nd _ W.nn u v) v u, fun n k hk => ?_⟩
  rcases addE_mem.mp hk with h | ⟨rfl, rfl⟩ | ⟨rfl, rfl⟩
  · obtain ⟨h1, h2, h3⟩ := W.mem n k h
    exact ⟨h1, h2, addE_mem.mpr (.inl h3)⟩
  · exact ⟨hu, hv, addE_mem.mpr (.inr (.inr ⟨rfl, rfl⟩))⟩
  · exact ⟨hv, hu, addE_mem.mpr (.inr (.inl ⟨rfl, rfl⟩))⟩
theorem PS.WF.add1 {σ : PS} (W : σ.WF) {e : Int × Int × Option Int} (h1 : 0 ≤ e.1 ∧ e.1 < 6) (h2 : 0 ≤ e.2.1 ∧ e.2.1 < 6) (k : Int) (d : Addr) : (σ.add1 e k d).WF :=
  ((W.ens h1).ens h2).addE (ens_keep ens_mem) ens_mem d _
end Mine
end
section -- C6
open PySem PySem.W PySem.Calls PyProof.Rows
namespace Mine
example : hd.heap_39 = hd.heap_39 ∧ PySem.Challenge.rw_ez0179_01 = PySem.Challenge.rw_ez0179_01 := by k_fill; exact ⟨rfl, rfl⟩
theorem nb_len (w : World) : nsIn (hd.heap_39 w.params) mainGlobals "len" = some none := by kernel_rfl
section
variable {p : Program} {loose : List Str} {mg mb : Str → Option Value}
  {w : World} {g : Heap} {L : Addr} {m : List (Str × Value)} {F : List (Addr × List (Str × Value))} {C : Led} {G : Array GenState} {O : OsState} {s : Shared} {A : Around} {E Q : Value → Shared → Prop}
  {a : GA} {dv ev : Option Value} {gk : List (Str × Value)} {σ : PS}

theorem bi_len : bootBuiltins "len" = some (.builtin "len") := by kernel_rfl

theorem add_edges_spec (S : St w g L m F C G O s) (D : Wd (hd.heap_39 w.params) p loose mg mb g) (hroom : A.depth + 5 < recursionLimit) (hh : A.handled = none)
    (H : Gr C a dv ev gk σ) (W : σ.WF) {l : Addr} {x y : Value} {e1 e2 : Int × Int × Option Int} {k : Int} {tk : Tok} (hl : C l = some (.lst [x, y])) (hx : Item C x e1) (hy : Item C y e2)
    (r1 : (0 ≤ e1.1 ∧ e1.1 < 6) ∧ 0 ≤ e1.2.1 ∧ e1.2.1 < 6) (r2 : (0 ≤ e2.1 ∧ e2.1 < 6) ∧ 0 ≤ e2.2.1 ∧ e2.2.1 < 6)
    (h : ∀ s' C' G' d1 d2, St w g L m F C' G' O s' → GB G G' → Gr C' a dv ev gk ((σ.add1 e1 k d1).add1 e2 k d2) → KeepsP C C' → Q .none s') :
    wpAny (model PR w) A (call (.ref 492) [.ref a.x, .ref l] [(Str.ofString "w", .int k tk)]) Q E s := by
  refine wpAny_call ?_
  refine' r_enterKw (ex := [(Str.ofString "w", .int k tk)]) (front := [(Str.ofString "self", .ref a.x), (Str.ofString "ebunch_to_add", .ref l)]) (nm := Str.ofString "attr") S D ?ho ?hcd ?room ?hp ?hk ?hn ?hloc ?_ ?c1 ?c2 ?c3 ?c4
  case ho => k_is
  case hcd => k_is
  case room => omega
  case hp => exact rfl
  case hk => exact fun _ => rfl
  case hn => exact List.nodup_cons.mpr ⟨by simp, List.nodup_nil⟩
  case hloc => exact fun _ => locs rfl
  case c1 => rfl
  case c2 => rfl
  case c3 => rfl
  case c4 => decide
  intro da ep L1 s1 hda S1
  have X1 := Ext.upd (c := .ds .none [(Str.ofString "w", Value.int k tk)] ep) hda
  refine wpAny_execs_cons (wpAny_For (hs := fun _ => rfl) (r_loc S1 rfl ?_))
  refine r_iterL S1 (X1 _ _ hl) fun it s2 hit S2 => ?_
  have X2 := X1.trans (Ext.upd (c := .lit l 0) hit)
  have hCit : C it = none := by
    cases q : C it with
    | none => rfl
    | some c => rw [X1 _ _ q] at hit; cases hit
  refine r_loop (m := [(Str.ofString "self", Value.ref a.x), (Str.ofString "attr", Value.ref da)]) (iter_list .nm)
    (fun i m C' G' => GB G G' ∧ m.lookup (Str.ofString "self") = some (.ref a.x) ∧ m.lookup (Str.ofString "attr") = some (.ref da) ∧ KeepsP C C' ∧ C' da = some (.ds .none [(Str.ofString "w", .int k tk)] ep) ∧
      (match i with | 0 => Gr C' a dv ev gk σ | 1 => ∃ d, Gr C' a dv ev gk (σ.add1 e1 k d) | _ => ∃ d1 d2, Gr C' a dv ev gk ((σ.add1 e1 k d1).add1 e2 k d2))) hh (by show A.depth + 1 + 0 < _; omega) (S2.sub (by intro q hq; rcases List.mem_cons.mp hq with rfl | hq; rfl; rcases List.mem_cons.mp hq with rfl | hq; rfl; cases hq)) ⟨upd_same .., X2 _ _ hl⟩ ⟨.refl _, rfl, rfl, X2.keepsP, upd_old (upd_same ..) hit, H.ext X2⟩ ?_ ?_
  · intro i m3 C3 G3 C4 G4 v s4 E' hi hI ⟨hB, hm1, hm2, hK, hat, hJ⟩ hKP hGB hI' hP S4
    have key : ∃ τ e, (∀ C', (∃ d, Gr C' a dv ev gk (τ.add1 e k d)) → (match i + 1 with | 0 => Gr C' a dv ev gk σ | 1 => ∃ d, Gr C' a dv ev gk (σ.add1 e1 k d) | _ => ∃ d1 d2, Gr C' a dv ev gk ((σ.add1 e1 k d1).add1 e2 k d2))) ∧
        Gr C4 a dv ev gk τ ∧ τ.WF ∧ Item C v e ∧ (0 ≤ e.1 ∧ e.1 < 6) ∧ 0 ≤ e.2.1 ∧ e.2.1 < 6 := by
      have hg := hKP.g (a := a) hI.1 (by rintro (⟨_, _, _, q⟩ | ⟨_, _, _, q⟩ | ⟨_, q⟩ | ⟨_, q⟩ | q) <;> cases q)
      match i, hJ, hP with
      | 0, hJ, hP => obtain rfl : x = v := Option.some.inj hP; exact ⟨σ, e1, fun _ h => h, Gr.mono hJ hg, W, hx, r1⟩
      | 1, ⟨d, hJ⟩, hP => obtain rfl : y = v := Option.some.inj hP; exact ⟨_, e2, fun _ ⟨d2, h⟩ => ⟨d, d2, h⟩, Gr.mono hJ hg, W.add1 r1.1 r1.2 k d, hy, r2⟩
      | i + 2, _, hP => exact absurd hi (by simp)
    obtain ⟨τ, e, hnext, H4, Wτ, hit4, hr1, hr2⟩ := key
    clear hJ
    have hK4 := hK.but hCit hKP
    have hne : da ≠ it := ne_of_cells (C := C3) hat hI.1 (by intro q; cases q)
    have hat4 := hKP _ _ hne hat
    obtain ⟨u, v', o⟩ := e
    obtain ⟨t, t1, t2, rfl, hit5⟩ := hit4.keeps hK4
    clear hit4
    refine r_asN S4 fun s5 S5 => ?_
    refine wpAny_execs_cons (wpAny_mono (Q := fun f s' => f = .next ∧ ∃ m6, St w g L1 m6 ((L, m) :: F) C4 G4 O s' ∧ m6.lookup (Str.ofString "e") = some (.ref t) ∧ m6.lookup (Str.ofString "self") = some (.ref a.x) ∧ m6.lookup (Str.ofString "attr") = some (.ref da) ∧
      ∃ u, m6.lookup (Str.ofString "ne") = some (.int (match o with | none => 2 | some _ => 3) u)) ?_ ?_ (fun _ _ e => e))
    · refine wpAny_Assign_Name (hs := rfl) (r_bcall1 S5 D (nb_len w) bi_len (by decide) (r_loc S5 rfl ?_))
      cases o with
      | none => exact r_lenT S5 hit5 (Nat.le_of_ble_eq_true rfl) fun u s6 S6 => r_store S6 fun s7 S7 => ⟨rfl, _, S7, rfl, hm1, hm2, _, rfl⟩
      | some n =>
        obtain ⟨d, ed, t3, hit5, _⟩ := hit5
        exact r_lenT S5 hit5 (Nat.le_of_ble_eq_true rfl) fun u s6 S6 => r_store S6 fun s7 S7 => ⟨rfl, _, S7, rfl, hm1, hm2, _, rfl⟩
    · rintro f s6 ⟨rfl, m6, S6, l1, l2, l3, tn, l4⟩
      dsimp only
      refine wpAny_execs_cons (wpAny_mono (Q := fun f s' => f = .next ∧ ∃ m7 C7 dd ex e7, St w g L1 m7 ((L, m) :: F) C7 G4 O s' ∧ Ext C4 C7 ∧ m7.lookup (Str.ofString "u") = some (.int u t1) ∧ m7.lookup (Str.ofString "v") = some (.int v' t2) ∧ m7.lookup (Str.ofString "self") = some (.ref a.x) ∧ m7.lookup (Str.ofString "attr") = some (.ref da) ∧
        m7.lookup (Str.ofString "dd") = some (.ref dd) ∧ C7 dd = some (.ds .none ex e7) ∧ (match o with | none => ex = [] | some n => ∃ t3, ex = [(Str.ofString "v", .int n t3)])) ?_ ?_ (fun _ _ e => e))
      · cases o with
        | none =>
          refine wpAny_If (wpAny_isTrue_Compare1 (r_loc S6 l4 (r_int S6 fun _ s6 S6 => PyProof.Rows.eq_int (wpAny_truthy_bool ?_))))
          show wpAny _ _ (execs _ _) _ _ _
          refine wpAny_execs_cons (wpAny_If (wpAny_isTrue_Compare1 (r_loc S6 l4 (r_int S6 fun _ s6 S6 => PyProof.Rows.eq_int (wpAny_truthy_bool ?_)))))
          show wpAny _ _ (execs _ _) _ _ _
          refine wpAny_execs_cons (Assign_Tuple (r_loc S6 l1 ?_))
          refine r_asP S6 hh hit5 fun s7 S7 => ?_
          refine wpAny_execs_cons (wpAny_Assign_Name (hs := rfl) (r_newds .none S7 fun dd s8 hdd S8 => r_store S8 fun s9 S9 => ?_))
          refine wpAny_execs_nil (wpAny_execs_nil ⟨rfl, _, _, dd, [], 0, S9, Ext.upd hdd, rfl, rfl, l2, l3, rfl, upd_same .., rfl⟩)
        | some n =>
          obtain ⟨d, ed, t3, hit5, hd5⟩ := hit5
          refine wpAny_If (wpAny_isTrue_Compare1 (r_loc S6 l4 (r_int S6 fun _ s6 S6 => PyProof.Rows.eq_int (wpAny_truthy_bool ?_))))
          show wpAny _ _ (execs _ _) _ _ _
          refine wpAny_execs_cons (Assign_Tuple (r_loc S6 l1 ?_))
          refine r_asT3 S6 hh hit5 fun s7 S7 => ?_
          exact wpAny_execs_nil ⟨rfl, _, _, d, _, _, S7, .refl _, rfl, rfl, l2, l3, rfl, hd5, _, rfl⟩
      · rintro f s7 ⟨rfl, m7, C7, dd, ex, e7, S7, X7, k1, k2, k3, k4, k5, k6, hex⟩
        dsimp only
        have H7 := H4.ext X7
        have hat7 := X7 _ _ hat4
        have hK7 := hK4.trans X7.keepsP
        have S7 := S7.sub (m' := [(Str.ofString "u", .int u t1), (Str.ofString "v", .int v' t2), (Str.ofString "self", .ref a.x), (Str.ofString "attr", .ref da), (Str.ofString "dd", .ref dd)]) (by
          intro q hq
          rcases List.mem_cons.mp hq with rfl | hq; exact k1
          rcases List.mem_cons.mp hq with rfl | hq; exact k2
          rcases List.mem_cons.mp hq with rfl | hq; exact k3
          rcases List.mem_cons.mp hq with rfl | hq; exact k4
          rcases List.mem_cons.mp hq with rfl | hq; exact k5
          cases hq)
        refine wpAny_execs_cons (r_ensure S7 D (by show A.depth + 1 < _; omega) H7 Wτ rfl rfl rfl rfl rfl rfl rfl rfl rfl ⟨_, rfl⟩ ⟨_, rfl⟩ fun s8 C8 S8 H8 K8 => ?_)
        have W8 := Wτ.ens hr1
        refine wpAny_execs_cons (r_ensure S8 D (by show A.depth + 1 < _; omega) H8 W8 rfl rfl rfl rfl rfl rfl rfl rfl rfl ⟨_, rfl⟩ ⟨_, rfl⟩ fun s9 C9 S9 H9 K9 => ?_)
        have W9 := W8.ens hr2
        dsimp only at W8 W9 H8 H9
        have han : ((τ.ens u).ens v').an.Nodup := by rw [W9.an]; exact W9.nd
        have hua : u ∈ ((τ.ens u).ens v').an := by rw [W9.an]; exact ens_keep ens_mem
        have hva : v' ∈ ((τ.ens u).ens v').an := by rw [W9.an]; exact ens_mem
        have k69 := K9 _ _ (K8 _ _ k6 rfl) rfl
        have hat9 := K9 _ _ (K8 _ _ hat7 rfl) rfl
        refine wpAny_execs_cons (r_getdat S9 D (by show A.depth + 1 < _; omega) H9 han hua rfl rfl rfl rfl rfl ⟨rfl, rfl⟩ ⟨rfl, rfl⟩ ⟨rfl, rfl⟩ ⟨rfl, rfl⟩ rfl ⟨_, rfl⟩ ⟨_, rfl⟩ fun s10 C10 d kvs e10 S10 H10 X10 hd10 hc => ?_)
        have hx1 : KvsOk (merged kvs [(Str.ofString "w", Value.int k tk)]) (mrg (((τ.ens u).ens v').ij u v') (k, none)) := by
          rcases hc with ⟨c1, c2, c3⟩ | ⟨c1, rfl⟩
          · have := kvs_w c2 k tk
            unfold PS.ij mrg; rw [if_pos c1]; exact this
          · unfold PS.ij mrg; rw [if_neg c1]; exact kvs_w0 k tk
        have hz : kvs.length ≤ 2 := by
          rcases hc with ⟨_, c2, _⟩ | ⟨_, rfl⟩
          · exact kvs_0 c2
          · exact Nat.zero_le _
        have hold : ∀ k ∈ ((τ.ens u).ens v').an, ∀ y ∈ ((τ.ens u).ens v').nbrs k, min k y = min u v' → max k y = max u v' → ((τ.ens u).ens v').da (min u v') (max u v') = d := by
          intro k _ y hy e1 e2
          rcases hc with ⟨_, _, c3⟩ | ⟨c1, _⟩
          · exact c3
          · exact (W9.apart c1 hy e1 e2).elim
        refine wpAny_execs_cons (r_upddat S10 H10 rfl rfl hd10 (X10 _ _ hat9) rfl rfl ⟨rfl, rfl⟩ ⟨rfl, rfl⟩ (by simp; omega) hx1 hold rfl rfl ⟨_, rfl⟩ fun s11 C11 e11 S11 H11 K11 hd11 => ?_)
        have hx2 : KvsOk (merged (merged kvs [(Str.ofString "w", Value.int k tk)]) ex) (mrg (((τ.ens u).ens v').ij u v') (k, o)) := by
          cases o with
          | none => subst hex; exact hx1
          | some n => obtain ⟨t3, rfl⟩ := hex; exact kvs_v hx1 n t3
        have hex' : ex.length ≤ 1 := by
          cases o with
          | none => subst hex; exact Nat.zero_le _
          | some n => obtain ⟨t3, rfl⟩ := hex; exact Nat.le_refl _
        have hz2 := kvs_0 hx1
        refine wpAny_execs_cons (r_upddat S11 H11 rfl rfl hd11 (K11 _ _ (X10 _ _ k69) rfl) rfl rfl ⟨rfl, rfl⟩ ⟨rfl, rfl⟩ (by omega) hx2 (fun _ _ _ _ _ _ => if_pos ⟨rfl, rfl⟩) rfl rfl ⟨_, rfl⟩ fun s12 C12 e12 S12 H12 K12 hd12 => ?_)
        rw [PS.setW2] at H12
        have hda : (((τ.ens u).ens v').setW (min u v') (max u v') d (mrg (((τ.ens u).ens v').ij u v') (k, o))).da (min u v') (max u v') = d := if_pos ⟨rfl, rfl⟩
        have hdat : DatOk C12 (((τ.ens u).ens v').setW (min u v') (max u v') d (mrg (((τ.ens u).ens v').ij u v') (k, o))) (min u v') (max u v') :=
          ⟨_, e12, by rw [hda]; exact hd12, by rw [show (PS.setW _ _ _ _ _).wt (min u v') (max u v') = mrg (((τ.ens u).ens v').ij u v') (k, o) from if_pos ⟨rfl, rfl⟩]; exact hx2⟩
        refine wpAny_execs_cons (r_stedge S12 D H12 han (W9.lenN u) hua rfl rfl rfl rfl rfl rfl ⟨rfl, rfl⟩ ⟨rfl, rfl⟩ ⟨rfl, rfl⟩ ⟨rfl, rfl⟩ hda hdat rfl fun s13 C13 S13 H13 K13 M13 => ?_)
        have hlen13 : ((PS.half (((τ.ens u).ens v').setW (min u v') (max u v') d (mrg (((τ.ens u).ens v').ij u v') (k, o))) u v').nbrs v').length ≤ 6 := by
          show (if v' = u then ins (((τ.ens u).ens v').nbrs u) v' else ((τ.ens u).ens v').nbrs v').length ≤ 6
          have hin : (ins (((τ.ens u).ens v').nbrs u) v').length ≤ 6 := small_len (ins_nodup (W9.nn u) v') fun x hx => by
            rcases mem_ins.mp hx with hx | rfl
            · exact W9.rng x (W9.mem _ _ hx).2.1
            · exact hr2
          split
          · exact hin
          · exact W9.lenN v'
        refine wpAny_execs_cons (r_stedge S13 D H13 han hlen13 hva rfl rfl rfl rfl rfl rfl ⟨rfl, rfl⟩ ⟨rfl, rfl⟩ ⟨rfl, rfl⟩ ⟨rfl, rfl⟩ ?_ ?_ rfl fun s14 C14 S14 H14 K14 M14 => ?_)
        · rw [Int.min_comm v' u, Int.max_comm v' u]; exact hda
        · rw [Int.min_comm v' u, Int.max_comm v' u]; exact hdat.same M13 (by intro q; cases q) rfl rfl
        have KK : KeepsP C4 C14 := ((X7.keepsP.trans K8).trans K9).trans ((X10.keepsP.trans K11).trans ((K12.trans K13).trans K14))
        refine wpAny_execs_nil ⟨_, C14, G4, S14, ⟨KK _ _ hI'.1 trivial, KK _ _ hI'.2 trivial⟩, hB.trans hGB, rfl, rfl, hK4.trans KK, KK _ _ hat4 rfl, hnext C14 ⟨d, H14⟩⟩
  · intro m3 C3 G3 C4 G4 s4 hI ⟨hB, hm1, hm2, hK, hat, d1, d2, hJ⟩ hKP hGB S4
    exact wpAny_execs_nil (h _ _ _ d1 d2 (S.pop S4) (hB.trans hGB) (hJ.mono (hKP.g hI.1 (by rintro (⟨_, _, _, q⟩ | ⟨_, _, _, q⟩ | ⟨_, q⟩ | ⟨_, q⟩ | q) <;> cases q))) (hK.but hCit hKP))
end
end Mine
end
section -- C7
open PySem PySem.W PySem.Calls PyProof.Rows
namespace Mine
section
variable {w : World} {g : Heap} {L : Addr} {m : List (Str × Value)} {F : List (Addr × List (Str × Value))} {C : Led} {G : Array GenState} {O : OsState} {s : Shared} {A : Around} {E : Value → Shared → Prop} {env : Env}

theorem sliceApplied_upto {sl : Addr} {n : Nat} {u : Tok} {Q : Int × Int × Nat → Shared → Prop} (hs : s.heap.IsSliceOf sl .none (.int 2 u) .none) (hn : 2 ≤ n) (h : Q (0, 1, 2) s) :
    wpAny (model PR w) A (Builtin.Slice.sliceApplied (.ref sl) (pure (n : Int))) Q E s := by
  obtain ⟨os, hos, hcs, hds⟩ := id hs
  unfold Builtin.Slice.sliceApplied Builtin.Slice.sliceFields
  refine wpAny_bind (wpAny_bind (wpAny_field hos hds (x := .none) rfl (wpAny_bind (wpAny_field hos hds (x := .int 2 u) rfl (wpAny_bind (wpAny_field hos hds (x := .none) rfl (wpAny_pure ?_)))))))
  refine wpAny_bind (PyProof.Rows.slicePart_none ?_)
  show wpAny _ _ (if ((1 : Int) == 0) = true then _ else _) _ _ s
  rw [if_neg (by decide)]
  refine wpAny_bind (PyProof.Rows.slicePart_none (wpAny_bind (PyProof.Rows.slicePart_int (wpAny_bind (wpAny_pure ?_)))))
  have e : Builtin.Slice.sliceAdjust none (some 2) 1 (n : Int) = (0, 2) := by
    unfold Builtin.Slice.sliceAdjust
    have h1 : ¬ ((1 : Int) < 0) := by omega
    have h2 : ¬ ((2 : Int) < 0) := by omega
    simp only [h1, h2, if_false]
    congr 1
    omega
  show wpAny _ _ (match Builtin.Slice.sliceAdjust none (some 2) 1 (n : Int) with | (lo, hi) => pure (lo, (1 : Int), Builtin.Slice.slicePlaces lo hi 1)) _ _ s
  rw [e]
  exact wpAny_pure h

/-- e[:2] of a pair, of a triple -/
theorem r_sub2 {value : PySem.Expr} {t : Addr} {v1 v2 : Value} {rest : List Value} {k : Nat} {p1 p2 p3 : Pos} {Q : Value → Shared → Prop} (S : St w g L m F C G O s) (ht : C t = some (.tup (v1 :: v2 :: rest))) (hz : rest.length ≤ 1)
    (h : ∀ r s' C', St w g L m F C' G O s' → Ext C C' → C' r = some (.tup [v1, v2]) → Q (.ref r) s')
    (hg : ∀ r, letTemporaryGo value (.ref t) r = pure () := by intro _; rfl) :
    wpAny (model PR w) A (eval (.Slice none (some (.Constant (.int 2) k p1)) none p2) env) (fun i s₁ => wpAny (model PR w) A (subscriptTail value (.Slice none (some (.Constant (.int 2) k p1)) none p3) (.ref t) i) Q E s₁) E s := by
  refine wpAny_Slice (wpAny_pure (show wpAny _ _ (eval (.Constant (.int 2) k p1) env) _ _ _ from r_int S fun u s1 S1 => wpAny_pure ?_))
  have S2 := S1.push (t := s1.toks) (c := .obj { cls := .type "slice", data := .fields #[.none, .int 2 u, .none] }) (Heap.get?_push_size s1.heap rfl)
  have X2 : Ext C (upd C s1.heap.objs.size (.obj { cls := .type "slice", data := .fields #[.none, .int 2 u, .none] })) := .upd S1.free
  have ht2 := S2.isTup (X2 _ _ ht)
  refine PyProof.Rows.subscriptTail_ops ht2.typeIs slot_tuple_getitem.lookup ?_ (by with_unfolding_all rfl) hg
  unfold getItem
  try with_reducible refine wpAny_holding ?_
  first | refine wpAny_bind (wpAny_pure ?_) | skip
  refine wpAny_bind (wpAny_sequenceKey ht2.typeIs (by decide) ?_)
  refine wpAny_bind (wpAny_callSpecial?_slot (name := Str.ofString "__getitem__") ht2.typeIs slot_tuple_getitem
    (wpAny_call_entry slot_tuple_getitem ht2.typeIs entry_tuple_getitem ?_ (args_tuple_getitem _ _)))
  show wpAny _ _ (Builtin.Tuple.tupleItemsOf (.ref t) >>= _) _ _ _
  refine wpAny_bind (PyProof.Rows.tupleItemsOf_ ht2 ?_)
  refine wpAny_bind (wpAny_typeOf (T := "slice") ⟨_, Heap.get?_push_size s1.heap rfl, rfl⟩ ?_)
  rw [if_pos (by decide)]
  refine wpAny_bind (sliceApplied_upto ⟨_, Heap.get?_push_size s1.heap rfl, rfl, rfl⟩ (by simp) ?_)
  cases rest with
  | nil =>
    show wpAny _ _ (if true = true then _ else _) _ _ _
    rw [if_pos rfl]
    refine wpAny_bind (m := Builtin.Tuple.tupleIsExact _) ?_
    unfold Builtin.Tuple.tupleIsExact
    refine wpAny_bind (wpAny_typeOf ht2.typeIs (wpAny_pure ?_))
    show wpAny _ _ (if true = true then _ else _) _ _ _
    rw [if_pos rfl]
    exact wpAny_bind (wpAny_rule (wpAny_pure ⟨_, rfl, wpAny_pure (h _ _ _ S2 X2 (X2 _ _ ht))⟩))
  | cons z r =>
    obtain rfl : r = [] := by cases r with | nil => rfl | cons => simp at hz
    show wpAny _ _ (if false = true then _ else _) _ _ _
    rw [if_neg Bool.false_ne_true]
    show wpAny _ _ (Builtin.Tuple.tupleExact #[v1, v2] >>= _) _ _ _
    have fin := h _ _ _ (S2.push (t := s1.toks) (c := .tup [v1, v2]) (Heap.get?_push_size _ rfl)) (X2.trans (.upd S2.free)) (upd_same ..)
    first
      | exact wpAny_bind (m := Builtin.Tuple.tupleExact _) (wpAny_newObj_type (wpAny_pure ⟨_, rfl, wpAny_pure fin⟩) (by size_fits))
      | exact wpAny_bind (m := Builtin.Tuple.tupleExact _) (wpAny_newObj_type (wpAny_bind (wpAny_pure (wpAny_pure ⟨_, rfl, wpAny_pure fin⟩))) (by size_fits))
      | exact wpAny_bind (wpAny_bind (m := Builtin.Tuple.tupleExact _) (wpAny_newObj_type (wpAny_pure (wpAny_pure ⟨_, rfl, wpAny_pure fin⟩)) (by size_fits)))
      | exact wpAny_bind (wpAny_bind (m := Builtin.Tuple.tupleExact _) (wpAny_newObj_type (wpAny_pure ⟨_, rfl, wpAny_pure fin⟩) (by size_fits)))
end

def PS.rmE (σ : PS) (u v : Int) : PS := { σ with nbrs := fun k => (σ.nbrs k).filter fun x => !decide ((k = u ∧ x = v) ∨ (k = v ∧ x = u)) }
theorem rmE_mem {σ : PS} {u v n k : Int} : k ∈ (σ.rmE u v).nbrs n ↔ k ∈ σ.nbrs n ∧ ¬ ((n = u ∧ k = v) ∨ (n = v ∧ k = u)) := by
  show k ∈ (σ.nbrs n).filter _ ↔ _
  rw [List.mem_filter]; simp only [Bool.not_eq_true', decide_eq_false_iff_not]
theorem PS.rmE_none {σ : PS} (W : σ.WF) {u v : Int} (h : v ∉ σ.nbrs u) : σ.rmE u v = σ := by
  have e : (σ.rmE u v).nbrs = σ.nbrs := by
    funext k
    show (σ.nbrs k).filter _ = _
    rw [List.filter_eq_self]
    intro x hx
    simp only [Bool.not_eq_true', decide_eq_false_iff_not]
    rintro (⟨rfl, rfl⟩ | ⟨rfl, rfl⟩)
    · exact h hx
    · exact h (W.mem _ _ hx).2.2
  show PS.mk σ.nodes σ.an (σ.rmE u v).nbrs σ.da σ.wt = σ
  rw [e]
theorem PS.rmE_self {σ : PS} {u : Int} : { σ with nbrs := fun k => if k = u then (σ.nbrs u).filter (· ≠ u) else σ.nbrs k } = σ.rmE u u := by
  have e : (fun k => if k = u then (σ.nbrs u).filter (· ≠ u) else σ.nbrs k) = (σ.rmE u u).nbrs := by
    funext k
    show _ = (σ.nbrs k).filter _
    by_cases h : k = u
    · subst h; rw [if_pos rfl]; congr 1; funext x; simp
    · rw [if_neg h]; symm; rw [List.filter_eq_self]; intro x _; simp [h]
  show PS.mk σ.nodes σ.an _ σ.da σ.wt = PS.mk σ.nodes σ.an (σ.rmE u u).nbrs σ.da σ.wt
  rw [e]
theorem PS.rmE_two {σ : PS} {u v : Int} (h : u ≠ v) : { σ with nbrs := fun k => if k = v then (σ.nbrs v).filter (· ≠ u) else if k = u then (σ.nbrs u).filter (· ≠ v) else σ.nbrs k } = σ.rmE u v := by
  have e : (fun k => if k = v then (σ.nbrs v).filter (· ≠ u) else if k = u then (σ.nbrs u).filter (· ≠ v) else σ.nbrs k) = (σ.rmE u v).nbrs := by
    funext k
    show _ = (σ.nbrs k).filter _
    by_cases h1 : k = v
    · subst h1; rw [if_pos rfl]; congr 1; funext x; simp [Ne.symm h]
    · rw [if_neg h1]
      by_cases h2 : k = u
      · subst h2; rw [if_pos rfl]; congr 1; funext x; simp [h1]
      · rw [if_neg h2]; symm; rw [List.filter_eq_self]; intro x _; simp [h1, h2]
  show PS.mk σ.nodes σ.an _ σ.da σ.wt = PS.mk σ.nodes σ.an (σ.rmE u v).nbrs σ.da σ.wt
  rw [e]
theorem PS.WF.rmE {σ : PS} (W : σ.WF) (u v : Int) : (σ.rmE u v).WF := by
  refine ⟨W.an, W.nd, W.rng, fun n => (W.nn n).filter _, fun n k hk => ?_⟩
  obtain ⟨h1, h2⟩ := rmE_mem.mp hk
  obtain ⟨k1, k2, k3⟩ := W.mem n k h1
  refine ⟨k1, k2, rmE_mem.mpr ⟨k3, fun h => h2 ?_⟩⟩
  rcases h with ⟨rfl, rfl⟩ | ⟨rfl, rfl⟩
  · exact .inr ⟨rfl, rfl⟩
  · exact .inl ⟨rfl, rfl⟩
end Mine
end
section -- C8
open PySem PySem.W PySem.Calls PyProof.Rows
namespace Mine
def rmL (σ : PS) (l : List (Int × Int)) : PS := l.foldl (fun τ e => τ.rmE e.1 e.2) σ
theorem rmL_wf {σ : PS} (W : σ.WF) (l : List (Int × Int)) : (rmL σ l).WF := by
  induction l generalizing σ with
  | nil => exact W
  | cons e l ih => exact ih (W.rmE e.1 e.2)
def RItem (C : Led) (v : Value) (e : Int × Int) : Prop := ∃ t t1 t2 rest, v = .ref t ∧ C t = some (.tup (.int e.1 t1 :: .int e.2 t2 :: rest)) ∧ rest.length ≤ 1

section
variable {C : Led} {a : GA} {dv ev : Option Value} {gk : List (Str × Value)} {σ : PS}
/-- a pair taken out of one row -/
theorem Gr.cut (H : Gr C a dv ev gk σ) (han : σ.an.Nodup) {u v : Int} {b : Addr} {ak r : List (Int × Value)} {ea ep e1 : Nat} (had : C a.ad = some (.di .adj ak ea)) (hin : (u, Value.ref b) ∈ ak)
    (hb : C b = some (.di (.row u) r ep)) (hr : r.map (·.1) = σ.nbrs u ∧ ∀ q ∈ r, q.2 = .ref (σ.da (min u q.1) (max u q.1)) ∧ DatOk C σ (min u q.1) (max u q.1)) :
    Gr (upd C b (.di (.row u) (without r v) e1)) a dv ev gk { σ with nbrs := fun k => if k = u then (σ.nbrs u).filter (· ≠ v) else σ.nbrs k } :=
  H.row (l := (σ.nbrs u).filter (· ≠ v)) had hin han hb (by rw [keys_without, hr.1]) fun q hq => hr.2 q (List.mem_filter.mp hq).1
end

example : hd.heap_39 = hd.heap_39 ∧ PySem.Challenge.rw_ez0179_01 = PySem.Challenge.rw_ez0179_01 := by k_fill; exact ⟨rfl, rfl⟩
section
variable {p : Program} {loose : List Str} {mg mb : Str → Option Value}
  {w : World} {g : Heap} {L : Addr} {m : List (Str × Value)} {F : List (Addr × List (Str × Value))} {C : Led} {G : Array GenState} {O : OsState} {s : Shared} {A : Around} {E Q : Value → Shared → Prop}
  {a : GA} {dv ev : Option Value} {gk : List (Str × Value)} {σ : PS}

theorem remove_edges_spec (S : St w g L m F C G O s) (D : Wd (hd.heap_39 w.params) p loose mg mb g) (hroom : A.depth + 5 < recursionLimit) (hh : A.handled = none)
    (H : Gr C a dv ev gk σ) (W : σ.WF) {l : Addr} {vs : List Value} {es : List (Int × Int)} (hl : C l = some (.lst vs)) (hv : ∀ (i : Nat) v, vs[i]? = some v → ∃ e, es[i]? = some e ∧ RItem C v e) (hlen : vs.length = es.length)
    (h : ∀ s' C' G', St w g L m F C' G' O s' → GB G G' → Gr C' a dv ev gk (rmL σ es) → KeepsP C C' → Q .none s') :
    wpAny (model PR w) A (call (.ref 506) [.ref a.x, .ref l]) Q E s := by
  refine wpAny_call ?_
  refine' r_enter (binds := [(Str.ofString "self", .ref a.x), (Str.ofString "ebunch", .ref l)]) S D ?ho ?hcd ?room ?hb ?hl ?_ ?c1 ?c2 ?c3 ?c4
  case ho => k_is
  case hcd => k_is
  case room => omega
  case hb => exact .of_eq rfl
  case hl => exact locs rfl
  case c1 => rfl
  case c2 => rfl
  case c3 => rfl
  case c4 => decide
  intro L1 s1 S1
  refine wpAny_execs_cons (wpAny_Assign_Name (hs := rfl) ?_)
  refine r_nattr S1 D rfl H.x H.dx (ok_adj w) rfl rfl (fun s2 S2 => r_store S2 fun s3 S3 => ?_)
  refine wpAny_execs_cons (wpAny_For (hs := fun _ => rfl) (r_loc S3 rfl ?_))
  refine r_iterL S3 hl fun it s4 hit S4 => ?_
  have X4 := Ext.upd (c := .lit l 0) hit
  refine r_loop (iter_list .nm) (fun i m C' G' => GB G G' ∧ m.lookup (Str.ofString "adj") = some (.ref a.ad) ∧ Gr C' a dv ev gk (rmL σ (es.take i)) ∧ KeepsP C C') hh (by show A.depth + 1 + 0 < _; omega)
    S4 ⟨upd_same .., X4 _ _ hl⟩ ⟨.refl _, rfl, by rw [List.take_zero]; exact H.ext X4, X4.keepsP⟩ ?_ ?_
  · intro i m5 C5 G5 C6 G6 v s6 E' hi hI ⟨hB, hm, hJ, hK⟩ hKP hGB hI' hP S6
    have H6 := hJ.mono (hKP.g hI.1 (by rintro (⟨_, _, _, q⟩ | ⟨_, _, _, q⟩ | ⟨_, q⟩ | ⟨_, q⟩ | q) <;> cases q))
    have hK6 := hK.but hit hKP
    obtain ⟨⟨u, v'⟩, he, t, t1, t2, rest, rfl, ht, hrl⟩ := hv i v hP
    have ht6 := hK6 _ _ ht trivial
    have hnext : rmL σ (es.take (i + 1)) = (rmL σ (es.take i)).rmE u v' := by
      rw [List.take_add_one, he]; unfold rmL; rw [List.foldl_append]; rfl
    have Wτ := rmL_wf W (es.take i)
    rw [hnext]
    generalize rmL σ (es.take i) = τ at H6 Wτ
    clear hJ hnext
    refine r_asN S6 fun s7 S7 => ?_
    refine wpAny_execs_cons (Assign_Tuple (Subscript_ (r_loc S7 rfl ?_)))
    refine r_sub2 S7 ht6 hrl fun r s8 C8 S8 X8 hr8 => ?_
    have H8 := H6.ext X8
    have hK8 := hK6.trans X8.keepsP
    refine r_asP S8 hh hr8 fun s9 S9 => ?_
    obtain ⟨ak, ea, had, hak, hrows⟩ := H8.ad
    have done : ∀ m' C' s', St w g L1 m' ((L, m) :: F) C' G6 O s' → KeepsP C8 C' → m'.lookup (Str.ofString "adj") = some (.ref a.ad) → Gr C' a dv ev gk (τ.rmE u v') →
      ∃ m' C'' G'', St w g L1 m' ((L, m) :: F) C'' G'' O s' ∧ (C'' it = some (.lit l (i + 1)) ∧ C'' l = some (.lst vs)) ∧ GB G G'' ∧ m'.lookup (Str.ofString "adj") = some (.ref a.ad) ∧ Gr C'' a dv ev gk (τ.rmE u v') ∧ KeepsP C C'' := fun m' C' s' S' K' hm' H' =>
        ⟨m', C', G6, S', ⟨K' _ _ (X8 _ _ hI'.1) trivial, K' _ _ (X8 _ _ hI'.2) trivial⟩, hB.trans hGB, hm', H', hK8.trans K'⟩
    have hmA : ((Str.ofString "v", Value.int v' t2) :: (Str.ofString "u", Value.int u t1) :: (Str.ofString "e", Value.ref t) :: m5).lookup (Str.ofString "adj") = some (.ref a.ad) := hm
    refine wpAny_execs_cons (wpAny_If (wpAny_isTrue_BoolOp (wpAny_allTrue_And_cons (wpAny_isTrue_Compare1 (r_loc S9 rfl (r_loc S9 hmA (r_inI S9 had fun s10 S10 => wpAny_truthy_bool ?_)))))))
    rw [valueAt_isSome, hak]
    by_cases hu : u ∈ τ.an
    · rw [decide_eq_true hu, if_pos rfl]
      obtain ⟨b, r', ep, hin, hb, hr1, hr2⟩ := H8.rowOf had hu
      refine wpAny_allTrue_And_cons (wpAny_isTrue_Compare1 (r_loc S10 rfl (Subscript_ (r_loc S10 hmA (r_loc S10 rfl (r_subI S10 had (valueAt_of_mem (S10.nodupI had) hin) fun s11 S11 => r_inI S11 hb fun s12 S12 => wpAny_truthy_bool ?_))))))
      rw [valueAt_isSome, hr1]
      by_cases hvu : v' ∈ τ.nbrs u
      · rw [decide_eq_true hvu, if_pos rfl]
        refine wpAny_allTrue_And_nil ?_
        show wpAny _ _ (execs _ _) _ _ _
        have hlr : r'.length ≤ 6 := by have := Wτ.lenN u; rw [← hr1, List.length_map] at this; exact this
        refine wpAny_execs_cons (wpAny_Delete (wpAny_deleteEach_cons (delete_Subscript (Subscript_ (r_loc S12 hmA (r_loc S12 rfl (r_subI S12 had (valueAt_of_mem (S12.nodupI had) hin) fun s13 S13 => r_loc S13 rfl ?_)))))))
        refine r_delI S13 hb (by omega) (by rw [valueAt_isSome, hr1]; exact decide_eq_true hvu) fun e14 s14 S14 => wpAny_deleteEach_nil ?_
        have han : τ.an.Nodup := by rw [Wτ.an]; exact Wτ.nd
        have H14 := H8.cut (e1 := e14) (v := v') han had hin hb ⟨hr1, hr2⟩
        have K14 : KeepsP C8 _ := KeepsP.upd (c' := .di (.row u) (without r' v') e14) hb (by intro q; cases q)
        have n14 : a.ad ≠ b := ne_of_cells had hb (by intro q; cases q)
        have had14 := (upd_ne (c := .di (.row u) (without r' v') e14) n14).trans had
        refine wpAny_execs_cons (wpAny_If (wpAny_isTrue_Compare1 (r_loc S14 rfl (r_loc S14 rfl (PyProof.Rows.ne_int (wpAny_truthy_bool ?_))))))
        by_cases huv : u = v'
        · subst huv
          rw [show (u != u) = false from bne_self_eq_false u]
          refine wpAny_execs_nil (wpAny_execs_nil (wpAny_execs_nil (done _ _ _ S14 K14 hmA ?_)))
          rw [← PS.rmE_self]; exact H14
        · rw [show (u != v') = true from by simp [huv]]
          show wpAny _ _ (execs _ _) _ _ _
          have hva : v' ∈ τ.an := by rw [Wτ.an]; exact (Wτ.mem u v' hvu).2.1
          obtain ⟨b2, r2, ep2, hin2, hb2, hr21, hr22⟩ := H14.rowOf had14 hva
          have hu2 : u ∈ τ.nbrs v' := (Wτ.mem u v' hvu).2.2
          have hr21' : r2.map (·.1) = τ.nbrs v' := by rw [hr21]; exact if_neg (Ne.symm huv)
          have hlr2 : r2.length ≤ 6 := by have := Wτ.lenN v'; rw [← hr21', List.length_map] at this; exact this
          refine wpAny_execs_cons (wpAny_Delete (wpAny_deleteEach_cons (delete_Subscript (Subscript_ (r_loc S14 hmA (r_loc S14 rfl (r_subI S14 had14 (valueAt_of_mem (S14.nodupI had14) hin2) fun s15 S15 => r_loc S15 rfl ?_)))))))
          refine r_delI S15 hb2 (by omega) (by rw [valueAt_isSome, hr21']; exact decide_eq_true hu2) fun e16 s16 S16 => wpAny_deleteEach_nil ?_
          have H16 := H14.cut (e1 := e16) (v := u) han had14 hin2 hb2 ⟨hr21, hr22⟩
          refine wpAny_execs_nil (wpAny_execs_nil (wpAny_execs_nil (done _ _ _ S16 (K14.trans (KeepsP.upd hb2 (by intro q; cases q))) hmA ?_)))
          rw [← PS.rmE_two huv]
          have e : (fun k => if k = v' then (if v' = u then (τ.nbrs u).filter (· ≠ v') else τ.nbrs v').filter (· ≠ u) else if k = u then (τ.nbrs u).filter (· ≠ v') else τ.nbrs k) = fun k => if k = v' then (τ.nbrs v').filter (· ≠ u) else if k = u then (τ.nbrs u).filter (· ≠ v') else τ.nbrs k := by
            rw [if_neg (Ne.symm huv)]
          rw [← e]; exact H16
      · rw [decide_eq_false hvu]
        refine wpAny_execs_nil (wpAny_execs_nil (done _ _ _ S12 (.refl _) hmA ?_))
        rw [PS.rmE_none Wτ hvu]; exact H8
    · rw [decide_eq_false hu]
      refine wpAny_execs_nil (wpAny_execs_nil (done _ _ _ S10 (.refl _) hmA ?_))
      rw [PS.rmE_none Wτ (fun hv => hu (by rw [Wτ.an]; exact (Wτ.mem u v' hv).1))]; exact H8
  · intro m5 C5 G5 C6 G6 s5 hI ⟨hB, hm, hJ, hK⟩ hKP hGB S5
    refine wpAny_execs_nil (h _ _ _ (S.pop S5) (hB.trans hGB) ?_ (hK.but hit hKP))
    have := hJ.mono (hKP.g hI.1 (by rintro (⟨_, _, _, q⟩ | ⟨_, _, _, q⟩ | ⟨_, q⟩ | ⟨_, q⟩ | q) <;> cases q))
    rw [hlen, List.take_length] at this
    exact this
end
end Mine
end
section -- D1
open PySem PySem.W PySem.Calls PyProof.Rows
namespace Mine
section
variable {w : World} {g : Heap} {L : Addr} {m : List (Str × Value)} {F : List (Addr × List (Str × Value))} {C : Led} {G : Array GenState} {O : OsState} {s : Shared} {A : Around} {E : Value → Shared → Prop}

/-- the tree behind pyNext, where the target is a name -/
theorem next_name {it : Addr} {x : Str} {p : Pos} {k : Option Value → Sem Fin} {Q : PySem.Fin → Shared → Prop}
    (h : wpAny (model PR w) A (pyNext (.ref it)) (fun r s₁ => match r with | none => wpAny (model PR w) A (k none) Q E s₁ | some v => wpAny (model PR w) A (letOwnedTupleGo (.Name x p) (.ref it) v) (fun _ s₂ => wpAny (model PR w) A (k (some v)) Q E s₂) E s₁) E s) :
    wpAny (model PR w) A (pyNext (.ref it) >>= k) Q E s := by
  refine wpAny_bind (wpAny_mono h (fun r s₁ h₁ => ?_) fun _ _ e => e)
  cases r with
  | none => exact h₁
  | some v => exact (show wpAny (model PR w) A (pure () >>= fun _ => k (some v)) Q E s₁ from wpAny_bind (m := letOwnedTupleGo (.Name x p) (.ref it) v) h₁)

theorem IterOk.stepN {dd : Nat} {x : Str} {p : Pos} {it : Addr} {n i : Nat} {KP : Led → Led → Prop} {I : Nat → Led → Array GenState → Prop} {P : Nat → Value → Led → Prop} {k : Option Value → Sem Fin} {Q : PySem.Fin → Shared → Prop}
    (W : IterOk w dd (.Name x p) it n KP I P) (hh : A.handled = none) (hd : A.depth + dd < recursionLimit) (S : St w g L m F C G O s) (hI : I i C G) (hi : i < n)
    (h : ∀ v C' G' s', St w g L m F C' G' O s' → KP C C' → GB G G' → I (i + 1) C' G' → P i v C' → wpAny (model PR w) A (k (some v)) Q E s') :
    wpAny (model PR w) A (pyNext (.ref it) >>= k) Q E s := next_name (W.next (Q := fun r s => wpAny (model PR w) A (k r) Q E s) hh hd S hI hi h)

/-- a list filled from an iterator -/
theorem ext_loop {x : Str} {p : Pos} {it S : Addr} {n dd : Nat} {KP : Led → Led → Prop} {I : Nat → Led → Array GenState → Prop} {P : Nat → Value → Led → Prop} {R : Result → Shared → Prop} {res : Value}
    (W : IterOk w dd (.Name x p) it n KP I P) (J : Nat → Led → Array GenState → List Value → Prop) (hn : n ≤ 1000) (hh : A.handled = none) (hd : A.depth + dd < recursionLimit)
    (hK : ∀ C C' ys, C S = some (.lst ys) → KP C C' → C' S = some (.lst ys))
    (step : ∀ i C G C' G' v ys, i < n → C S = some (.lst ys) → I i C G → J i C G ys → KP C C' → GB G G' → I (i + 1) C' G' → P i v C' → I (i + 1) (upd C' S (.lst (ys ++ [v]))) G' ∧ J (i + 1) (upd C' S (.lst (ys ++ [v]))) G' (ys ++ [v]))
    (fin : ∀ C G C' G' s ys, I n C G → J n C G ys → KP C C' → GB G G' → C' S = some (.lst ys) → St w g L m F C' G' O s → R (.ok (.ret res)) s) :
    ∀ (k i : Nat) (C : Led) (G : Array GenState) (s : Shared) (ys : List Value), n - i = k → i ≤ n → ys.length = i → St w g L m F C G O s → I i C G → J i C G ys → C S = some (.lst ys) →
      codeAny (model PR w) A (.builtin "list.extend.loop" ⟨[.ref S, .ref it, res], []⟩) R s := by
  intro k
  induction k with
  | zero =>
    intro i C G s ys hk hi hy S0 I0 J0 hS
    obtain rfl : i = n := by omega
    refine codeAny_builtin PySem.F.entry_extend_loop ?_
    rw [Around.under_plainId PySem.F.plain_extend_loop _]
    show wpAny _ A.in1 (pyNext (.ref it) >>= _) _ _ s
    refine wpAny_bind (W.done (A := A.in1) hh hd S0 I0 fun C' G' s' S' K' B' => wpAny_pure ?_)
    exact fin _ _ _ _ _ _ I0 J0 K' B' (hK _ _ _ hS K') S'
  | succ k ih =>
    intro i C G s ys hk hi hy S0 I0 J0 hS
    have hlt : i < n := by omega
    refine codeAny_builtin PySem.F.entry_extend_loop ?_
    rw [Around.under_plainId PySem.F.plain_extend_loop _]
    show wpAny _ A.in1 (pyNext (.ref it) >>= _) _ _ s
    refine W.stepN (A := A.in1) hh hd S0 I0 hlt fun v C' G' s' S' K' B' I' P' => ?_
    have hS' := hK _ _ _ hS K'
    obtain ⟨o, ho, hc, n', hdt⟩ := S'.isList hS'
    show wpAny _ A.in1 (updateSeq S (·.push v) >>= _) _ _ _
    refine wpAny_bind ?_
    refine wpAny_updateSeq ho hdt (wpAny_pure ⟨plainId_quiet PySem.F.plain_extend_loop _, ?_⟩) (by rw [sizeLine_eq]; simp; omega) (by rw [sizeLine_eq]; simp; omega)
    have S2 : St w g L m F (upd C' S (.lst (ys ++ [v]))) G' O { s' with heap := s'.heap.update S (Obj.mapSeq (·.push v)) } := S'.put hS' (Heap.SameBut.update ..) (by
      obtain ⟨n'', e⟩ := Obj.data_mapSeq hdt (·.push v)
      exact ⟨_, Heap.get?_update_self _ ho (Obj.isFreed_of_seq e), by rw [Obj.cls_mapSeq]; exact hc, n'', by rw [e]; simp⟩) S'.gens S'.os
    obtain ⟨I2, J2⟩ := step i C G C' G' v ys hlt hS I0 J0 K' B' I' P'
    exact ih (i + 1) _ _ _ _ (by omega) hlt (by simp [hy]) S2 I2 J2 (upd_same ..)

/-- what a list that is filled from an iterator needs: J tells the list so far -/
def Fills (w : World) (g : Heap) (L : Addr) (m : List (Str × Value)) (F : List (Addr × List (Str × Value))) (O : OsState) (A : Around) (S' : Addr) (itv : Value) (Q : Value → Shared → Prop) (s1 : Shared) : Prop :=
  ∃ (it : Addr) (x : Str) (p : Pos) (n dd : Nat) (KP : Led → Led → Prop) (I : Nat → Led → Array GenState → Prop) (P : Nat → Value → Led → Prop) (J : Nat → Led → Array GenState → List Value → Prop) (C1 : Led) (G1 : Array GenState),
    itv = .ref it ∧ IterOk w dd (.Name x p) it n KP I P ∧ n ≤ 1000 ∧ A.depth + dd < recursionLimit ∧ St w g L m F C1 G1 O s1 ∧ C1 S' = some (.lst []) ∧ I 0 C1 G1 ∧ J 0 C1 G1 [] ∧
    (∀ C C' ys, C S' = some (.lst ys) → KP C C' → C' S' = some (.lst ys)) ∧
    (∀ i C G C' G' v ys, i < n → C S' = some (.lst ys) → I i C G → J i C G ys → KP C C' → GB G G' → I (i + 1) C' G' → P i v C' → I (i + 1) (upd C' S' (.lst (ys ++ [v]))) G' ∧ J (i + 1) (upd C' S' (.lst (ys ++ [v]))) G' (ys ++ [v])) ∧
    (∀ C G C' G' s ys, I n C G → J n C G ys → KP C C' → GB G G' → C' S' = some (.lst ys) → St w g L m F C' G' O s → Q (.ref S') s)

/-- list(v), v neither list nor tuple -/
theorem r_listOf {v : Value} {Q : Value → Shared → Prop} (hh : A.handled = none) (S : St w g L m F C G O s)
    (h : ∀ S' s' E', C S' = none → St w g L m F (upd C S' (.lst [])) G O s' →
      wpAny (model PR w) A.in1.in1 (typeOf v) (fun t s1 => t ≠ .type "list" ∧ t ≠ .type "tuple" ∧ v ≠ .ref S' ∧
        wpAny (model PR w) A.in1.in1 (pyIter v) (fun it s2 => wpAny (model PR w) A.in1.in1 (Builtin.List.listLengthHint v) (fun _ s3 => Fills w g L m F O A S' it Q s3) E' s2) E' s1) E' s') :
    wpAny (model PR w) A (call (.type "list") [v]) Q E s := by
  refine callType_codes (Q₁ := fun obj s₁ => obj = .ref s.heap.objs.size ∧ s₁ = { s with heap := s.heap.push { cls := .type "list", data := .seq #[] } }) PySem.F.called_list (PySem.F.typeCall_list_1 _) PySem.F.entry_list_init
    (code_list_new _ ⟨rfl, rfl⟩) fun obj s₁ h₁ => ?_
  obtain ⟨rfl, rfl⟩ := h₁
  have hS : (s.heap.push { cls := .type "list", data := .seq #[] }).get? s.heap.objs.size = some { cls := .type "list", data := .seq #[] } := Heap.get?_push_size _ rfl
  refine ⟨⟨_, hS, rfl⟩, PySem.F.args_list_init_2 _ _, ?_⟩
  show wpAny _ A.in1.in1 (do let old ← Builtin.List.listItems (.ref s.heap.objs.size); Builtin.List.listUpdate (.ref s.heap.objs.size) (fun _ => #[]); letGo old.toList.reverse; Builtin.List.listExtendWith (.ref s.heap.objs.size) v .none) _ _ _
  refine wpAny_bind ?_
  unfold Builtin.List.listItems
  refine wpAny_bind (wpAny_seqItems hS rfl (wpAny_pure ?_))
  show wpAny _ A.in1.in1 (updateSeq s.heap.objs.size (fun _ => #[]) >>= fun _ => letGo (#[] : Array Value).toList.reverse >>= fun _ => Builtin.List.listExtendWith (.ref s.heap.objs.size) v .none) _ _ _
  refine wpAny_bind (wpAny_updateSeq hS rfl ?_)
  have hS₂ := Heap.get?_update_self (Obj.mapSeq (fun _ => (#[] : Array Value))) hS rfl
  refine wpAny_bind (wpAny_letGo ?_)
  have S1 : St w g L m F (upd C s.heap.objs.size (.lst [])) G O { s with heap := (s.heap.push { cls := .type "list", data := .seq #[] }).update s.heap.objs.size (Obj.mapSeq (fun _ => (#[] : Array Value))) } :=
    S.new (Nat.le_refl _) (fun b o e => (Heap.get?_update_other _ _ (Nat.ne_of_gt (Heap.lt_size e))).trans (Heap.get?_push_of_some _ e)) ⟨_, hS₂, rfl, _, rfl⟩ S.gens S.os
  unfold Builtin.List.listExtendWith
  refine wpAny_bind (wpAny_mono (h _ _ _ S.free S1) (fun t s2 ⟨h1, h2, h3, h4⟩ => ?_) fun _ _ e => e)
  have e1 : (Builtin.List.listSameRef (.ref s.heap.objs.size) v || t == Value.type "list" || t == Value.type "tuple") = false := by
    have : Builtin.List.listSameRef (.ref s.heap.objs.size) v = false := by
      cases v <;> first | rfl | (simp only [Builtin.List.listSameRef, beq_eq_false_iff_ne]; rintro rfl; exact h3 rfl)
    simp [this, h1, h2]
  rw [if_neg (by rw [e1]; exact Bool.false_ne_true)]
  refine wpAny_bind (wpAny_mono h4 (fun itv s3 h5 => ?_) fun _ _ e => e)
  refine wpAny_bind (wpAny_holding (wpAny_mono h5 (fun room s4 h6 => ?_) fun _ _ e => e))
  obtain ⟨it, x, p, n, dd, KP, I, P, J, C1, G1, rfl, W, hn, hd, S4, hS4, I4, J4, hK, step, fin⟩ := h6
  have loop : ∀ s5, St w g L m F C1 G1 O s5 → codeAny (model PR w) A.in1 (.builtin "list.extend.loop" ⟨[.ref s.heap.objs.size, .ref it, .none], []⟩) (wants (fun r s₂ => r = .none ∧ Q (.ref s.heap.objs.size) s₂) E) s5 := fun s5 S5 =>
    ext_loop (A := A.in1) W J hn hh hd hK step (fun C G C' G' s ys i1 i2 i3 i4 i5 i6 => ⟨rfl, fin C G C' G' s ys i1 i2 i3 i4 i5 i6⟩) n 0 C1 G1 s5 [] rfl (Nat.zero_le _) rfl S5 I4 J4 hS4
  have touch : ∀ {K : Unit → Sem PySem.Fin} {Q' : PySem.Fin → Shared → Prop} {E' : Value → Shared → Prop}, (∀ s5, St w g L m F C1 G1 O s5 → wpAny (model PR w) A.in1.in1 (K ()) Q' E' s5) → wpAny (model PR w) A.in1.in1 (Builtin.List.listTouch (.ref s.heap.objs.size) >>= K) Q' E' s4 := by
    intro K Q' E' hK'
    obtain ⟨o, ho, hc, n', hdt⟩ := S4.isList hS4
    refine wpAny_bind ?_
    show wpAny _ _ (updateSeq s.heap.objs.size (·.push .none) >>= fun _ => updateSeq s.heap.objs.size (·.pop)) _ _ _
    refine wpAny_bind (wpAny_updateSeq ho hdt ?_)
    obtain ⟨n1, e1⟩ := Obj.data_mapSeq hdt (·.push Value.none)
    have ho1 := Heap.get?_update_self (Obj.mapSeq (·.push Value.none)) ho (Obj.isFreed_of_seq e1)
    refine wpAny_updateSeq (hz := by seq_fits) ho1 e1 ?_
    obtain ⟨n2, e2⟩ := Obj.data_mapSeq e1 (·.pop)
    have ho2 := Heap.get?_update_self (Obj.mapSeq (·.pop)) ho1 (Obj.isFreed_of_seq e2)
    have S5 := S4.put (c := .lst []) (s' := { s4 with heap := (s4.heap.update s.heap.objs.size (Obj.mapSeq (·.push Value.none))).update s.heap.objs.size (Obj.mapSeq (·.pop)) }) hS4 ((Heap.SameBut.update ..).trans (Heap.SameBut.update ..))
      ⟨_, ho2, by rw [Obj.cls_mapSeq, Obj.cls_mapSeq]; exact hc, n2, by rw [e2]; rfl⟩ S4.gens S4.os
    have eC : upd C1 s.heap.objs.size (.lst []) = C1 := by
      funext b
      by_cases hb : b = s.heap.objs.size
      · subst hb; rw [upd_same, hS4]
      · rw [upd_ne hb]
    rw [eC] at S5
    exact hK' _ S5
  have last : ∀ s5, St w g L m F C1 G1 O s5 → wpAny (model PR w) A.in1.in1 (again (.builtin "list.extend.loop" ⟨[.ref s.heap.objs.size, .ref it, .none], []⟩)) (fun fin s' => match fin with | .done f => wants (fun r s₂ => r = .none ∧ Q (.ref s.heap.objs.size) s₂) E (.ok f) s' | .again c' => c'.quiet = true ∧ codeAny (model PR w) A.in1 c' (wants (fun r s₂ => r = .none ∧ Q (.ref s.heap.objs.size) s₂) E) s')
        (fun e s' => wants (fun r s₂ => r = .none ∧ Q (.ref s.heap.objs.size) s₂) E (.error e) s') s5 := fun s5 S5 => wpAny_pure ⟨plainId_quiet PySem.F.plain_extend_loop _, loop s5 S5⟩
  split
  · exact wpAny_bind (wpAny_rule (touch fun s5 S5 => last s5 S5))
  · exact last s4 S4
end
end Mine
end
section -- D2
open PySem PySem.W PySem.Calls PyProof.Rows
namespace Mine
section
variable {w : World} {g : Heap} {L : Addr} {m : List (Str × Value)} {F : List (Addr × List (Str × Value))} {C : Led} {G : Array GenState} {O : OsState} {s : Shared} {A : Around} {E : Value → Shared → Prop}

theorem hint_items {v : Addr} {Q : Bool → Shared → Prop} (hT : s.TypeIs (.ref v) "dict_items") (h : Q false s) : wpAny (model PR w) A (Builtin.List.listLengthHint (.ref v)) Q E s := by
  unfold Builtin.List.listLengthHint
  refine wpAny_bind (wpAny_specialOf hT PySem.F.slot_dict_items_len.lookup ?_)
  generalize hid : ("dict_items.__len__" : String) = id0
  wp_delta
  rw [show splitId id0 = some ("dict_items", "__len__") from by subst hid; decide +kernel]
  subst hid
  refine wpAny_bind (wpAny_isInstance (T := "dict_items") (b := true) hT (by rw [isSubtype_type]; kernel_rfl) ?_)
  refine wpAny_ite_split (fun hab => absurd hab (by decide)) (fun _ => ?_)
  refine wpAny_ite_split (fun _ => ?_) (fun hab => absurd hab (by decide +kernel))
  exact wpAny_bind (wpAny_typeOf hT (wpAny_pure h))

theorem ints_snoc {vs : List Value} {ns : List Int} (h : IntsAre vs ns) (k : Int) (t : Tok) : IntsAre (vs ++ [.int k t]) (ns ++ [k]) := IntsAre.append h (.cons k t .nil)

/-- list(d), the keys -/
theorem r_listD {d : Addr} {tg : Tag} {kvs : List (Int × Value)} {ep : Nat} {Q : Value → Shared → Prop} (hh : A.handled = none) (hd0 : A.depth < recursionLimit) (S : St w g L m F C G O s) (hd : C d = some (.di tg kvs ep)) (hz : kvs.length ≤ 1000)
    (h : ∀ l s' C' G' vs, C l = none → St w g L m F C' G' O s' → GB G G' → Ext C C' → C' l = some (.lst vs) → IntsAre vs (kvs.map (·.1)) → Q (.ref l) s') :
    wpAny (model PR w) A (call (.type "list") [.ref d]) Q E s := by
  refine r_listOf hh S fun l s1 E' hl S1 => ?_
  have X1 := Ext.upd (c := .lst []) hl
  have hd1 := X1 _ _ hd
  refine wpAny_typeOf (S1.dictI hd1).typeIs ?_
  refine And.intro (fun q => absurd (Value.type.inj q) (by decide)) (And.intro (fun q => absurd (Value.type.inj q) (by decide)) (And.intro (fun q => by rw [Value.ref.inj q, hl] at hd; cases hd) ?_))
  refine r_iterD S1 hd1 fun it s2 hit S2 => ?_
  have X2 := Ext.upd (c := .kit d 0 kvs.length ep) hit
  have hd2 := X2 _ _ hd1
  refine kdl_hint_dict (S2.dictI hd2).typeIs ?_
  have hCit : C it = none := by
    cases q : C it with
    | none => rfl
    | some c => rw [X1 _ _ q] at hit; cases hit
  have nl : l ≠ it := by rintro rfl; rw [upd_same] at hit; cases hit
  have nd : l ≠ d := by rintro rfl; rw [hd] at hl; cases hl
  refine ⟨it, Str.ofString "x", ⟨0, 0, 0, 0⟩, kvs.length, 0, KeepsBut it, _, _, fun i C' G' ys => GB G G' ∧ (∀ b c, b ≠ it → b ≠ l → C b = some c → C' b = some c) ∧ IntsAre ys ((kvs.map (·.1)).take i), _, _, rfl, iter_keysI .nm, hz, (by omega), S2, X2 _ _ (upd_same ..), ⟨upd_same .., hd2⟩, ⟨.refl _, fun b c h1 h2 e => by rw [upd_ne h1, upd_ne h2]; exact e, .nil⟩, fun C1 C2 ys e k => k _ _ nl e, ?_, ?_⟩
  · intro i C3 G3 C4 G4 v ys hi hS hI ⟨j1, j2, j3⟩ hK hB hI' hP
    obtain ⟨k, u, t, hk, rfl⟩ := hP
    refine ⟨⟨by rw [upd_ne nl.symm]; exact hI'.1, by rw [upd_ne nd.symm]; exact hI'.2⟩, j1.trans hB, fun b c h1 h2 e => by rw [upd_ne h2]; exact hK _ _ h1 (j2 b c h1 h2 e), ?_⟩
    rw [List.take_add_one, List.getElem?_map, hk]
    exact ints_snoc j3 k t
  · intro C3 G3 C4 G4 s3 ys hI ⟨j1, j2, j3⟩ hK hB hS S3
    refine h l s3 C4 G4 ys hl S3 (j1.trans hB) (fun b c e => hK _ _ ?_ (j2 b c ?_ ?_ e)) hS ?_
    · rintro rfl; rw [hCit] at e; cases e
    · rintro rfl; rw [hCit] at e; cases e
    · rintro rfl; rw [hl] at e; cases e
    · rw [List.take_of_length_le (by simp)] at j3; exact j3
end
end Mine
end
section -- C9
open PySem PySem.W PySem.Calls PyProof.Rows
namespace Mine
def PS.rmN (σ : PS) (n : Int) : PS := { σ with nodes := σ.nodes.filter (· ≠ n), an := σ.an.filter (· ≠ n), nbrs := fun k => if k = n then [] else (σ.nbrs k).filter (· ≠ n) }
/-- the first i neighbours of n have let n go -/
def PS.cutTo (σ : PS) (n : Int) (i : Nat) : PS := { σ with nodes := σ.nodes.filter (· ≠ n), nbrs := fun k => if k ∈ (σ.nbrs n).take i then (σ.nbrs k).filter (· ≠ n) else σ.nbrs k }
theorem PS.cutTo_zero (σ : PS) (n : Int) : σ.cutTo n 0 = σ.delN n := by unfold PS.cutTo PS.delN; simp
theorem PS.cutTo_succ {σ : PS} {n u : Int} {i : Nat} (W : σ.WF) (hi : (σ.nbrs n)[i]? = some u) : { σ.cutTo n i with nbrs := fun k => if k = u then ((σ.cutTo n i).nbrs u).filter (· ≠ n) else (σ.cutTo n i).nbrs k } = σ.cutTo n (i + 1) := by
  have e : (fun k => if k = u then ((σ.cutTo n i).nbrs u).filter (· ≠ n) else (σ.cutTo n i).nbrs k) = (σ.cutTo n (i + 1)).nbrs := by
    funext k
    show (if k = u then (if u ∈ (σ.nbrs n).take i then (σ.nbrs u).filter (· ≠ n) else σ.nbrs u).filter (· ≠ n) else if k ∈ (σ.nbrs n).take i then (σ.nbrs k).filter (· ≠ n) else σ.nbrs k) = if k ∈ (σ.nbrs n).take (i + 1) then (σ.nbrs k).filter (· ≠ n) else σ.nbrs k
    rw [List.take_add_one, hi]
    by_cases h : k = u
    · subst h
      rw [if_pos (rfl : k = k), if_pos (show k ∈ (σ.nbrs n).take i ++ (some k).toList from List.mem_append_right _ (.head _))]
      split
      · rw [List.filter_filter]; congr 1; funext x; simp
      · rfl
    · rw [if_neg h]
      simp [h]
  show PS.mk _ _ _ _ _ = PS.mk _ _ _ _ _
  rw [e]; rfl
theorem PS.rmN_none {σ : PS} (W : σ.WF) {n : Int} (h : n ∉ σ.nodes) : σ.rmN n = σ := by
  have e1 : (σ.rmN n).nbrs = σ.nbrs := by
    funext k
    show (if k = n then [] else (σ.nbrs k).filter (· ≠ n)) = σ.nbrs k
    by_cases hk : k = n
    · subst hk
      rw [if_pos rfl]
      cases q : σ.nbrs k with
      | nil => rfl
      | cons v l => exact absurd (W.mem k v (by rw [q]; exact .head _)).1 h
    · rw [if_neg hk, List.filter_eq_self]
      intro x hx
      rw [decide_eq_true_eq]
      rintro rfl
      exact h (W.mem k x hx).2.1
  have e2 : σ.nodes.filter (· ≠ n) = σ.nodes := by
    rw [List.filter_eq_self]; intro x hx; rw [decide_eq_true_eq]; rintro rfl; exact h hx
  have e3 : σ.an.filter (· ≠ n) = σ.an := by rw [W.an]; exact e2
  show PS.mk (σ.nodes.filter (· ≠ n)) (σ.an.filter (· ≠ n)) (σ.rmN n).nbrs σ.da σ.wt = σ
  rw [e1, e2, e3]
theorem PS.WF.rmN {σ : PS} (W : σ.WF) (n : Int) : (σ.rmN n).WF := by
  refine ⟨by show σ.an.filter _ = σ.nodes.filter _; rw [W.an], W.nd.filter _, fun k hk => W.rng k (List.mem_filter.mp hk).1, fun k => ?_, fun k v hv => ?_⟩
  · show (if k = n then [] else (σ.nbrs k).filter (· ≠ n)).Nodup
    split
    · exact List.nodup_nil
    · exact (W.nn k).filter _
  · have hv' : v ∈ (if k = n then [] else (σ.nbrs k).filter (· ≠ n)) := hv
    by_cases hk : k = n
    · rw [if_pos hk] at hv'; cases hv'
    · rw [if_neg hk] at hv'
      obtain ⟨h1, h2⟩ := List.mem_filter.mp hv'
      obtain ⟨k1, k2, k3⟩ := W.mem k v h1
      have h2 : v ≠ n := by simpa using h2
      refine ⟨List.mem_filter.mpr ⟨k1, by simpa using hk⟩, List.mem_filter.mpr ⟨k2, by simpa using h2⟩, ?_⟩
      show k ∈ (if v = n then [] else (σ.nbrs v).filter (· ≠ n))
      rw [if_neg h2]
      exact List.mem_filter.mpr ⟨k3, by simpa using hk⟩
/-- all neighbours cut, then the row taken out -/
theorem PS.cut_del {σ : PS} (W : σ.WF) (n : Int) : (σ.cutTo n (σ.nbrs n).length).delA n = σ.rmN n := by
  have e : ((σ.cutTo n (σ.nbrs n).length).delA n).nbrs = (σ.rmN n).nbrs := by
    funext k
    show (if k = n then [] else if k ∈ (σ.nbrs n).take (σ.nbrs n).length then (σ.nbrs k).filter (· ≠ n) else σ.nbrs k) = if k = n then [] else (σ.nbrs k).filter (· ≠ n)
    rw [List.take_length]
    by_cases hk : k = n
    · rw [if_pos hk, if_pos hk]
    · rw [if_neg hk, if_neg hk]
      split
      · rfl
      · rename_i hm
        symm
        rw [List.filter_eq_self]
        intro x hx
        rw [decide_eq_true_eq]
        rintro rfl
        exact hm (W.mem k x hx).2.2
  show PS.mk _ _ ((σ.cutTo n (σ.nbrs n).length).delA n).nbrs _ _ = PS.mk _ _ (σ.rmN n).nbrs _ _
  rw [e]; rfl
def rmNs (σ : PS) (l : List Int) : PS := l.foldl PS.rmN σ
theorem rmNs_wf {σ : PS} (W : σ.WF) (l : List Int) : (rmNs σ l).WF := by
  induction l generalizing σ with
  | nil => exact W
  | cons e l ih => exact ih (W.rmN e)

example : hd.heap_39 = hd.heap_39 ∧ PySem.Challenge.rw_ez0179_01 = PySem.Challenge.rw_ez0179_01 := by k_fill; exact ⟨rfl, rfl⟩
theorem nb_list (w : World) : nsIn (hd.heap_39 w.params) mainGlobals "list" = some none := by kernel_rfl
theorem nb_KeyError (w : World) : nsIn (hd.heap_39 w.params) mainGlobals "KeyError" = some none := by kernel_rfl
theorem bi_list : bootBuiltins "list" = some (.type "list") := by kernel_rfl
theorem bi_KeyError : bootBuiltins "KeyError" = some (.type "KeyError") := by kernel_rfl
theorem sub_KeyError : isSubtype (.type "KeyError") (.type "KeyError") = pure true := by rw [isSubtype_type]; kernel_rfl

section
variable {p : Program} {loose : List Str} {mg mb : Str → Option Value}
  {w : World} {g : Heap} {L : Addr} {m : List (Str × Value)} {F : List (Addr × List (Str × Value))} {C : Led} {G : Array GenState} {O : OsState} {s : Shared} {A : Around} {E Q : Value → Shared → Prop}
  {a : GA} {dv ev : Option Value} {gk : List (Str × Value)} {σ : PS}

/-- del d[k], k not there -/
theorem r_delMiss {d : Addr} {tg : Tag} {Q : Unit → Shared → Prop} {kvs : List (Int × Value)} {ep : Nat} {k : Int} {t : Tok} (hh : A.handled = none) (S : St w g L m F C G O s) (hd : C d = some (.di tg kvs ep)) (hv : valueAt kvs k = none)
    (h : ∀ h' e, Heap.NewExc s.heap h' e "KeyError" → E (.ref e) { s with heap := h', toks := s.toks + 1 }) : wpAny (model PR w) A (delItem (.ref d) (.int k t)) Q E s := by
  have hD := S.dictI hd
  unfold delItem
  try with_reducible refine wpAny_holding ?_
  refine wpAny_bind (wpAny_sequenceKey hD.typeIs (by decide) ?_)
  exact wpAny_bind (wpAny_callSpecial?_slot (name := Str.ofString "__delitem__") hD.typeIs PySem.F.slot_dict_delitem
    (call_meetsIn PySem.F.slot_dict_delitem hD.typeIs PySem.F.entry_dict_delitem (PySem.F.args_dict_delitem_2 _ _) (meets_dict_delitem_missing (intKind PR w) d (intKind_is PR w k t) (S.notMods hd)) ⟨hh, kvs, hD, hv, h⟩))
theorem PS.cutTo_mem {σ : PS} {n k : Int} {i : Nat} (h : k ∉ (σ.nbrs n).take i) : (σ.cutTo n i).nbrs k = σ.nbrs k := if_neg h

theorem remove_nodes_spec {frs : List Env} (S : St w g L m F C G O s) (D : Wd (hd.heap_39 w.params) p loose mg mb g) (hroom : A.depth + 5 < recursionLimit) (hh : A.handled = none) (hfr : A.frames = some frs) (B : Frs frs L F)
    (H : Gr C a dv ev gk σ) (W : σ.WF) {l : Addr} {vs : List Value} {ns : List Int} (hl : C l = some (.lst vs)) (hv : IntsAre vs ns)
    (h : ∀ s' C' G', St w g L m F C' G' O s' → GB G G' → Gr C' a dv ev gk (rmNs σ ns) → KeepsP C C' → Q .none s') :
    wpAny (model PR w) A (call (.ref 447) [.ref a.x, .ref l]) Q E s := by
  refine wpAny_call ?_
  refine' r_enter (binds := [(Str.ofString "self", .ref a.x), (Str.ofString "nodes", .ref l)]) S D ?ho ?hcd ?room ?hb ?hl ?_ ?c1 ?c2 ?c3 ?c4
  case ho => k_is
  case hcd => k_is
  case room => omega
  case hb => exact .of_eq rfl
  case hl => exact locs rfl
  case c1 => rfl
  case c2 => rfl
  case c3 => rfl
  case c4 => decide
  intro L1 s1 S1
  refine wpAny_execs_cons (wpAny_Assign_Name (hs := rfl) ?_)
  refine r_nattr S1 D rfl H.x H.dx (ok_adj w) rfl rfl (fun s2 S2 => r_store S2 fun s3 S3 => ?_)
  refine wpAny_execs_cons (wpAny_For (hs := fun _ => rfl) (r_loc S3 rfl ?_))
  refine r_iterL S3 hl fun it s4 hit S4 => ?_
  have X4 := Ext.upd (c := .lit l 0) hit
  refine r_loop (iter_list .nm) (fun i m C' G' => GB G G' ∧ m.lookup (Str.ofString "adj") = some (.ref a.ad) ∧ m.lookup (Str.ofString "self") = some (.ref a.x) ∧ Gr C' a dv ev gk (rmNs σ (ns.take i)) ∧ KeepsP C C') hh (by show A.depth + 1 + 0 < _; omega)
    S4 ⟨upd_same .., X4 _ _ hl⟩ ⟨.refl _, rfl, rfl, by rw [List.take_zero]; exact H.ext X4, X4.keepsP⟩ ?_ ?_
  · intro i m5 C5 G5 C6 G6 v s6 E' hi hI ⟨hB, hm, hms, hJ, hK⟩ hKP hGB hI' hP S6
    have H6 := hJ.mono (hKP.g hI.1 (by rintro (⟨_, _, _, q⟩ | ⟨_, _, _, q⟩ | ⟨_, q⟩ | ⟨_, q⟩ | q) <;> cases q))
    have hK6 := hK.but hit hKP
    obtain ⟨n, tn, rfl, hn⟩ := hv.at i v hP
    have hnext : rmNs σ (ns.take (i + 1)) = (rmNs σ (ns.take i)).rmN n := by
      rw [List.take_add_one, hn]; unfold rmNs; rw [List.foldl_append]; rfl
    have Wτ := rmNs_wf W (ns.take i)
    rw [hnext]
    generalize rmNs σ (ns.take i) = τ at H6 Wτ
    clear hJ hnext
    refine r_asN S6 fun s7 S7 => ?_
    refine wpAny_execs_cons ?_
    have done : ∀ m' C' G' s', St w g L1 m' ((L, m) :: F) C' G' O s' → KeepsP C6 C' → GB G6 G' → m'.lookup (Str.ofString "adj") = some (.ref a.ad) → m'.lookup (Str.ofString "self") = some (.ref a.x) → Gr C' a dv ev gk (τ.rmN n) →
      ∃ m' C'' G'', St w g L1 m' ((L, m) :: F) C'' G'' O s' ∧ (C'' it = some (.lit l (i + 1)) ∧ C'' l = some (.lst vs)) ∧ GB G G'' ∧ m'.lookup (Str.ofString "adj") = some (.ref a.ad) ∧ m'.lookup (Str.ofString "self") = some (.ref a.x) ∧ Gr C'' a dv ev gk (τ.rmN n) ∧ KeepsP C C'' := fun m' C' G' s' S' K' B' h1 h2 H' =>
        ⟨m', C', G', S', ⟨K' _ _ hI'.1 trivial, K' _ _ hI'.2 trivial⟩, (hB.trans hGB).trans B', h1, h2, H', hK6.trans K'⟩
    have hmA : ((Str.ofString "n", Value.int n tn) :: m5).lookup (Str.ofString "adj") = some (.ref a.ad) := hm
    have hmS : ((Str.ofString "n", Value.int n tn) :: m5).lookup (Str.ofString "self") = some (.ref a.x) := hms
    obtain ⟨nk, en, hnd, hnk, _⟩ := H6.nd
    refine wpAny_Try_except ?_
    refine wpAny_execs_cons (wpAny_Delete (wpAny_deleteEach_cons (delete_Subscript (r_nattr S7 D hmS H6.x H6.dx (ok_node w) rfl rfl (fun s8 S8 => r_loc S8 rfl ?_)))))
    by_cases hin : n ∈ τ.nodes
    · have hnkl : nk.length ≤ 6 := by have := Wτ.len; rw [← hnk, List.length_map] at this; exact this
      refine r_delI S8 hnd (by omega) (by rw [valueAt_isSome, hnk]; exact decide_eq_true hin) fun e9 s9 S9 => wpAny_deleteEach_nil ?_
      have H9 := H6.delN (n := n) (e1 := e9) hnd
      have K9 : KeepsP C6 _ := KeepsP.upd (c' := .di .node (without nk n) e9) hnd (by intro q; cases q)
      generalize upd C6 a.nd (.di .node (without nk n) e9) = C9 at S9 H9 K9
      have hna : n ∈ τ.an := by rw [Wτ.an]; exact hin
      obtain ⟨ak, ea, had, hak, _⟩ := H9.ad
      obtain ⟨b, r, ep, hbin, hb, hr1, hr2⟩ := H9.rowOf had (show n ∈ (τ.delN n).an from hna)
      have hr1 : r.map (·.1) = τ.nbrs n := hr1
      have hrl : r.length ≤ 6 := by have := Wτ.lenN n; rw [← hr1, List.length_map] at this; exact this
      refine wpAny_execs_cons (wpAny_For (hs := fun _ => rfl) (r_tcall1 S9 D (nb_list w) bi_list (by decide) (Subscript_ (r_loc S9 hmA (r_loc S9 rfl (r_subI S9 had (valueAt_of_mem (S9.nodupI had) hbin) fun s10 S10 => ?_))))))
      refine r_listD hh (by show A.depth + 1 < _; omega) S10 hb (by omega) fun ll s11 C11 G11 us hll S11 B11 X11 hll2 hus => ?_
      rw [hr1] at hus
      refine r_iterL S11 hll2 fun it2 s12 hit2 S12 => ?_
      have X12 := X11.trans (Ext.upd (c := .lit ll 0) hit2)
      have hC9it : C9 it2 = none := by
        cases q : C9 it2 with
        | none => rfl
        | some c => rw [X11 _ _ q] at hit2; cases hit2
      refine r_loop (iter_list .nm) (fun j m' C' G' => GB G6 G' ∧ m'.lookup (Str.ofString "adj") = some (.ref a.ad) ∧ m'.lookup (Str.ofString "self") = some (.ref a.x) ∧ (∃ t, m'.lookup (Str.ofString "n") = some (.int n t)) ∧ Gr C' a dv ev gk (τ.cutTo n j) ∧ KeepsP C9 C') hh (by show A.depth + 1 + 0 < _; omega)
        S12 ⟨upd_same .., (Ext.upd hit2) _ _ hll2⟩ ⟨B11, hmA, hmS, ⟨_, rfl⟩, by rw [PS.cutTo_zero]; exact H9.ext X12, X12.keepsP⟩ ?_ ?_
      · intro j m13 C13 G13 C14 G14 v14 s14 E14 hj hI13 ⟨hB13, hm13, hms13, ⟨t13, hn13⟩, hJ13, hK13⟩ hKP14 hGB14 hI14 hP14 S14
        have H14 := hJ13.mono (hKP14.g hI13.1 (by rintro (⟨_, _, _, q⟩ | ⟨_, _, _, q⟩ | ⟨_, q⟩ | ⟨_, q⟩ | q) <;> cases q))
        have hK14 := hK13.but hC9it hKP14
        obtain ⟨u, tu, rfl, hu⟩ := hus.at j v14 hP14
        have hun : u ∈ τ.nbrs n := List.mem_of_getElem? hu
        have hua : u ∈ τ.an := by rw [Wτ.an]; exact (Wτ.mem n u hun).2.1
        have hnu : n ∈ τ.nbrs u := (Wτ.mem n u hun).2.2
        have hnt : u ∉ (τ.nbrs n).take j := by
          intro hm
          obtain ⟨j', he⟩ := List.getElem?_of_mem hm
          rw [List.getElem?_take] at he
          split at he
          · rename_i hlt
            have := (List.getElem?_inj (List.getElem?_eq_some_iff.mp he).1 (Wτ.nn n)).mp (he.trans hu.symm)
            omega
          · cases he
        obtain ⟨ak14, ea14, had14, hak14, _⟩ := H14.ad
        obtain ⟨b14, r14, ep14, hbin14, hb14, hr141, hr142⟩ := H14.rowOf had14 (show u ∈ (τ.cutTo n j).an from hua)
        have hr14' : r14.map (·.1) = τ.nbrs u := by rw [hr141, PS.cutTo_mem hnt]
        have hr14l : r14.length ≤ 6 := by have := Wτ.lenN u; rw [← hr14', List.length_map] at this; exact this
        refine r_asN S14 fun s15 S15 => ?_
        have hmA15 : ((Str.ofString "u", Value.int u tu) :: m13).lookup (Str.ofString "adj") = some (.ref a.ad) := hm13
        refine wpAny_execs_cons (wpAny_Delete (wpAny_deleteEach_cons (delete_Subscript (Subscript_ (r_loc S15 hmA15 (r_loc S15 rfl (r_subI S15 had14 (valueAt_of_mem (S15.nodupI had14) hbin14) fun s16 S16 => r_loc S16 (show ((Str.ofString "u", Value.int u tu) :: m13).lookup (Str.ofString "n") = some (.int n t13) from hn13) ?_)))))))
        refine r_delI S16 hb14 (by omega) (by rw [valueAt_isSome, hr14']; exact decide_eq_true hnu) fun e17 s17 S17 => wpAny_deleteEach_nil (wpAny_execs_nil ?_)
        have han : (τ.cutTo n j).an.Nodup := by show τ.an.Nodup; rw [Wτ.an]; exact Wτ.nd
        have H17 := H14.cut (e1 := e17) (v := n) han had14 hbin14 hb14 ⟨hr141, hr142⟩
        rw [PS.cutTo_succ Wτ hu] at H17
        have n1 : it2 ≠ b14 := ne_of_cells hI14.1 hb14 (by intro q; cases q)
        have n2 : ll ≠ b14 := ne_of_cells hI14.2 hb14 (by intro q; cases q)
        exact ⟨_, _, G14, S17, ⟨by rw [upd_ne n1]; exact hI14.1, by rw [upd_ne n2]; exact hI14.2⟩, hB13.trans hGB14, hm13, hms13, ⟨t13, hn13⟩, H17, hK14.trans (KeepsP.upd hb14 (by intro q; cases q))⟩
      · intro m13 C13 G13 C14 G14 s14 hI13 ⟨hB13, hm13, hms13, ⟨t13, hn13⟩, hJ13, hK13⟩ hKP14 hGB14 S14
        have H14 := hJ13.mono (hKP14.g hI13.1 (by rintro (⟨_, _, _, q⟩ | ⟨_, _, _, q⟩ | ⟨_, q⟩ | ⟨_, q⟩ | q) <;> cases q))
        have hK14 := hK13.but hC9it hKP14
        obtain ⟨ak14, ea14, had14, hak14, _⟩ := H14.ad
        have hak14 : ak14.map (·.1) = τ.an := hak14
        have hakl : ak14.length ≤ 6 := by have := Wτ.len; rw [← Wτ.an, ← hak14, List.length_map] at this; exact this
        refine wpAny_execs_cons (wpAny_Delete (wpAny_deleteEach_cons (delete_Subscript (r_loc S14 hm13 (r_loc S14 hn13 ?_)))))
        refine r_delI S14 had14 (by omega) (by rw [valueAt_isSome, hak14]; exact decide_eq_true hna) fun e15 s15 S15 => wpAny_deleteEach_nil (wpAny_execs_nil (wpAny_execs_nil (wpAny_execs_nil ?_)))
        have H15 := H14.delA (n := n) (e1 := e15) had14
        rw [hus.length, PS.cut_del Wτ] at H15
        exact done _ _ _ _ S15 (K9.trans (hK14.trans (KeepsP.upd had14 (by intro q; cases q)))) (hB13.trans hGB14) hm13 hms13 H15
    · refine r_delMiss hh S8 hnd (valueAt_none (by rw [hnk]; exact hin)) fun h9 e hx => ?_
      refine caught_here (T := "KeyError") (X := "KeyError") S8 D (B.push (env := envX _ _ L1 _ _ []) (by intro q; cases q) rfl) ?_ rfl hx kr_isExc_KeyError kr_notTuple_KeyError sub_KeyError (nb_KeyError w) bi_KeyError (by decide) (fun s10 S10 => ?_)
      · exact Around.frames_deeper hfr
      · refine wpAny_execs_cons (wpAny_Pass (wpAny_execs_nil (wpAny_execs_nil (done _ _ _ _ S10 (.refl _) (.refl _) hmA hmS ?_))))
        rw [PS.rmN_none Wτ hin]; exact H6
  · intro m5 C5 G5 C6 G6 s5 hI ⟨hB, hm, hms, hJ, hK⟩ hKP hGB S5
    refine wpAny_execs_nil (h _ _ _ (S.pop S5) (hB.trans hGB) ?_ (hK.but hit hKP))
    have := hJ.mono (hKP.g hI.1 (by rintro (⟨_, _, _, q⟩ | ⟨_, _, _, q⟩ | ⟨_, q⟩ | ⟨_, q⟩ | q) <;> cases q))
    rw [hv.length, List.take_length] at this
    exact this
end
end Mine
end
section -- E2
open PySem PySem.W PySem.Calls PyProof.Rows
namespace Mine
example : hd.heap_39 = hd.heap_39 ∧ PySem.Challenge.rw_ez0179_01 = PySem.Challenge.rw_ez0179_01 := by k_fill; exact ⟨rfl, rfl⟩
theorem nohash_list : typeLookup (.type "list") "__hash__" = pure (some .none) := by rw [typeLookup_type, builtinLookup_eq_fast]; kernel_rfl
theorem nb_TypeError (w : World) : nsIn (hd.heap_39 w.params) mainGlobals "TypeError" = some none := by kernel_rfl
theorem bi_TypeError : bootBuiltins "TypeError" = some (.type "TypeError") := by kernel_rfl

section
variable {p : Program} {loose : List Str} {mg mb : Str → Option Value}
  {w : World} {g : Heap} {L : Addr} {m : List (Str × Value)} {F : List (Addr × List (Str × Value))} {C : Led} {G : Array GenState} {O : OsState} {s : Shared} {A : Around} {E Q : Value → Shared → Prop}
  {a : GA} {dv ev : Option Value} {gk : List (Str × Value)} {σ : PS}

theorem hash_list {l : Addr} {Q : Int → Shared → Prop} (hT : s.TypeIs (.ref l) "list") (hu : A.units < cLine) (hh : A.handled = none)
    (h : ∀ h' tk e, Heap.NewExc s.heap h' e "TypeError" → E (.ref e) { s with heap := h', toks := tk }) : wpAny (model PR w) A (pyHash (.ref l)) Q E s := by
  show wpAny _ _ (pyHashByItsType (.ref l)) _ _ _
  unfold pyHashByItsType
  refine wpAny_bind (wpAny_cRoomFor hu (wpAny_bind (wpAny_specialOf hT nohash_list ?_)))
  rw [if_pos (by rfl)]
  refine wpAny_bind (wpAny_rule (wpAny_bind (wpAny_typeNameOf' hT (by decide) ?_)))
  exact wpAny_bind (wpAny_raiseErrorMade plainExc_TypeError hh h (by rw [show shownName "list" = "list" from by kernel_rfl]; rw [sizeLine_eq]; decide +kernel))

/-- [..] in d -/
theorem r_inList {d l : Addr} {tg : Tag} {kvs : List (Int × Value)} {ep : Nat} {vs : List Value} (S : St w g L m F C G O s) (hd : C d = some (.di tg kvs ep)) (hl : C l = some (.lst vs)) (hu : A.units + 8 < cLine) (hh : A.handled = none)
    (h : ∀ h' tk e, Heap.NewExc s.heap h' e "TypeError" → E (.ref e) { s with heap := h', toks := tk }) : wpAny (model PR w) A (compareOp .In (.ref l) (.ref d)) Q E s := by
  refine PyProof.Rows.In_slot (S.dictI hd).typeIs PySem.F.slot_dict_contains ?_
  refine wpAny_call_entry PySem.F.slot_dict_contains (S.dictI hd).typeIs PySem.F.entry_dict_contains ?_ (PySem.F.args_dict_contains_2 _ _)
  unfold Builtin.«dict.__contains__»
  refine wpAny_bind (wpAny_of_eq (a := (d, Value.ref l)) rfl ?_)
  dsimp only
  refine wpAny_bind ?_
  unfold dictGet
  try with_reducible refine wpAny_holding ?_
  exact wpAny_bind (hash_list (S.isList hl).typeIs (by show A.units + 1 < _; omega) hh h)

theorem has_node_spec (S : St w g L m F C G O s) (D : Wd (hd.heap_39 w.params) p loose mg mb g) (hroom : A.depth + 5 < recursionLimit) (H : Gr C a dv ev gk σ) {n : Int} {t : Tok}
    (h : ∀ s', St w g L m F C G O s' → Q (.bool (decide (n ∈ σ.nodes))) s') : wpAny (model PR w) A (call (.ref 478) [.ref a.x, .int n t]) Q E s := by
  refine wpAny_call ?_
  refine' r_enter (binds := [(Str.ofString "self", .ref a.x), (Str.ofString "n", .int n t)]) S D ?ho ?hcd ?room ?hb ?hl ?_ ?c1 ?c2 ?c3 ?c4
  case ho => k_is
  case hcd => k_is
  case room => omega
  case hb => exact .of_eq rfl
  case hl => exact locs rfl
  case c1 => rfl
  case c2 => rfl
  case c3 => rfl
  case c4 => decide
  intro L1 s1 S1
  obtain ⟨nk, en, hnd, hnk, _⟩ := H.nd
  refine wpAny_execs_cons (wpAny_Try_except (wpAny_execs_cons (wpAny_Return_some (wpAny_Compare1 (r_loc S1 rfl ?_)))))
  refine r_nattr S1 D rfl H.x H.dx (ok_node w) rfl rfl (fun s2 S2 => r_inI S2 hnd fun s3 S3 => ?_)
  rw [valueAt_isSome, hnk]
  exact h _ (S.pop S3)

theorem has_node_list {frs : List Env} {l : Addr} {vs : List Value} (S : St w g L m F C G O s) (D : Wd (hd.heap_39 w.params) p loose mg mb g) (hroom : A.depth + 5 < recursionLimit) (hu : A.units + 16 < cLine) (hh : A.handled = none) (hfr : A.frames = some frs) (B : Frs frs L F) (H : Gr C a dv ev gk σ) (hl : C l = some (.lst vs))
    (h : ∀ s', St w g L m F C G O s' → Q (.bool false) s') : wpAny (model PR w) A (call (.ref 478) [.ref a.x, .ref l]) Q E s := by
  refine wpAny_call ?_
  refine' r_enter (binds := [(Str.ofString "self", .ref a.x), (Str.ofString "n", .ref l)]) S D ?ho ?hcd ?room ?hb ?hl ?_ ?c1 ?c2 ?c3 ?c4
  case ho => k_is
  case hcd => k_is
  case room => omega
  case hb => exact .of_eq rfl
  case hl => exact locs rfl
  case c1 => rfl
  case c2 => rfl
  case c3 => rfl
  case c4 => decide
  intro L1 s1 S1
  obtain ⟨nk, en, hnd, hnk, _⟩ := H.nd
  refine wpAny_execs_cons (wpAny_Try_except (wpAny_execs_cons (wpAny_Return_some (wpAny_Compare1 (r_loc S1 rfl ?_)))))
  refine r_nattr S1 D rfl H.x H.dx (ok_node w) rfl rfl (fun s2 S2 => r_inList S2 hnd hl (by show A.units + 3 + 8 < _; omega) hh fun h3 tk3 e hx => ?_)
  refine caught_here (T := "TypeError") (X := "TypeError") S2 D (B.push (env := envX _ _ L1 _ _ []) (by intro q; cases q) rfl) (Around.frames_deeper hfr) rfl hx PySem.F.isExc_TypeError PySem.F.notTuple_TypeError PySem.F.self_TypeError (nb_TypeError w) bi_TypeError (by decide) (fun s10 S10 => ?_)
  exact wpAny_execs_cons (wpAny_Return_some (wpAny_Constant_bool (h _ (S.pop S10))))
end
end Mine
end
section -- X3
open PySem PySem.W PySem.Calls PyProof.Rows
namespace Mine
section
variable {p : Program} {loose : List Str} {mg mb : Str → Option Value}
  {w : World} {g : Heap} {L : Addr} {m : List (Str × Value)} {F : List (Addr × List (Str × Value))} {C : Led} {G : Array GenState} {O : OsState} {s : Shared} {A : Around} {E : Value → Shared → Prop} {env : Env} {outer : List Env} {a : GA}
  {dv ev : Option Value} {gk : List (Str × Value)} {σ : PS}

/-- an exception passed on behind a suite that bound a name -/
theorem r_passOn {C₀ : Led} {e : Addr} {cls ctx fl : Value} {what : String} {L' : Addr} {Q : Flow → Shared → Prop} (S : St w g L m F C G O s) (X : ExC C₀ C e cls ctx (some fl)) (hf : env.frame = some L')
    (h : ∀ C' s', St w g L m F C' G O s' → ExC C₀ C' e cls ctx (some (rawInt L')) → E (.ref e) s') : wpAny (model PR w) A (PySem.passOn what (.ref e) env : Sem Flow) Q E s := by
  obtain ⟨oe, vs, h1, h2, h3, h4, h5, T, oT, ts, h6, _⟩ := X.there
  unfold PySem.passOn
  refine wpAny_bind (r_field S h1 h3 h6 ?_)
  rw [if_neg (show ¬ ((Value.ref T == Value.none) = true) from by simp), hf]
  first
    | exact wpAny_bind (wpAny_pure (wpAny_bind (r_flight S X fun C' s' S' X' => wpAny_throw (h C' s' S' X'))))
    | exact wpAny_bind (r_flight S X fun C' s' S' X' => wpAny_throw (h C' s' S' X'))
theorem r_cameBack {C₀ : Led} {e : Addr} {cls ctx fl : Value} {L' : Addr} (S : St w g L m F C G O s) (X : ExC C₀ C e cls ctx (some fl)) (hf : env.frame = some L')
    (h : ∀ C' s', St w g L m F C' G O s' → ExC C₀ C' e cls ctx (some (rawInt L')) → E (.ref e) s') : cameBackBy (model PR w) A env E (.ref e) s := by
  obtain ⟨oe, vs, h1, h2, h3, h4, h5, T, oT, ts, h6, _⟩ := X.there
  unfold cameBackBy
  refine wpAny_bind (r_field S h1 h3 h6 ?_)
  rw [if_neg (show ¬ ((Value.ref T == Value.none) = true) from by simp), hf]
  first
    | exact wpAny_bind (wpAny_pure (r_flight S X fun C' s' S' X' => h C' s' S' X'))
    | exact r_flight S X fun C' s' S' X' => h C' s' S' X'

/-- KeyError, caught, another raised from it -/
theorem r_keyHandled {e0 L' : Addr} {h' : Heap} {tk : Nat} {u v : Int} {t1 t2 : Tok} {np hp q1 q2 q3 q4 q5 q6 q7 q8 q9 q10 q11 q12 : Pos} {k1 k2 k3 : Nat} {Q : Flow → Shared → Prop}
    (S : St w g L m F C G O s) (D : Wd (hd.heap_39 w.params) p loose mg mb g) (hfr : A.frames = some (env :: outer)) (B : Frs (env :: outer) L F) (hf : env.frame = some L') (hx : Heap.NewExc s.heap h' e0 "KeyError")
    (hu : m.lookup (Str.ofString "u") = some (.int u t1)) (hv : m.lookup (Str.ofString "v") = some (.int v t2)) (ru : 0 ≤ u ∧ u < 6) (rv : 0 ≤ v ∧ v < 6)
    (hk : env.scope.kind = .function) (hL : env.locals = L) (kx : env.kindOf "u" = some .local) (ky : env.kindOf "v" = some .local) (ke : env.kindOf "err" = some .local) (kk : env.kindOf "KeyError" = some .globalImplicit) (kn : env.kindOf "NetworkXError" = some .globalImplicit) (hg : env.globals = mainGlobals) (hb : env.builtins = builtinsNs)
    (he : starEach [.JoinedStr [.Constant (.str "The edge ") k1 q1, .FormattedValue (.Name "u" q2) (-1) none q3, .Constant (.str "-") k2 q4, .FormattedValue (.Name "v" q5) (-1) none q6, .Constant (.str " is not in the graph") k3 q7] q8] env = (false, eval (.JoinedStr [.Constant (.str "The edge ") k1 q1, .FormattedValue (.Name "u" q2) (-1) none q3, .Constant (.str "-") k2 q4, .FormattedValue (.Name "v" q5) (-1) none q6, .Constant (.str " is not in the graph") k3 q7] q8) env) :: starEach [] env)
    (hc : eval (.Call (.Name "NetworkXError" q9) [.JoinedStr [.Constant (.str "The edge ") k1 q1, .FormattedValue (.Name "u" q2) (-1) none q3, .Constant (.str "-") k2 q4, .FormattedValue (.Name "v" q5) (-1) none q6, .Constant (.str " is not in the graph") k3 q7] q8] [] q10) env = (do callWith q10 (← eval (.Name "NetworkXError" q9) env) [] (backTo q10 (starEach [.JoinedStr [.Constant (.str "The edge ") k1 q1, .FormattedValue (.Name "u" q2) (-1) none q3, .Constant (.str "-") k2 q4, .FormattedValue (.Name "v" q5) (-1) none q6, .Constant (.str " is not in the graph") k3 q7] q8] env)) (backToKw q10 (keywordEach [] env))))
    (h : ∀ e1 C' s', St w g L [] F C' G O s' → ExC C C' e1 (.ref 277) (.ref e0) (some (rawInt L')) → E (.ref e1) s') :
    wpAny (model PR w) A (noteFrame (.ref e0) env) (fun _ s₂ => wpAny (model PR w) A (setFlight (.ref e0) none) (fun _ s₃ =>
      wpAny (model PR w) A (handleBy (.ref e0) env [.ExceptHandler (some (.Name "KeyError" np)) (some "err") [.Raise (some (.Call (.Name "NetworkXError" q9) [.JoinedStr [.Constant (.str "The edge ") k1 q1, .FormattedValue (.Name "u" q2) (-1) none q3, .Constant (.str "-") k2 q4, .FormattedValue (.Name "v" q5) (-1) none q6, .Constant (.str " is not in the graph") k3 q7] q8] [] q10)) (some (.Name "err" q11)) q12] hp]) Q E s₃) E s₂) E { s with heap := h', toks := tk } := by
  obtain ⟨C1, S1, X1⟩ := newExc_st (tk := tk) S hx
  refine r_note S1 hfr B hf X1 (.inl rfl) fun C2 s2 S2 X2 => ?_
  refine r_flight S2 X2 fun C3 s3 S3 X3 => ?_
  obtain ⟨o3, ho3, hc3⟩ := X3.typeOf S3
  refine wpAny_handleBy_builtin_as (X := "KeyError") (T := "KeyError") (b := true) kr_isExc_KeyError kr_notTuple_KeyError sub_KeyError (r_bi S3 D (nb_KeyError w) bi_KeyError (by decide) ⟨rfl, ⟨o3, ho3, hc3⟩, ?_⟩ hk kk (by decide) hg hb)
  rw [if_pos rfl]
  refine r_flight S3 X3 fun C4 s4 S4 X4 => ?_
  refine r_store S4 (fun s5 S5 => ?_) hk ke hL
  refine wpAny_execs_cons (r_raiseFrom S5 D X4 rfl rfl hk hL ke kn hg (fun Q' hQ' => r_edgeMsg S5 hu hv ru rv hk hL kx ky hQ') he hc fun e1 C6 s6 S6 X6 => ?_)
  have X6 : ExC C C6 e1 (.ref 277) (.ref e0) none := by
    obtain ⟨oe, vs, g1, g2, g3, g4, g5, g6⟩ := X6.there
    refine ⟨X4.ext.trans X6.ext, ?_, oe, vs, g1, g2, g3, g4, g5, g6⟩
    cases q : C e1 with
    | none => rfl
    | some c => have := X4.ext _ _ q; rw [X6.new] at this; cases this
  refine r_note (A := A.mark (some (.ref e0))) S6 hfr B hf X6 (.inl rfl) fun C7 s7 S7 X7 => ?_
  obtain ⟨m₀, hn₀, _⟩ := S7.ns
  have hn₀' : s7.heap.Ns env.locals m₀ := by rw [hL]; exact hn₀
  refine wpAny_nameGoes ke hn₀' (by rw [hk]; rfl) fun h8 m8 hn8 hs8 => ?_
  rw [hL] at hn8 hs8
  have S8 : St w g L [] F C7 G O { s7 with heap := h8, toks := s7.toks + 1 } := S7.own ⟨m8, hn8, fun _ _ e => by cases e⟩ hs8 S7.gens S7.os
  refine r_passOn S8 X7 hf fun C9 s9 S9 X9 => ?_
  refine r_noteSame S9 hf X9 ?_
  exact r_cameBack S9 X9 hf fun C10 s10 S10 X10 => h e1 C10 s10 S10 X10
end
end Mine
end
section -- X4
open PySem PySem.W PySem.Calls PyProof.Rows
namespace Mine
example : hd.heap_39 = hd.heap_39 ∧ PySem.Challenge.rw_ez0179_01 = PySem.Challenge.rw_ez0179_01 := by k_fill; exact ⟨rfl, rfl⟩
theorem m_rme (w : World) : findIn (hd.heap_39 w.params) (.ref 617) "remove_edge" = some (some (.ref 499)) := by kernel_rfl
theorem fn_499 (w : World) : isFn (hd.heap_39 w.params) (.ref 499) = true := by kernel_rfl
theorem kp_499 (w : World) : keepIn (hd.heap_39 w.params) (.ref 499) = true := by kernel_rfl
section
variable {p : Program} {loose : List Str} {mg mb : Str → Option Value}
  {w : World} {g : Heap} {L : Addr} {m : List (Str × Value)} {F : List (Addr × List (Str × Value))} {C : Led} {G : Array GenState} {O : OsState} {s : Shared} {A : Around} {E Q : Value → Shared → Prop} {a : GA}
  {dv ev : Option Value} {gk : List (Str × Value)} {σ : PS} {frs : List Env}

theorem r_leaveSame {C₀ : Led} {e : Addr} {cls ctx : Value} {env : Env} {L' : Addr} {Q : Unit → Shared → Prop} (S : St w g L m F C G O s) (X : ExC C₀ C e cls ctx (some (rawInt L'))) (hf : env.frame = some L')
    (h : ∀ C' s', St w g L m F C' G O s' → ExC C₀ C' e cls ctx (some .none) → Q () s') : wpAny (model PR w) A (leaving env (.ref e)) Q E s := by
  unfold leaving
  exact wpAny_bind (r_noteSame S hf X (r_flight S X fun C' s' S' X' => h C' s' S' X'))

theorem r_subMiss {d : Addr} {tg : Tag} {value slice : PySem.Expr} {kvs : List (Int × Value)} {ep : Nat} {k : Int} {t : Tok} {Q : Value → Shared → Prop} (hh : A.handled = none) (S : St w g L m F C G O s) (hd : C d = some (.di tg kvs ep)) (hv : valueAt kvs k = none)
    (h : ∀ h' e, Heap.NewExc s.heap h' e "KeyError" → E (.ref e) { s with heap := h', toks := s.toks + 1 })
    (hs : subscripted slice false (.ref d) (.int k t) = operate [.ref d, .int k t] (getItem (.ref d) (.int k t)) := by with_unfolding_all rfl) : wpAny (model PR w) A (subscriptTail value slice (.ref d) (.int k t)) Q E s :=
  tail_any (S.dictI hd).typeIs slot_dict_getitem.lookup (wpAny_getItem_missing_of (intKind_is PR w k t) (S.notMods hd) hh (S.dictI hd).mapOf hv h) hs

/-- graph.remove_edge(u, v) -/
theorem remove_edge_spec (S : St w g L m F C G O s) (D : Wd (hd.heap_39 w.params) p loose mg mb g) (hroom : A.depth + 5 < recursionLimit) (hh : A.handled = none) (hfr : A.frames = some frs) (B : Frs frs L F)
    (H : Gr C a dv ev gk σ) (W : σ.WF) {u v : Int} {t1 t2 : Tok} (ru : 0 ≤ u ∧ u < 6) (rv : 0 ≤ v ∧ v < 6)
    (hin : v ∈ σ.nbrs u → ∀ s' C', St w g L m F C' G O s' → Gr C' a dv ev gk (σ.rmE u v) → KeepsP C C' → Q .none s')
    (hout : v ∉ σ.nbrs u → ∀ e ctx s' C', St w g L m F C' G O s' → ExC C C' e (.ref 277) ctx (some .none) → E (.ref e) s') :
    wpAny (model PR w) A (call (.ref 499) [.ref a.x, .int u t1, .int v t2]) Q E s := by
  refine wpAny_call ?_
  refine' r_enter (binds := [(Str.ofString "self", .ref a.x), (Str.ofString "u", .int u t1), (Str.ofString "v", .int v t2)]) S D ?ho ?hcd ?room ?hb ?hl ?_ ?c1 ?c2 ?c3 ?c4
  case ho => k_is
  case hcd => k_is
  case room => omega
  case hb => exact .of_eq rfl
  case hl => exact locs rfl
  case c1 => rfl
  case c2 => rfl
  case c3 => rfl
  case c4 => decide
  intro L1 s1 S1
  obtain ⟨ak, ea, had, hak, _⟩ := id H.ad
  have han : σ.an.Nodup := by rw [W.an]; exact W.nd
  refine wpAny_execs_cons (wpAny_Try_except ?_)
  refine wpAny_execs_cons (wpAny_Delete (wpAny_deleteEach_cons (delete_Subscript (Subscript_ (r_nattr S1 D rfl H.x H.dx (ok_adj w) rfl rfl (fun s2 S2 => r_loc S2 rfl ?_))))))
  by_cases hu : u ∈ σ.an
  · obtain ⟨b, r, ep, hbin, hb, hr1, hr2⟩ := H.rowOf had hu
    refine r_subI S2 had (valueAt_of_mem (S2.nodupI had) hbin) fun s3 S3 => r_loc S3 rfl ?_
    by_cases hvu : v ∈ σ.nbrs u
    · have hlr : r.length ≤ 6 := by have := W.lenN u; rw [← hr1, List.length_map] at this; exact this
      refine r_delI S3 hb (by omega) (by rw [valueAt_isSome, hr1]; exact decide_eq_true hvu) fun e4 s4 S4 => wpAny_deleteEach_nil ?_
      have H4 := H.cut (e1 := e4) (v := v) han had hbin hb ⟨hr1, hr2⟩
      have K4 : KeepsP C _ := KeepsP.upd (c' := .di (.row u) (without r v) e4) hb (by intro q; cases q)
      have n4 : a.ad ≠ b := ne_of_cells had hb (by intro q; cases q)
      have had4 := (upd_ne (c := .di (.row u) (without r v) e4) n4).trans had
      refine wpAny_execs_cons (wpAny_If (wpAny_isTrue_Compare1 (r_loc S4 rfl (r_loc S4 rfl (PyProof.Rows.ne_int (wpAny_truthy_bool ?_))))))
      by_cases huv : u = v
      · subst huv
        rw [show (u != u) = false from bne_self_eq_false u]
        refine wpAny_execs_nil (wpAny_execs_nil (wpAny_execs_nil (wpAny_execs_nil ?_)))
        refine hin hvu _ _ (S.pop S4) ?_ K4
        rw [← PS.rmE_self]; exact H4
      · rw [show (u != v) = true from by simp [huv]]
        show wpAny _ _ (execs _ _) _ _ _
        have hva : v ∈ σ.an := by rw [W.an]; exact (W.mem u v hvu).2.1
        obtain ⟨b2, r2, ep2, hin2, hb2, hr21, hr22⟩ := H4.rowOf had4 hva
        have hu2 : u ∈ σ.nbrs v := (W.mem u v hvu).2.2
        have hr21' : r2.map (·.1) = σ.nbrs v := by rw [hr21]; exact if_neg (Ne.symm huv)
        have hlr2 : r2.length ≤ 6 := by have := W.lenN v; rw [← hr21', List.length_map] at this; exact this
        obtain ⟨hx4, hdx4⟩ : _ ∧ _ := ⟨H4.x, H4.dx⟩
        refine wpAny_execs_cons (wpAny_Delete (wpAny_deleteEach_cons (delete_Subscript (Subscript_ (r_nattr S4 D rfl hx4 hdx4 (ok_adj w) rfl rfl (fun s5 S5 => r_loc S5 rfl (r_subI S5 had4 (valueAt_of_mem (S5.nodupI had4) hin2) fun s6 S6 => r_loc S6 rfl ?_)))))))
        refine r_delI S6 hb2 (by omega) (by rw [valueAt_isSome, hr21']; exact decide_eq_true hu2) fun e7 s7 S7 => wpAny_deleteEach_nil ?_
        have H7 := H4.cut (e1 := e7) (v := u) han had4 hin2 hb2 ⟨hr21, hr22⟩
        refine wpAny_execs_nil (wpAny_execs_nil (wpAny_execs_nil (wpAny_execs_nil ?_)))
        refine hin hvu _ _ (S.pop S7) ?_ (K4.trans (KeepsP.upd hb2 (by intro q; cases q)))
        rw [← PS.rmE_two huv]
        have e : (fun k => if k = v then (if v = u then (σ.nbrs u).filter (· ≠ v) else σ.nbrs v).filter (· ≠ u) else if k = u then (σ.nbrs u).filter (· ≠ v) else σ.nbrs k) = fun k => if k = v then (σ.nbrs v).filter (· ≠ u) else if k = u then (σ.nbrs u).filter (· ≠ v) else σ.nbrs k := by
          rw [if_neg (Ne.symm huv)]
        rw [← e]; exact H7
    · refine r_delMiss hh S3 hb (valueAt_none (by rw [hr1]; exact hvu)) fun h' e hx => ?_
      exact r_keyHandled S3 D (Around.frames_deeper hfr) (B.push (by intro q; cases q) rfl) rfl hx rfl rfl ru rv rfl rfl rfl rfl rfl rfl rfl rfl rfl rfl rfl fun e1 C4 s4 S4 X4 =>
        r_leaveSame S4 X4 rfl fun C5 s5 S5 X5 => hout hvu e1 _ s5 C5 (S.pop S5) X5
  · have hvu : v ∉ σ.nbrs u := fun hv => hu (by rw [W.an]; exact (W.mem u v hv).1)
    refine r_subMiss hh S2 had (valueAt_none (by rw [hak]; exact hu)) fun h' e hx => ?_
    exact r_keyHandled S2 D (Around.frames_deeper hfr) (B.push (by intro q; cases q) rfl) rfl hx rfl rfl ru rv rfl rfl rfl rfl rfl rfl rfl rfl rfl rfl rfl fun e1 C4 s4 S4 X4 =>
      r_leaveSame S4 X4 rfl fun C5 s5 S5 X5 => hout hvu e1 _ s5 C5 (S.pop S5) X5
end
end Mine
end
section -- X5
open PySem PySem.W PySem.Calls PyProof.Rows
namespace Mine
example : hd.heap_39 = hd.heap_39 ∧ PySem.Challenge.rw_ez0179_01 = PySem.Challenge.rw_ez0179_01 := by k_fill; exact ⟨rfl, rfl⟩
theorem exm_277 (w : World) : exmOne (hd.heap_39 w.params) (.ref 277) (.ref 277) = some true := by kernel_rfl
section
variable {p : Program} {loose : List Str} {mg mb : Str → Option Value}
  {w : World} {g : Heap} {L : Addr} {m : List (Str × Value)} {F : List (Addr × List (Str × Value))} {C : Led} {G : Array GenState} {O : OsState} {s : Shared} {A : Around} {E Q : Value → Shared → Prop} {a : GA}
  {dv ev : Option Value} {gk : List (Str × Value)} {σ : PS} {frs : List Env}
/-- _law_taken(graph, u, v) -/
theorem taken_spec (S : St w g L m F C G O s) (D : Wd (hd.heap_39 w.params) p loose mg mb g) (hroom : A.depth + 8 < recursionLimit) (hh : A.handled = none) (hfr : A.frames = some frs) (B : Frs frs L F)
    (H : Gr C a dv ev gk σ) (W : σ.WF) {u v : Int} {t1 t2 : Tok} (ru : 0 ≤ u ∧ u < 6) (rv : 0 ≤ v ∧ v < 6)
    (h : ∀ s' C', St w g L m F C' G O s' → Gr C' a dv ev gk (σ.rmE u v) → KeepsP C C' → Q (.bool (decide (v ∈ σ.nbrs u))) s') :
    wpAny (model PR w) A (call (.ref 656) [.ref a.x, .int u t1, .int v t2]) Q E s := by
  refine wpAny_call ?_
  refine' r_enter (binds := [(Str.ofString "graph", .ref a.x), (Str.ofString "one", .int u t1), (Str.ofString "other", .int v t2)]) S D ?ho ?hcd ?room ?hb ?hl ?_ ?c1 ?c2 ?c3 ?c4
  case ho => k_is
  case hcd => k_is
  case room => omega
  case hb => exact .of_eq rfl
  case hl => exact locs rfl
  case c1 => rfl
  case c2 => rfl
  case c3 => rfl
  case c4 => decide
  intro L1 s1 S1
  refine wpAny_execs_cons (wpAny_Try_except ?_)
  refine wpAny_execs_cons (wpAny_Expr (hi := rfl) (hs := rfl) (MethodCall_ (he := rfl) (r_loc S1 rfl ?_)))
  refine r_meth S1 D H.x H.dx (pl_617 w _) (m_rme w) (fn_499 w) rfl ?_
  refine callWith_K (D.X) (kp_499 w) ?_ rfl
  refine wpAny_items_cons (he := rfl) (r_loc S1 rfl (wpAny_items_cons (he := rfl) (r_loc S1 rfl (wpAny_items_nil ⟨D.X.keeps S1.keep, ?_⟩))))
  refine remove_edge_spec (A := A.deeper _) S1 D (by show A.depth + 1 + 5 < _; omega) hh (Around.frames_deeper hfr) (B.push (by intro q; cases q) rfl) H W ru rv ?_ ?_
  · intro hvu s2 C2 S2 H2 K2
    refine wpAny_execs_cons (wpAny_Return_some (wpAny_Constant_bool ?_))
    have := h s2 C2 (S.pop S2) H2 K2
    rw [decide_eq_true hvu] at this
    exact this
  · intro hvu e ctx s2 C2 S2 X2
    refine r_note S2 (Around.frames_deeper hfr) (B.push (by intro q; cases q) rfl) rfl X2 (.inr rfl) fun C3 s3 S3 X3 => ?_
    refine r_flight S3 X3 fun C4 s4 S4 X4 => ?_
    refine wpAny_handleBy_cons (codeAny_handlers_test (r_glob S4 D (g_NXE w) ?_)) (by intro q; cases q)
    obtain ⟨ob, hob, hobc⟩ := X4.typeOf S4
    have LT : Looks (model PR w) s4.heap (typeOf (.ref e)) (.ref 277) := by rw [← hobc]; exact (Looks.ld hob).andThen .now
    refine (exm_one (D.X.keeps S4.keep) LT (exm_277 w)).here ?_
    refine codeAny_handlers_suite ?_
    refine r_flight S4 X4 fun C5 s5 S5 X5 => ?_
    refine wpAny_execs_cons (wpAny_Return_some (wpAny_Constant_bool ?_))
    have := h s5 C5 (S.pop S5) (by rw [PS.rmE_none W hvu]; exact H.ext X5.ext) X5.ext.keepsP
    rw [decide_eq_false hvu] at this
    exact this
end
end Mine
end
section -- S3
open PySem PySem.W PySem.Calls PyProof.Rows
namespace Mine
section
variable {K : Frag} {p : Program} {loose : List Str} {mg mb : Str → Option Value}
  {w : World} {g : Heap} {L : Addr} {m : List (Str × Value)} {F : List (Addr × List (Str × Value))} {C : Led} {G : Array GenState} {O : OsState} {s : Shared} {A : Around}
/-- a generator's function called: its frame asleep, its record -/
theorem r_genfn {R : Result → Shared → Prop} {name qual : Str} {params : Arguments} {body : List Stmt} {scope : Scope} {dV kV doc pm cdv ct oc : Value} {an od : Option Addr} {osl : Array (Option Value)} {f : Addr} {args : Args} {binds : List (Str × Value)}
    (S : St w g L m F C G O s) (D : Wd K p loose mg mb g)
    (ho : K.lookup f = some ⟨oc, od, .func (fnOf name qual params body scope dV kV doc pm an cdv ct), osl⟩) (hcd : codeIn K cdv qual = true) (hroom : A.depth < recursionLimit)
    (hbind : BindsTo s (fnOf name qual params body scope dV kV doc pm an cdv ct) args binds) (hloc : ∀ y ∈ binds, scope.names.lookup y.1 = some .local)
    (h : ∀ L' it s', C L' = none → C it = none → L' ≠ it → g.objs.size ≤ L' → St w g L m F (upd (upd C L' (.ns binds.reverse)) it (.gen G.size)) (G.push (.fresh (.func body (envX qual scope L' f cdv [])))) O s' → R (.ok (.ret (.ref it))) s')
    (hco : scope.isCoroutine = false := by rfl) (hgen : scope.isGenerator = true := by rfl) (hk : scope.kind = .function := by rfl)
    (hcell : ∀ x ∈ scope.names, x.2 ≠ .cell := by decide) : codeAny (model PR w) A (.call (.ref f) args) R s := by
  obtain rfl := S.gens
  have X := D.X.keeps S.keep
  refine codeAny_call_generator (fd := fnOf name qual params body scope dV kV doc pm an cdv ct) (body := body) hroom (X _ _ ho) rfl hco hgen rfl (codeRec_of X hcd) (hbind _ _ _ _ ?_)
  refine wpAny_newFunctionEnv hcell hloc (fun h₁ hns hsb => ⟨(D.T.nolimit.keeps S.keep).fresh _ hsb, ?_⟩) hk
  have hk₁ : ∀ b o, s.heap.get? b = some o → h₁.get? b = some o := fun b o e => hsb.extBut b o (Nat.ne_of_lt (Heap.lt_size e)) (Heap.get?_push_of_some _ e)
  have S1 := S.into (s' := { s with heap := h₁, toks := s.toks + binds.length }) (Nat.le_refl _) hk₁ (nsLe_of hns) rfl S.os
  have S2 := S.sleep S1
  have S3 := S2.push (o := { cls := .type "generator", data := .fields #[.int s.gens.size 0, .str name (s.toks + binds.length), .str qual (s.toks + binds.length + 1)] }) (c := .gen s.gens.size) (t := s.toks + binds.length + 1 + 1)
    ⟨_, _, _, Heap.get?_push_size _ rfl, rfl, rfl, rfl⟩
  have hfree := S2.free
  have hne : s.heap.objs.size ≠ h₁.objs.size := Nat.ne_of_lt S1.lt
  refine h s.heap.objs.size h₁.objs.size _ S.free ?_ hne ?_ (S3.setG _)
  · have := hfree; rw [upd_ne (Ne.symm hne)] at this; exact this
  · exact Nat.le_trans S.ab.1 (Nat.le_of_lt S.lt)
end
end Mine
end
section -- S4
open PySem PySem.W PySem.Calls PyProof.Rows
open Sem (wp)
namespace Mine
/-- one waking of a generator, up to its next hand-out or its end -/
def SegP (M : Model) (A : Around) (Post : End → Shared → Prop) (c : Code) (t : Sem PySem.Fin) (fs : List Frame) (s : Shared) : Prop :=
  ∀ Γ p, Γ.code = c → Γ.Woken A → ∃ e s', Runs M Γ p t fs s e s' ∧ Post e s'
section
variable {M : Model} {A : Around} {Post : End → Shared → Prop} {c : Code} {fs : List Frame} {s : Shared} {env : Env}
theorem sp_wrap {α : Type} {m : Sem α} {K : α → Sem PySem.Fin} {H : Value → Sem PySem.Fin} {gd : Bool → Bool} {lv : List Value → List Value}
    (h : wpAny M (A.over c fs) m (fun a s' => SegP M A Post c (K a) fs s') (fun _ _ => False) s) : SegP M A Post c (m.wrap K H gd lv) fs s := by
  rintro Γ p rfl hΓ
  exact runs_wrap_of_wp K H gd lv m (h (Γ.over fs) p (hΓ.over fs)) (fun _ p' _ h' => h' Γ p' rfl hΓ) fun _ _ _ h' => h'.elim
theorem sp_bindw {α β : Type} {m : Sem α} {K : α → Sem β} {K' : β → Sem PySem.Fin} {H : Value → Sem PySem.Fin} {gd : Bool → Bool} {lv : List Value → List Value}
    (h : wpAny M (A.over c fs) m (fun a s' => SegP M A Post c ((K a).wrap K' H gd lv) fs s') (fun _ _ => False) s) : SegP M A Post c ((m >>= K).wrap K' H gd lv) fs s := by
  rw [Sem.bind_eq_wrap', Sem.wrap_wrap]; exact sp_wrap h
theorem sp_at {p' : Pos} {k : Unit → Sem PySem.Fin} (h : SegP M A Post c (k ()) fs s) : SegP M A Post c (.at p' k) fs s :=
  sp_wrap (m := standAt p') (K := k) (H := .raise) (gd := id) (lv := id) (wpAny_standAt h)
theorem sp_point {l : List Value} {k : Unit → Sem PySem.Fin} (h : SegP M A Post c (k ()) fs s) : SegP M A Post c (.point l k) fs s :=
  sp_wrap (m := point) (K := k) (H := .raise) (gd := id) (lv := fun _ => l) (wpAny_point h)
theorem sp_call {c' : Code} {h : Option Value} {g : Bool} {l : List Value} {k : Result → Sem PySem.Fin} (hc : ∀ p, SegP M A Post c' (M.den c') (.ret k h g l c p [] :: fs) s) : SegP M A Post c (.call c' h g l k) fs s := by
  rintro Γ p rfl hΓ
  obtain ⟨e, s', hr, he⟩ := hc p (Γ.goto c') p rfl (hΓ.goto c')
  exact ⟨e, s', runs_call_seg hr, he⟩
theorem sp_leaf {k : Result → Sem PySem.Fin} {h : Option Value} {g : Bool} {l : List Value} {c₁ : Code} {p₁ : Pos} {kp : List Value} (r : Result) (hk : SegP M A Post c₁ (k r) fs s) : SegP M A Post c (leafOf r) (.ret k h g l c₁ p₁ kp :: fs) s := by
  rintro Γ p rfl hΓ
  obtain ⟨e, s', hr, he⟩ := hk (Γ.goto c₁) p₁ rfl (hΓ.goto c₁)
  exact ⟨e, s', Runs.pop r hr, he⟩
theorem sp_again {c' : Code} (hq : c'.quiet = true) (hc : SegP M A Post c' (M.den c') fs s) : SegP M A Post c (.pure (.again c')) fs s := by
  rintro Γ p rfl hΓ
  obtain ⟨e, s', hr, he⟩ := hc (Γ.goto c') p rfl (hΓ.goto c')
  exact ⟨e, s', Runs.head (c₁ := c') (fun _ _ x => .again hq x) hr, he⟩
theorem sp_end (r : Result) (h : Post (.ret r) s) : SegP M A Post c (leafOf r) [] s := by
  rintro Γ p rfl _
  exact ⟨.ret r, s, Runs.leaf r, h⟩
theorem sp_yield {v : Value} {g : Bool} {l : List Value} {k : Resume → Sem PySem.Fin} (hfs : splitAtGen fs = none) (h : ∀ p, Post (.susp v g l k c p fs) s) : SegP M A Post c (.yield v g l k) fs s := by
  rintro Γ p rfl _
  exact ⟨_, s, Runs.yield' fs hfs, h p⟩

variable {K : Flow → Sem PySem.Fin} {H : Value → Sem PySem.Fin} {gd : Bool → Bool} {lv : List Value → List Value}
theorem sp_execs_nil (h : SegP M A Post c (K .next) fs s) : SegP M A Post c ((execs [] env).wrap K H gd lv) fs s := h
theorem sp_execs_cons {st : Stmt} {rest : List Stmt}
    (h : SegP M A Post c ((exec st env).wrap (fun f => match f with | .next => (execs rest env).wrap K H gd lv | f => K f) H gd lv) fs s) : SegP M A Post c ((execs (st :: rest) env).wrap K H gd lv) fs s := by
  rw [execs_cons_wrap]; exact h
/-- a statement that hands nothing out and raises nothing -/
theorem sp_st {st : Stmt} (h : wpAny M (A.over c fs) (exec st env) (fun f s' => SegP M A Post c (K f) fs s') (fun _ _ => False) s) : SegP M A Post c ((exec st env).wrap K H gd lv) fs s := sp_wrap h
theorem sp_If {test : PySem.Expr} {body orelse : List Stmt} {pos : Pos}
    (h : wpAny M (A.over c fs) (isTrue test env (eval test env)) (fun b s' => if b then SegP M A Post c ((execs body env).wrap K H gd lv) fs s' else SegP M A Post c ((execs orelse env).wrap K H gd lv) fs s') (fun _ _ => False) s) :
    SegP M A Post c ((exec (.If test body orelse pos) env).wrap K H gd lv) fs s := by
  rw [exec_If, Sem.bind_eq_wrap', Sem.wrap_wrap]
  refine sp_wrap (wpAny_standAt ?_)
  rw [Sem.bind_eq_wrap', Sem.wrap_wrap]
  refine sp_wrap (wpAny_mono h (fun b s' hb => ?_) fun _ _ x => x)
  cases b <;> exact hb
theorem sp_For {target iter : PySem.Expr} {body orelse : List Stmt} {pos : Pos}
    (h : wpAny M (A.over c fs) (eval iter env) (fun x s₁ => wpAny M (A.over c fs) (pyIter x) (fun it s₂ => ∀ p k, SegP M A Post (.forLoop target it body orelse env) (M.den (.forLoop target it body orelse env))
      (.ret (fun r => ((match r with | .ok f => (.pure f : Sem Flow) | .error e => .raise e).onRaise k).wrap K H gd lv) none (gd false) (lv []) c p [] :: fs) s₂) (fun _ _ => False) s₁) (fun _ _ => False) s)
    (hs : ∀ x, foldedSetIterable iter env x = pure x := by intro _; rfl) : SegP M A Post c ((exec (.For target iter body orelse pos) env).wrap K H gd lv) fs s := by
  rw [exec_For, Sem.bind_eq_wrap', Sem.wrap_wrap]
  refine sp_wrap (wpAny_standAt ?_)
  rw [Sem.bind_eq_wrap', Sem.wrap_wrap]
  refine sp_wrap (wpAny_mono h (fun x s₁ h₁ => ?_) fun _ _ x => x)
  rw [Sem.bind_eq_wrap', Sem.wrap_wrap]
  refine sp_wrap (wpAny_of_eq (hs x) ?_)
  rw [Sem.bind_eq_wrap', Sem.wrap_wrap]
  refine sp_wrap (wpAny_standAt ?_)
  rw [Sem.bind_eq_wrap', Sem.wrap_wrap]
  refine sp_wrap (wpAny_holding (wpAny_mono h₁ (fun it s₂ h₂ => ?_) fun _ _ x => x))
  exact sp_call fun p => h₂ p _
/-- yield e, as a statement -/
theorem sp_Yield {e : PySem.Expr} {ypos pos : Pos} (hfs : splitAtGen fs = none) (hgd : gd false = false) (hfg : fs.any Frame.guarded = false)
    (h : wpAny M (A.over c fs) (eval e env) (fun v s' => ∀ l k p, (∀ Post' s'', SegP M A Post' c (K .next) fs s'' → SegP M A Post' c (k (.send .none)) fs s'') → End.quiet (.susp v false l k c p fs) = true → Post (.susp v false l k c p fs) s') (fun _ _ => False) s)
    (hco : env.scope.isCoroutine = false := by rfl) (hi : interactive env = false := by rfl) :
    SegP M A Post c ((exec (.Expr (.Yield (some e) ypos) pos) env).wrap K H gd lv) fs s := by
  rw [exec_Expr env _ pos hi rfl]
  show SegP M A Post c (.at pos fun _ => ((eval e env >>= fun v => (standAt ypos >>= fun _ => yieldOut env v)) >>= fun x =>
    dropValue (.Yield (some e) ypos) pos x).wrap K H gd lv) fs s
  have hy : ∀ v, yieldOut env v = yieldValue v := fun v => by simp only [yieldOut, hco, Bool.false_eq_true, if_false]
  simp only [hy]
  refine sp_at ?_
  rw [Sem.bind_eq_wrap', Sem.bind_eq_wrap', Sem.wrap_wrap, Sem.wrap_wrap]
  refine sp_wrap (wpAny_mono h (fun v s' h' => ?_) fun _ _ x => x)
  refine sp_at (sp_yield hfs fun p => ?_)
  show Post (.susp v (gd false) _ _ c p fs) s'
  generalize gd false = b at hgd
  subst hgd
  refine h' _ _ p (fun Post' s'' hx => hx) ?_
  simp [End.quiet, hfg]
end

section
variable {prog : Program} {w : World} {A : Around} {Post : End → Shared → Prop} {fs : List Frame} {s : Shared} {env : Env}
theorem sp_forLoop {target : PySem.Expr} {it : Value} {body orelse : List Stmt}
    (h : wpAny (model prog w) (A.over (.forLoop target it body orelse env) fs) (pyNext it) (fun r s₁ => match r with
      | none => SegP (model prog w) A Post (.forLoop target it body orelse env) (.pure (.again (.block orelse env))) fs s₁
      | some v => wpAny (model prog w) (A.over (.forLoop target it body orelse env) fs) (letOwnedTupleGo target it v) (fun _ s₁ => wpAny (model prog w) (A.over (.forLoop target it body orelse env) fs) (assign target env v) (fun _ s₂ => ∀ H, SegP (model prog w) A Post (.forLoop target it body orelse env) ((execs body env).wrap (fun f => match f with
            | .next | .cont => .pure (.again (.forLoop target it body orelse env))
            | .brk => .pure (.done .next)
            | .ret v => .pure (.done (.ret v))) H id id) fs s₂) (fun _ _ => False) s₁) (fun _ _ => False) s₁) (fun _ _ => False) s) :
    SegP (model prog w) A Post (.forLoop target it body orelse env) ((model prog w).den (.forLoop target it body orelse env)) fs s := by
  show SegP _ A Post _ ((forTurn target it body orelse env).onRaise (fun x => do noteFrame x env; theTreesLotGoes x)) fs s
  unfold forTurn
  rw [Sem.onRaise_eq_wrap, Sem.bind_eq_wrap', Sem.wrap_wrap]
  refine sp_wrap (wpAny_standAt ?_)
  rw [Sem.bind_eq_wrap', Sem.wrap_wrap]
  refine sp_wrap (wpAny_onRaise (wpAny_mono h (fun r s₁ h₁ => ?_) fun _ _ x => x.elim))
  cases r with
  | none => exact h₁
  | some v =>
    dsimp only at h₁ ⊢
    rw [Sem.bind_eq_wrap', Sem.wrap_wrap]
    refine sp_wrap (wpAny_mono h₁ (fun _ s₁ h₁ => ?_) fun _ _ x => x)
    rw [Sem.bind_eq_wrap', Sem.wrap_wrap]
    refine sp_wrap (wpAny_mono h₁ (fun _ s₂ h₂ => ?_) fun _ _ x => x)
    rw [Sem.bind_eq_wrap', Sem.wrap_wrap]
    rw [Sem.wrap_congr (execs body env) _ _ (K' := fun f => match f with
            | .next | .cont => .pure (.again (.forLoop target it body orelse env))
            | .brk => .pure (.done .next)
            | .ret v => .pure (.done (.ret v))) (fun f => by cases f <;> rfl) (fun _ => rfl)]
    exact h₂ _
/-- the block behind a loop, where there is none -/
theorem sp_noElse {fs' : List Frame} {c : Code} {k : Result → Sem PySem.Fin} {h : Option Value} {g : Bool} {l : List Value} {c₁ : Code} {p₁ : Pos} {kp : List Value} (hk : SegP (model prog w) A Post c₁ (k (.ok .next)) fs' s) :
    SegP (model prog w) A Post c (.pure (.again (.block [] env))) (.ret k h g l c₁ p₁ kp :: fs') s :=
  sp_again rfl (sp_leaf (.ok .next) hk)
theorem sp_func {body : List Stmt}
    (h : ∀ H, SegP (model prog w) A Post (.func body env) ((execs body env).wrap (fun f => .pure (.done (.ret (match f with | .ret v => v | _ => .none)))) H id id) fs s) :
    SegP (model prog w) A Post (.func body env) ((model prog w).den (.func body env)) fs s := by
  show SegP _ A Post _ (.point [] fun _ => ((execs body env).onRaise (leaving env)) >>= _) fs s
  refine sp_point ?_
  rw [Sem.onRaise_eq_wrap, Sem.bind_eq_wrap', Sem.wrap_wrap]
  rw [Sem.wrap_congr (execs body env) _ _ (K' := fun f => .pure (.done (.ret (match f with | .ret v => v | _ => .none)))) (fun f => by cases f <;> rfl) (fun _ => rfl)]
  exact h _
end
end Mine
end
section -- S5
open PySem PySem.W PySem.Calls PyProof.Rows
open Sem (wp)
namespace Mine
/-- woken, a generator comes to Post -/
def GoP (M : Model) (A : Around) (Post : End → Shared → Prop) (gs : GenState) (s : Shared) : Prop :=
  match gs with
  | .fresh c => SegP M A Post c (M.den c) [] s
  | .suspended k _ c _ fs _ => SegP M A Post c (k (.send .none)) fs s
  | _ => False
theorem resume_P {M : Model} {A : Around} {Post : End → Shared → Prop} {E : Value → Shared → Prop} {s : Shared} {g : Nat} {gs : GenState} {l : List Value} {α : Type} {k : GenResult → Sem α} {Q : α → Shared → Prop}
    (hg : s.gens[g]? = some gs) (hgo : GoP M A Post gs (s.setGen g .running)) (h : ∀ e s₁, Post e s₁ → e.quiet = true ∧ wpAny M A (k e.result) Q E (s₁.setGen g e.genState)) : wpAny M A (.resume g (.send .none) l k) Q E s := by
  intro Γ p hΓ
  rw [Sem.wp_resume]
  cases gs with
  | fresh c =>
    obtain ⟨e, s₁, hr, he⟩ := hgo (Γ.wake c p) p rfl (hΓ.wake c p)
    exact ⟨_, _, by unfold Wakes; rw [hg]; exact ⟨e, s₁, hr, (h e s₁ he).1, rfl, rfl⟩, (h e s₁ he).2 Γ p hΓ⟩
  | suspended k₀ l₀ c p₀ fs cl =>
    obtain ⟨e, s₁, hr, he⟩ := hgo (Γ.wake c p) p₀ rfl (hΓ.wake c p)
    exact ⟨_, _, by unfold Wakes; rw [hg]; exact ⟨e, s₁, hr, (h e s₁ he).1, rfl, rfl⟩, (h e s₁ he).2 Γ p hΓ⟩
  | running => exact hgo.elim
  | finished => exact hgo.elim

/-- next(generator) -/
theorem next_P {w : World} {A : Around} {Post : End → Shared → Prop} {E : Value → Shared → Prop} {s : Shared} {a : Addr} {g : Nat} {gs : GenState} {Q : Option Value → Shared → Prop} (hh : A.handled = none)
    (hl : s.heap.NoLimit) (hroom : A.depth < recursionLimit) (hg : s.heap.IsGen a g) (hgs : s.gens[g]? = some gs) (hgo : GoP (model PR w) A.in1 Post gs (s.setGen g .running))
    (h : ∀ e s₁, Post e s₁ → e.quiet = true ∧ ((∃ r, e = .ret r ∧ (r = .ok .next ∨ r = .ok (.ret .none)) ∧ ∀ h', (∀ b o, s₁.heap.get? b = some o → h'.get? b = some o) → Q none { s₁.setGen g .finished with heap := h' }) ∨
      ∃ v, (∃ b l k c p fs, e = .susp v b l k c p fs) ∧ Q (some v) (s₁.setGen g e.genState))) :
    wpAny (model PR w) A (pyNext (.ref a)) Q E s := by
  unfold pyNext
  refine wpAny_bind (wpAny_attempt (wpAny_callSpecial?_slot (name := Str.ofString "__next__") hg.typeIs slot_gen_next
    (wpAny_call_entry slot_gen_next hg.typeIs entry_gen_next ?_ (args_gen_next _))))
  show wpAny _ A.in1 (Builtin.Generator.genWake (.ref a) (.send .none)) _ _ s
  unfold Builtin.Generator.genWake
  refine wpAny_bind (wpAny_holding (wpAny_genNumber hg (wpAny_bind (wpAny_genState hgs ?_))))
  cases gs with
  | running => exact hgo.elim
  | finished => exact hgo.elim
  | _ =>
    refine wpAny_bind (wpAny_roomToWake hl hroom ?_)
    show wpAny _ A.in1 (.resume g (.send .none) [] _) _ _ s
    refine resume_P hgs hgo fun e s₁ he => ⟨(h e s₁ he).1, ?_⟩
    rcases (h e s₁ he).2 with ⟨r, rfl, hr, hq⟩ | ⟨v, ⟨b, l, k, c, p, fs, rfl⟩, hq⟩
    · rcases hr with rfl | rfl
      all_goals
        show wpAny _ _ (newExc (.type "StopIteration") [] >>= _) _ _ _
        refine wpAny_bind ?_
        simp only [newExc, newTuple]
        refine wpAny_bind (wpAny_newObj_type ?_ (by size_fits))
        refine wpAny_bind (m := firstArgMember _ _) (wpAny_of_eq (a := Value.none) (by first | rfl | (simp only [firstArgMember]; rfl)) ?_)
        refine wpAny_newObj_type ?_ (by size_fits)
        simp only [raiseNew]
        refine wpAny_bind (wpAny_bind (wpAny_handled ?_))
        rw [show A.in1.handled = none from hh]
        refine wpAny_throw ?_
        refine wpAny_bind (wpAny_isInstance (T := "StopIteration") (b := true) ⟨_, Heap.get?_push_size _ rfl, rfl⟩ isSubtype_stop ?_)
        exact wpAny_pure (hq _ fun b o hb => Heap.get?_push_of_some _ (Heap.get?_push_of_some _ hb))
    · exact wpAny_pure ⟨v, rfl, wpAny_pure hq⟩

/-- what a generator may change of the ledger -/
def pk : Cell → Bool
  | .kit .. | .vit .. | .iit .. | .lit .. | .ns _ | .pcv _ | .pl _ => true
  | .di (.attr _) _ _ => true
  | _ => false
def KG (C C' : Led) : Prop := ∀ b c, C b = some c → pk c = false → C' b = some c
theorem KG.refl (C : Led) : KG C C := fun _ _ e _ => e
theorem KG.trans {A B C : Led} (x : KG A B) (y : KG B C) : KG A C := fun b c e h => y b c (x b c e h) h
theorem Ext.kg {C C' : Led} (x : Ext C C') : KG C C' := fun b c e _ => x b c e
theorem KG.upd {C : Led} {b : Addr} {c c' : Cell} (hb : C b = some c) (h : pk c = true) : KG C (upd C b c') := fun d c₁ e h1 => by
  rw [upd_ne (ne_of_cells e hb (by rintro rfl; rw [h] at h1; cases h1))]; exact e
theorem KG.but {it : Addr} {C C' : Led} {c : Cell} (hb : C it = some c) (h : pk c = true) (k : KeepsBut it C C') : KG C C' := fun d c₁ e h1 =>
  k _ _ (ne_of_cells e hb (by rintro rfl; rw [h] at h1; cases h1)) e
/-- of the generators only these change, and none is left in the midst of a cleanup -/
def GRx (gv : List Nat) (G G' : Array GenState) : Prop := (∀ j, j ∉ gv → G'[j]? = G[j]?) ∧ ((∀ x ∈ G, x.bare = true) → ∀ x ∈ G', x.bare = true)
theorem GRx.refl (gv : List Nat) (G : Array GenState) : GRx gv G G := ⟨fun _ _ => rfl, fun h => h⟩
theorem GRx.trans {gv : List Nat} {A B C : Array GenState} (x : GRx gv A B) (y : GRx gv B C) : GRx gv A C := ⟨fun j h => (y.1 j h).trans (x.1 j h), fun h => y.2 (x.2 h)⟩
theorem GB.grx {gv : List Nat} {G G' : Array GenState} (x : GB G G') : GRx gv G G' := by rw [show G' = G from x]; exact .refl _ _
theorem bare_set {G : Array GenState} {i : Nat} {x : GenState} (hx : x.bare = true) (h : ∀ y ∈ G, y.bare = true) : ∀ y ∈ G.setIfInBounds i x, y.bare = true := fun y hy => by
  obtain ⟨j, hj, rfl⟩ := Array.mem_iff_getElem.mp hy
  have hj' : j < G.size := by simpa using hj
  rw [Array.getElem_setIfInBounds hj']
  split
  · exact hx
  · exact h _ (Array.getElem_mem hj')
theorem GRx.set (gv : List Nat) (i : Nat) (G : Array GenState) {x : GenState} (hx : x.bare = true) : GRx (i :: gv) G (G.setIfInBounds i x) :=
  ⟨fun j h => by rw [Array.getElem?_setIfInBounds_ne]; rintro rfl; exact h (.head _), bare_set hx⟩
theorem GRx.mono {gv gv' : List Nat} {G G' : Array GenState} (x : GRx gv G G') (h : ∀ j ∈ gv, j ∈ gv') : GRx gv' G G' := ⟨fun j hj => x.1 j fun q => hj (h j q), x.2⟩

/-- what a generator's reader may change of the ledger -/
def nch : Cell → Prop
  | .lst _ | .tab _ => False
  | _ => True
def KC (C C' : Led) : Prop := (∀ b c, C b = some c → nch c → C' b = some c) ∧ ∀ b ps, C b = some (.tab ps) → ∃ ps', C' b = some (.tab ps')
theorem Ext.kc {C C' : Led} (x : Ext C C') : KC C C' := ⟨fun b c e _ => x b c e, fun b ps e => ⟨ps, x b _ e⟩⟩
theorem KC.refl (C : Led) : KC C C := (Ext.refl C).kc
theorem KC.trans {A B C : Led} (x : KC A B) (y : KC B C) : KC A C := ⟨fun b c e h => y.1 b c (x.1 b c e h) h, fun b ps e => let ⟨ps', e'⟩ := x.2 b ps e; y.2 b ps' e'⟩
theorem KC.upd {C : Led} {b : Addr} {vs : List Value} {c' : Cell} (hb : C b = some (.lst vs)) : KC C (Mine.upd C b c') :=
  ⟨fun d c₁ e h1 => by rw [upd_ne (ne_of_cells e hb (by rintro rfl; exact h1))]; exact e, fun d ps e => ⟨ps, by rw [upd_ne (ne_of_cells e hb (by intro q; cases q))]; exact e⟩⟩
theorem KC.updTab {C : Led} {b : Addr} {ps ps' : Array Value} (hb : C b = some (.tab ps)) : KC C (Mine.upd C b (.tab ps')) :=
  ⟨fun d c₁ e h1 => by rw [upd_ne (ne_of_cells e hb (by rintro rfl; exact h1))]; exact e, fun d ps2 e => by
    by_cases hd : d = b
    · subst hd; exact ⟨ps', upd_same ..⟩
    · exact ⟨ps2, by rw [upd_ne hd]; exact e⟩⟩
def Stb (gv : List Nat) (Ce : Led → Array GenState → Prop) : Prop := ∀ C C' G G', KC C C' → (∀ j ∈ gv, G'[j]? = G[j]?) → Ce C G → Ce C' G'

/-- ready to be woken k times more, then to end; Ce: what stands meanwhile -/
def Rdy (w : World) (A : Around) (g : Heap) (gi : Nat) (O : OsState) (gv : List Nat) (P : Nat → Value → Led → Prop) : Nat → Nat → (Led → Array GenState → Prop) → GenState → Prop
  | 0, _, Ce, gs => ∀ L m F C G s, St w g L m F C G O s → Ce C G → G[gi]? = some .running →
      GoP (model PR w) A (fun e s' => (∃ r, e = .ret r ∧ (r = .ok .next ∨ r = .ok (.ret .none))) ∧ ∃ C' G', St w g L m F C' G' O s' ∧ KG C C' ∧ GRx gv G G') gs s
  | k + 1, i, Ce, gs => ∀ L m F C G s, St w g L m F C G O s → Ce C G → G[gi]? = some .running →
      GoP (model PR w) A (fun e s' => e.quiet = true ∧ ∃ v, (∃ b l k c p fs, e = .susp v b l k c p fs) ∧ ∃ C' G', St w g L m F C' G' O s' ∧ KG C C' ∧ GRx gv G G' ∧ P i v C' ∧ ∃ Ce', Stb gv Ce' ∧ Ce' C' G' ∧ Rdy w A g gi O gv P k (i + 1) Ce' e.genState) gs s
/-- what a waking has to come to -/
def RPost (w : World) (A : Around) (g : Heap) (gi : Nat) (O : OsState) (gv : List Nat) (P : Nat → Value → Led → Prop) (L : Addr) (m : List (Str × Value)) (F : List (Addr × List (Str × Value))) (C : Led) (G : Array GenState) : Nat → Nat → End → Shared → Prop
  | 0, _ => fun e s' => (∃ r, e = .ret r ∧ (r = .ok .next ∨ r = .ok (.ret .none))) ∧ ∃ C' G', St w g L m F C' G' O s' ∧ KG C C' ∧ GRx gv G G'
  | k + 1, i => fun e s' => e.quiet = true ∧ ∃ v, (∃ b l k c p fs, e = .susp v b l k c p fs) ∧ ∃ C' G', St w g L m F C' G' O s' ∧ KG C C' ∧ GRx gv G G' ∧ P i v C' ∧ ∃ Ce', Stb gv Ce' ∧ Ce' C' G' ∧ Rdy w A g gi O gv P k (i + 1) Ce' e.genState
theorem rdy_of {w : World} {A : Around} {g : Heap} {gi : Nat} {O : OsState} {gv : List Nat} {P : Nat → Value → Led → Prop} {k i : Nat} {Ce : Led → Array GenState → Prop} {gs : GenState}
    (h : ∀ L m F C G s, St w g L m F C G O s → Ce C G → G[gi]? = some .running → GoP (model PR w) A (RPost w A g gi O gv P L m F C G k i) gs s) : Rdy w A g gi O gv P k i Ce gs := by
  cases k <;> exact h

def GenI (w : World) (A : Around) (g : Heap) (gi : Nat) (O : OsState) (gv : List Nat) (P : Nat → Value → Led → Prop) (I : Addr) (n : Nat) (i : Nat) (C : Led) (G : Array GenState) : Prop :=
  C I = some (.gen gi) ∧ ∃ Ce gs, Stb gv Ce ∧ Ce C G ∧ G[gi]? = some gs ∧ Rdy w A.in1 g gi O gv P (n - i) i Ce gs
theorem GenI.keep {w : World} {A : Around} {g : Heap} {gi : Nat} {O : OsState} {gv : List Nat} {P : Nat → Value → Led → Prop} {I : Addr} {n i : Nat} {C C' : Led} {G G' : Array GenState} (x : GenI w A g gi O gv P I n i C G)
    (k : KC C C') (hg : ∀ j ∈ gi :: gv, G'[j]? = G[j]?) : GenI w A g gi O gv P I n i C' G' := by
  obtain ⟨h1, Ce, gs, h2, h3, h4, h5⟩ := x
  exact ⟨k.1 _ _ h1 trivial, Ce, gs, h2, h2 _ _ _ _ k (fun j hj => hg j (.tail _ hj)) h3, (hg _ (.head _)).trans h4, h5⟩

theorem get_set {G : Array GenState} {g : Nat} {gs x : GenState} (h : G[g]? = some gs) : (G.setIfInBounds g x)[g]? = some x := by
  have hlt : g < G.size := by
    rcases Nat.lt_or_ge g G.size with h' | h'
    · exact h'
    · rw [Array.getElem?_eq_none h'] at h; cases h
  simp [hlt]
theorem set_other {G : Array GenState} {gi j : Nat} {x : GenState} (h : j ≠ gi) : (G.setIfInBounds gi x)[j]? = G[j]? := Array.getElem?_setIfInBounds_ne (Ne.symm h)
theorem iter_gen {w : World} {A : Around} {g : Heap} {gi : Nat} {O : OsState} {gv : List Nat} {P : Nat → Value → Led → Prop} {I : Addr} {n : Nat} {t : PySem.Expr}
    (hh : A.handled = none) (hroom : A.depth < recursionLimit) (hl : g.NoLimit) (ht : TgOk t) (hgi : gi ∉ gv) :
    IterAt w A g O t I n KG (GRx (gi :: gv)) (GenI w A g gi O gv P I n) P where
  next := fun {L m F C G s Q E i} S hI hi h => by
    obtain ⟨h1, Ce, gs, hs, h2, h3, h4⟩ := hI
    obtain ⟨k, hk⟩ : ∃ k, n - i = k + 1 := ⟨n - i - 1, by omega⟩
    rw [hk] at h4
    have ne : ∀ j ∈ gv, j ≠ gi := fun j hj e => hgi (e ▸ hj)
    have hrun := h4 L m F C (G.setIfInBounds gi .running) (s.setGen gi .running) (by have := S.setG (G.setIfInBounds gi .running); rw [← S.gens] at this ⊢; exact this) (hs _ _ _ _ (.refl _) (fun j hj => set_other (ne j hj)) h2) (get_set h3)
    refine next_P hh (hl.keeps S.keep) hroom (S.sat I _ h1) (by rw [S.gens]; exact h3) hrun fun e s₁ he => ⟨he.1, .inr ?_⟩
    obtain ⟨hq, v, hv, C', G', S', K', R', P', Ce', hs', he', r'⟩ := he
    refine ⟨v, hv, ?_⟩
    have hgi' : G'[gi]? = some .running := (R'.1 gi hgi).trans (get_set h3)
    have S2 : St w g L m F C' (G'.setIfInBounds gi e.genState) O (s₁.setGen gi e.genState) := by have := S'.setG (G'.setIfInBounds gi e.genState); rw [← S'.gens] at this ⊢; exact this
    have hI' := K' _ _ h1 rfl
    obtain ⟨o, nm, qn, ho, hc, hd, _⟩ := S2.sat I _ hI'
    refine go_plain ht ho hc hd (by decide) (h v C' _ _ S2 K' ?_ ⟨hI', Ce', _, hs', hs' _ _ _ _ (.refl _) (fun j hj => set_other (ne j hj)) he', get_set hgi', ?_⟩ P')
    · exact ((GRx.set gv gi G (x := .running) rfl).trans (R'.mono fun j hj => .tail _ hj)).trans (GRx.set gv gi G' (End.bare_of_quiet hq))
    · rw [show n - (i + 1) = k by omega]; exact r'
  done := fun {L m F C G s Q E} S hI h => by
    obtain ⟨h1, Ce, gs, hs, h2, h3, h4⟩ := hI
    rw [Nat.sub_self] at h4
    have ne : ∀ j ∈ gv, j ≠ gi := fun j hj e => hgi (e ▸ hj)
    have hrun := h4 L m F C (G.setIfInBounds gi .running) (s.setGen gi .running) (by have := S.setG (G.setIfInBounds gi .running); rw [← S.gens] at this ⊢; exact this) (hs _ _ _ _ (.refl _) (fun j hj => set_other (ne j hj)) h2) (get_set h3)
    refine next_P hh (hl.keeps S.keep) hroom (S.sat I _ h1) (by rw [S.gens]; exact h3) hrun fun e s₁ he => ?_
    obtain ⟨⟨r, rfl, hr⟩, C', G', S', K', R'⟩ := he
    refine ⟨rfl, .inl ⟨r, rfl, hr, fun h' hk => ?_⟩⟩
    have S2 : St w g L m F C' (G'.setIfInBounds gi .finished) O (s₁.setGen gi .finished) := by have := S'.setG (G'.setIfInBounds gi .finished); rw [← S'.gens] at this ⊢; exact this
    exact h C' _ _ (S2.grown hk S2.gens S2.os) K' (((GRx.set gv gi G (x := .running) rfl).trans (R'.mono fun j hj => .tail _ hj)).trans (GRx.set gv gi G' rfl))
  self := fun {L m F C G s Q E i} S hI h => wpAny_pyIter_gen (S.sat I _ hI.1) h
end Mine
end
section -- S9
open PySem PySem.W PySem.Calls PyProof.Rows
open Sem (wp)
namespace Mine
theorem KG.del9 {C : Led} {L' : Addr} {m : List (Str × Value)} (h : C L' = some (.ns m)) : KG C (Mine.del C L') := fun b c e hp => by
  unfold Mine.del; rw [if_neg]; exact e
  rintro rfl; rw [h] at e; cases e; cases hp
theorem KG.put9 {C C' : Led} {L' : Addr} {m m' : List (Str × Value)} (h : C L' = some (.ns m)) (k : KG (Mine.del C L') C') : KG C (Mine.upd C' L' (.ns m')) := fun b c e hp => by
  have hb : b ≠ L' := by rintro rfl; rw [h] at e; cases e; cases hp
  rw [upd_ne hb]; refine k _ _ ?_ hp
  unfold Mine.del; rw [if_neg hb]; exact e

/-- a generator expression's knowledge while it sleeps: what held when it fell asleep holds but for lists -/
def GxC (L' : Addr) (I : Led → Array GenState → Prop) (Bs : Led → Prop) (gv : List Nat) (C : Led) (G : Array GenState) : Prop :=
  ∃ m C₁ G₁, C L' = some (.ns m) ∧ C₁ L' = none ∧ I C₁ G₁ ∧ Bs C₁ ∧ (∀ j ∈ gv, G[j]? = G₁[j]?) ∧ KC C₁ C
theorem GxC.stb {L' : Addr} {I : Led → Array GenState → Prop} {Bs : Led → Prop} {gv : List Nat} : Stb gv (GxC L' I Bs gv) :=
  fun _ _ _ _ k hg ⟨m, C₁, G₁, h1, h2, h3, h4, h5, h6⟩ => ⟨m, C₁, G₁, k.1 _ _ h1 trivial, h2, h3, h4, fun j hj => (hg j hj).trans (h5 j hj), h6.trans k⟩
theorem KC.del {C₁ C : Led} {L' : Addr} (h : C₁ L' = none) (k : KC C₁ C) : KC C₁ (Mine.del C L') :=
  ⟨fun b c e hn => by unfold Mine.del; rw [if_neg (by rintro rfl; rw [h] at e; cases e)]; exact k.1 b c e hn,
   fun b ps e => by unfold Mine.del; rw [if_neg (by rintro rfl; rw [h] at e; cases e)]; exact k.2 b ps e⟩

section
variable {w : World} {g : Heap} {O : OsState} {A : Around}
theorem gx_loop {gi n : Nat} {gv : List Nat} {L' it : Addr} {elt target iter : PySem.Expr} {scope : Scope} {pos : Pos} {cenv : Env} {KP : Led → Led → Prop} {GR : Array GenState → Array GenState → Prop} {I : Nat → Led → Array GenState → Prop} {P P' : Nat → Value → Led → Prop} {Bs : Led → Prop}
    (W : IterAt w (A.over (.compLoop (.GeneratorExp elt [⟨target, iter, [], 0⟩] scope pos) 0 (.ref it) .none cenv) []) g O target it n KP GR I P)
    (hKP : ∀ i C C' G, I i C G → KP C C' → KG C C') (hGR : ∀ G G', GR G G' → GRx gv G G') (hIs : ∀ i, Stb gv (I i)) (hBg : ∀ C C', KG C C' → Bs C → Bs C') (hBc : ∀ C C', KC C C' → Bs C → Bs C') (hab : g.objs.size ≤ L')
    (hco : cenv.scope.isCoroutine = false)
    (helt : ∀ i v m F C G s E, St w g L' m F C G O s → I (i + 1) C G → P i v C → Bs C →
      wpAny (model PR w) (A.over (.compLoop (.GeneratorExp elt [⟨target, iter, [], 0⟩] scope pos) 0 (.ref it) .none cenv) []) (assign target cenv v) (fun _ s2 =>
        wpAny (model PR w) (A.over (.compLoop (.GeneratorExp elt [⟨target, iter, [], 0⟩] scope pos) 0 (.ref it) .none cenv) []) (eval elt cenv) (fun y s3 => ∃ m' C', St w g L' m' F C' G O s3 ∧ Ext C C' ∧ P' i y C') E s2) E s)
    (hP : ∀ i y C m, C L' = none → P' i y C → P' i y (upd C L' (.ns m))) :
    ∀ k i, i + k = n → ∀ L m F C₀ G₀ s₀ C G s mm m0, St w g L m F C₀ G₀ O s₀ → C₀ L' = some (.ns m0) → St w g L' mm ((L, m) :: F) C G O s → I i C G → Bs C → KG (Mine.del C₀ L') C → GRx gv G₀ G →
      SegP (model PR w) A (RPost w A g gi O gv P' L m F C₀ G₀ k i) (.compLoop (.GeneratorExp elt [⟨target, iter, [], 0⟩] scope pos) 0 (.ref it) .none cenv)
        ((model PR w).den (.compLoop (.GeneratorExp elt [⟨target, iter, [], 0⟩] scope pos) 0 (.ref it) .none cenv)) [] s := by
  have offL : ∀ {m F C G s}, St w g L' m F C G O s → C L' = none := fun {m F C G s} S => by
    cases q : C L' with
    | none => rfl
    | some c => exact absurd rfl (S.off _ _ q).1.1
  intro k
  induction k with
  | zero =>
    intro i hik L m F C₀ G₀ s₀ C G s mm m0 S₀ h0 S hI hB hKG hR
    obtain rfl : i = n := by omega
    show SegP _ A _ _ ((compTurn (.GeneratorExp elt [⟨target, iter, [], 0⟩] scope pos) 0 (.ref it) .none cenv).onRaise (leaving cenv)) [] s
    rw [compTurn_gen, Sem.onRaise_eq_wrap]
    refine sp_bindw (wpAny_standAt ?_)
    refine sp_bindw (W.done S hI fun C' G' s' S' K' R' => ?_)
    exact sp_end (.ok .next) ⟨⟨_, rfl, .inl rfl⟩, _, G', S₀.sleep S', KG.put9 h0 (hKG.trans (hKP _ _ _ _ hI K')), hR.trans (hGR _ _ R')⟩
  | succ k ih =>
    intro i hik L m F C₀ G₀ s₀ C G s mm m0 S₀ h0 S hI hB hKG hR
    have hlt : i < n := by omega
    show SegP _ A _ _ ((compTurn (.GeneratorExp elt [⟨target, iter, [], 0⟩] scope pos) 0 (.ref it) .none cenv).onRaise (leaving cenv)) [] s
    rw [compTurn_gen, Sem.onRaise_eq_wrap]
    refine sp_bindw (wpAny_standAt ?_)
    have hy : ∀ v, yieldOut cenv v = yieldValue v := fun v => by simp only [yieldOut, hco, Bool.false_eq_true, if_false]
    refine sp_bindw (wpAny_mono (W.next (Q := fun r s₁ => match r with
      | none => False
      | some v => ∃ C1 G1 , St w g L' mm ((L, m) :: F) C1 G1 O s₁ ∧ KG C C1 ∧ GRx gv G G1 ∧ I (i + 1) C1 G1 ∧ P i v C1) (E := fun _ _ => False) S hI hlt fun v C1 G1 s1 S1 K1 R1 I1 P1 => ⟨C1, G1, S1, hKP _ _ _ _ hI K1, hGR _ _ R1, I1, P1⟩) (fun r s₁ h₁ => ?_) fun _ _ e => e)
    cases r with
    | none => exact h₁.elim
    | some v =>
      refine sp_bindw (wpAny_mono h₁ (fun _ s₂ ⟨C1, G1, S1, K1, R1, I1, P1⟩ => ?_) fun _ _ e => e)
      have B1 := hBg _ _ K1 hB
      refine sp_bindw (wpAny_mono (helt i v mm _ C1 G1 s₂ (fun _ _ => False) S1 I1 P1 B1) (fun _ s₃ h₃ => ?_) fun _ _ e => e)
      refine sp_bindw (wpAny_of_eq (a := true) (by rfl) ?_)
      simp only [if_true, hy]
      rw [Sem.bind_eq_wrap', Sem.bind_eq_wrap', Sem.wrap_wrap, Sem.wrap_wrap]
      refine sp_wrap (wpAny_mono h₃ (fun y s₄ ⟨m', C2, S2, X2, P2⟩ => ?_) fun _ _ e => e)
      refine sp_at (sp_yield rfl fun pf => ?_)
      have hL2 := offL S2
      have R2 := hR.trans R1
      refine ⟨by simp [End.quiet], y, ⟨_, _, _, _, _, _, rfl⟩, _, G1, S₀.sleep S2, KG.put9 h0 ((hKG.trans K1).trans X2.kg), R2, hP _ _ _ _ hL2 P2, GxC L' (I (i + 1)) Bs gv, GxC.stb,
        ⟨m', C2, G1, upd_same .., hL2, hIs _ _ _ _ _ X2.kc (fun _ _ => rfl) I1, hBg _ _ X2.kg B1, fun _ _ => rfl, (Ext.upd hL2).kc⟩, ?_⟩
      · refine rdy_of fun L2 m2 F2 C3 G3 s5 S5 ⟨m3, C₁, G₁, c1, c2, c3, c4, c5, c6⟩ hrun => ?_
        refine sp_again rfl ?_
        have SW := S5.wake c1 hab
        have kw := KC.del c2 c6
        exact ih (i + 1) (by omega) L2 m2 F2 C3 G3 s5 _ G3 s5 m3 m3 S5 c1 SW (hIs _ _ _ _ _ kw (fun j hj => c5 j hj) c3) (hBc _ _ kw c4) (.refl _) (.refl _ _)
end
end Mine
end
section -- S10
open PySem PySem.W PySem.Calls PyProof.Rows
open Sem (wp)
namespace Mine
section
variable {w : World} {g : Heap} {L : Addr} {m : List (Str × Value)} {F : List (Addr × List (Str × Value))} {C : Led} {G : Array GenState} {O : OsState} {s : Shared} {A : Around} {E : Value → Shared → Prop}
theorem IterAt.stepTC {B : Type} {it : Addr} {x : Str} {p : Pos} {n i : Nat} {KP : Led → Led → Prop} {GR : Array GenState → Array GenState → Prop} {I : Nat → Led → Array GenState → Prop} {P : Nat → Value → Led → Prop} {h : Value → Sem (Option Value)} {k : Option Value → Sem B} {Q : B → Shared → Prop}
    (W : IterAt w A g O (.Name x p) it n KP GR I P) (S : St w g L m F C G O s) (hI : I i C G) (hi : i < n)
    (hn : ∀ v C' G' s', St w g L m F C' G' O s' → KP C C' → GR G G' → I (i + 1) C' G' → P i v C' → wpAny (model PR w) A (k (some v)) Q E s') : wpAny (model PR w) A (tryCatch (pyNext (.ref it)) h >>= k) Q E s := by
  refine wpAny_bind (wpAny_tryCatch (wpAny_mono (W.next (E := fun _ _ => False) (Q := fun r s => match r with | none => False | some v => wpAny (model PR w) A (k (some v)) Q E s) S hI hi hn) (fun r s₁ h₁ => ?_) fun _ _ e => e.elim))
  cases r with
  | none => exact h₁.elim
  | some v => exact (show wpAny (model PR w) A (pure () >>= fun _ => k (some v)) Q E s₁ from wpAny_bind (m := letOwnedTupleGo (.Name x p) (.ref it) v) (wpAny_mono h₁ (fun _ _ e => e) fun _ _ e => e.elim))
theorem preSum_le {val : Nat → Int} (h : ∀ j, 0 ≤ val j ∧ val j ≤ 7) : ∀ j : Nat, 0 ≤ preSum val j ∧ preSum val j ≤ 7 * j
  | 0 => ⟨Int.le_refl _, by simp [preSum]⟩
  | j + 1 => by
    have h1 := preSum_le h j
    have h2 := h j
    unfold preSum
    constructor <;> omega
theorem fits_of {val : Nat → Int} (h : ∀ j, 0 ≤ val j ∧ val j ≤ 7) {n : Nat} (hn : n ≤ 1000) : ∀ j, j < n → InLong (val j) ∧ InLong (preSum val (j + 1)) := fun j hj => by
  have h1 := preSum_le h (j + 1)
  have h2 := h j
  unfold InLong
  refine ⟨⟨?_, ?_⟩, ?_, ?_⟩ <;> omega

theorem KG.delL {C : Led} {b : Addr} {C' : Led} (h : ∀ d c, d ≠ b → C d = some c → pk c = false → C' d = some c) : KG (Mine.del C b) C' := fun d c e hp => by
  unfold Mine.del at e
  by_cases hb : d = b
  · rw [if_pos hb] at e; cases e
  · rw [if_neg hb] at e; exact h d c hb e hp

theorem sum_loop {x : Str} {p : Pos} {it S' : Addr} {n : Nat} {gv : List Nat} {I : Nat → Led → Array GenState → Prop} {P : Nat → Value → Led → Prop} {R : Result → Shared → Prop}
    (W : IterAt w A.in1 g O (.Name x p) it n KG (GRx gv) I P) (hIs : ∀ i, Stb gv (I i)) (val : Nat → Int) (hval : ∀ i v C, P i v C → ∃ t, v = .int (val i) t) (hfit : ∀ j, j < n → InLong (val j) ∧ InLong (preSum val (j + 1))) :
    ∀ (k i : Nat) (C : Led) (G : Array GenState) (s : Shared) (tA : Tok), n - i = k → i ≤ n → St w g L m F C G O s → I i C G → C S' = some (.lst [.int (preSum val i) tA]) →
      (∀ C' G' s' t, St w g L m F C' G' O s' → KG (Mine.del C S') C' → GRx gv G G' → R (.ok (.ret (.int (preSum val n) t))) s') →
      codeAny (model PR w) A (.builtin "sum.loop" ⟨[.ref it, .ref S', rawInt 0, rawInt 0], []⟩) R s := by
  intro k
  induction k with
  | zero =>
    intro i C G s tA hk hi S0 I0 hS hR
    obtain rfl : i = n := by omega
    obtain ⟨o, ho, hc, n', hdt⟩ := S0.isList hS
    refine codeAny_builtin PySem.F.entry_sum_loop ?_
    rw [Around.under_plainId PySem.F.plain_sum_loop _]
    show wpAny _ A.in1 (seqItems? (.ref S') >>= _) _ _ s
    refine wpAny_bind (wpAny_seqItems ho hdt ?_)
    show wpAny _ A.in1 (tryCatch (pyNext (.ref it)) _ >>= _) _ _ s
    refine wpAny_bind (wpAny_tryCatch (W.done S0 I0 fun C' G' s' S1 K' R' => ?_))
    exact wpAny_pure (hR C' G' s' tA S1 (KG.delL fun d c _ e hp => K' _ _ e hp) R')
  | succ k ih =>
    intro i C G s tA hk hi S0 I0 hS hR
    have hlt : i < n := by omega
    obtain ⟨o, ho, hc, n', hdt⟩ := S0.isList hS
    refine codeAny_builtin PySem.F.entry_sum_loop ?_
    rw [Around.under_plainId PySem.F.plain_sum_loop _]
    show wpAny _ A.in1 (seqItems? (.ref S') >>= _) _ _ s
    refine wpAny_bind (wpAny_seqItems ho hdt ?_)
    show wpAny _ A.in1 (tryCatch (pyNext (.ref it)) _ >>= _) _ _ s
    refine W.stepTC S0 I0 hlt fun v C1 G1 s1 S1 K1 R1 I1 P1 => ?_
    obtain ⟨t, rfl⟩ := hval _ _ _ P1
    obtain ⟨⟨f1, f2⟩, f3, f4⟩ := hfit i hlt
    have hc2 : ((decide (-(2 ^ 63) ≤ val i) && decide (val i < 2 ^ 63)) && (decide (-(2 ^ 63) ≤ preSum val i + val i) && decide (preSum val i + val i < 2 ^ 63))) = true := by
      simp only [preSum] at f3 f4
      simp only [Bool.and_eq_true, decide_eq_true_eq]
      exact ⟨⟨f1, f2⟩, f3, f4⟩
    show wpAny _ A.in1 (if (_ : Bool) = true then (mkInt (preSum val i + val i) >>= _) else _) _ _ _
    refine wpAny_ite_split (fun _ => ?_) (fun hneg => absurd hc2 hneg)
    have hS1 := K1 _ _ hS rfl
    refine wpAny_bind (wpAny_mkInt ?_)
    show wpAny _ A.in1 (updateSeq S' (fun _ => #[.int (preSum val i + val i) s1.toks]) >>= _) _ _ _
    obtain ⟨o1, ho1, hc1, n1, hdt1⟩ := S1.isList hS1
    refine wpAny_bind (wpAny_updateSeq (s := { s1 with toks := s1.toks + 1 }) ho1 hdt1 (wpAny_pure ⟨plainId_quiet PySem.F.plain_sum_loop _, ?_⟩))
    have S2 : St w g L m F (Mine.upd C1 S' (.lst [.int (preSum val i + val i) s1.toks])) G1 O { s1 with toks := s1.toks + 1, heap := s1.heap.update S' (Obj.mapSeq fun _ => #[.int (preSum val i + val i) s1.toks]) } := (S1.toks (s1.toks + 1)).put hS1 (Heap.SameBut.update ..) (by
      obtain ⟨n'', e⟩ := Obj.data_mapSeq hdt1 (fun _ => #[Value.int (preSum val i + val i) s1.toks])
      exact ⟨_, Heap.get?_update_self _ ho1 (Obj.isFreed_of_seq e), by rw [Obj.cls_mapSeq]; exact hc1, n'', by rw [e]⟩) S1.gens S1.os
    refine ih (i + 1) _ G1 _ s1.toks (by omega) hlt S2 (hIs _ _ _ _ _ (KC.upd hS1) (fun _ _ => rfl) I1) (upd_same ..) fun C' G' s' t' S' K' R' => hR C' G' s' t' S' (KG.delL fun d c hd e hp => ?_) (R1.trans R')
    refine K' d c ?_ hp
    unfold Mine.del
    rw [if_neg hd, upd_ne hd]
    exact K1 _ _ e hp

/-- sum(x), x's iterator known -/
theorem r_sum {xv : Value} {n : Nat} {gv : List Nat} {P : Nat → Value → Led → Prop} {Q : Value → Shared → Prop} (val : Nat → Int) (hval : ∀ i v C, P i v C → ∃ t, v = .int (val i) t) (hfit : ∀ j, j < n → InLong (val j) ∧ InLong (preSum val (j + 1)))
    (h : wpAny (model PR w) A.in1 (pyIter xv) (fun itv s₂ => ∃ it C G I, itv = .ref it ∧ St w g L m F C G O s₂ ∧ IterAt w A.in1 g O (.Name (Str.ofString "x") ⟨0, 0, 0, 0⟩) it n KG (GRx gv) I P ∧ (∀ i, Stb gv (I i)) ∧ I 0 C G ∧
      ∀ C' G' s' t, St w g L m F C' G' O s' → KG C C' → GRx gv G G' → Q (.int (preSum val n) t) s') E s) :
    wpAny (model PR w) A (call (.builtin "sum") [xv]) Q E s := by
  refine call_function_tree PySem.F.kind_sum PySem.F.plain_sum PySem.F.entry_sum (PySem.F.args_sum1 _) ?_
  unfold Builtin.«sum»
  simp only [List.length_cons, List.length_nil]
  rw [if_neg (by decide)]
  refine wpAny_bind (wpAny_of_eq (show Builtin.Builtins.bindParams "sum" ["start"] 0 { } = pure [none] from rfl) ?_)
  refine wpAny_bind (wpAny_mono h (fun itv s₂ h₂ => ?_) fun _ _ e => e)
  obtain ⟨it, C, G, I, rfl, S2, W, hIs, I2, hQ⟩ := h₂
  refine wpAny_bind (wpAny_mkInt ?_)
  refine wpAny_bind (wpAny_pure ?_)
  simp only [List.forIn_cons, List.forIn_nil]
  refine wpAny_bind (wpAny_bind (wpAny_bind (wpAny_isInstance (T := "int") (b := false) (typeIs_int _ _ _) PySem.sub_int_str ?_)))
  simp only [Bool.false_eq_true, if_false]
  refine wpAny_pure (wpAny_bind (wpAny_bind (wpAny_isInstance (T := "int") (b := false) (typeIs_int _ _ _) PySem.sub_int_bytes ?_)))
  simp only [Bool.false_eq_true, if_false]
  refine wpAny_pure (wpAny_bind (wpAny_bind (wpAny_isInstance (T := "int") (b := false) (typeIs_int _ _ _) PySem.sub_int_bytearray ?_)))
  simp only [Bool.false_eq_true, if_false]
  refine wpAny_pure (wpAny_pure ?_)
  refine wpAny_bind (wpAny_newObj_type ?_)
  have hfree := S2.free
  have S3 := S2.push (o := { cls := .type "list", data := .seq #[.int 0 s₂.toks] }) (c := .lst [.int 0 s₂.toks]) (t := s₂.toks + 1) ⟨_, Heap.get?_push_size _ rfl, rfl, 0, rfl⟩
  have X3 := Ext.upd (c := .lst [.int 0 s₂.toks]) hfree
  refine wpAny_pure ⟨plainId_quiet PySem.F.plain_sum_loop _, sum_loop W hIs val hval hfit n 0 _ G _ s₂.toks (Nat.sub_zero _) (Nat.zero_le _) S3 (hIs _ _ _ _ _ X3.kc (fun _ _ => rfl) I2) (upd_same ..) fun C' G' s' t S' K' R' => hQ C' G' s' t S' (fun d c e hp => K' d c ?_ hp) R'⟩
  have hd : d ≠ s₂.heap.objs.size := by rintro rfl; rw [hfree] at e; cases e
  unfold Mine.del
  rw [if_neg hd, upd_ne hd]; exact e
end
end Mine
end
section -- E3
open PySem PySem.W PySem.Calls PyProof.Rows
namespace Mine
example : hd.heap_39 = hd.heap_39 ∧ PySem.Challenge.rw_ez0179_01 = PySem.Challenge.rw_ez0179_01 := by k_fill; exact ⟨rfl, rfl⟩
theorem m_len (w : World) : findIn (hd.heap_39 w.params) (.ref 617) "__len__" = some (some (.ref 412)) := by kernel_rfl
theorem fn_412 (w : World) : isFn (hd.heap_39 w.params) (.ref 412) = true := by kernel_rfl
theorem m_iter (w : World) : findIn (hd.heap_39 w.params) (.ref 617) "__iter__" = some (some (.ref 398)) := by kernel_rfl
theorem fn_398 (w : World) : isFn (hd.heap_39 w.params) (.ref 398) = true := by kernel_rfl
theorem nb_iter (w : World) : nsIn (hd.heap_39 w.params) mainGlobals "iter" = some none := by kernel_rfl
theorem bi_iter : bootBuiltins "iter" = some (.builtin "iter") := by kernel_rfl

section
variable {p : Program} {loose : List Str} {mg mb : Str → Option Value}
  {w : World} {g : Heap} {L : Addr} {m : List (Str × Value)} {F : List (Addr × List (Str × Value))} {C : Led} {G : Array GenState} {O : OsState} {s : Shared} {A : Around} {E Q : Value → Shared → Prop}
  {a : GA} {dv ev : Option Value} {gk : List (Str × Value)} {σ : PS}

theorem Gr.inst (H : Gr C a dv ev gk σ) (S : St w g L m F C G O s) : ∃ o, InstAt s.heap a.x (instObj 617 a.dx) 617 (some o) := let ⟨o, I, _⟩ := inst_of S H.x H.dx; ⟨o, I⟩

theorem len_spec (S : St w g L m F C G O s) (D : Wd (hd.heap_39 w.params) p loose mg mb g) (hroom : A.depth + 5 < recursionLimit) (H : Gr C a dv ev gk σ) (W : σ.WF)
    (h : ∀ t s', St w g L m F C G O s' → Q (.int σ.nodes.length t) s') : wpAny (model PR w) A (call (.builtin "len") [.ref a.x]) Q E s := by
  obtain ⟨o, I⟩ := H.inst S
  obtain ⟨m₀, F₀⟩ := S.fr
  refine len_K F₀ D.X I (m_len w) (fn_412 w) ?_
  refine wpAny_call ?_
  refine' r_enter (binds := [(Str.ofString "self", .ref a.x)]) S D ?ho ?hcd ?room ?hb ?hl ?_ ?c1 ?c2 ?c3 ?c4
  case ho => k_is
  case hcd => k_is
  case room => show A.depth < _; omega
  case hb => exact .of_eq rfl
  case hl => exact locs rfl
  case c1 => rfl
  case c2 => rfl
  case c3 => rfl
  case c4 => decide
  intro L1 s1 S1
  obtain ⟨nk, en, hnd, hnk, _⟩ := H.nd
  have hl : nk.length ≤ 6 := by have := W.len; rw [← hnk, List.length_map] at this; exact this
  refine wpAny_execs_cons (wpAny_Return_some (r_bcall1 S1 D (nb_len w) bi_len (by decide) ?_))
  refine r_nattr S1 D rfl H.x H.dx (ok_node w) rfl rfl (fun s2 S2 => r_lenI S2 hnd (by omega) fun t s3 S3 => ?_)
  refine ⟨⟨by omega, by omega⟩, ?_⟩
  have e : (nk.length : Int) = (σ.nodes.length : Int) := by rw [← hnk, List.length_map]
  rw [e]
  exact h _ _ ((S.pop S3).toks _)

/-- iter(v), the builtin -/
theorem r_iterC {v : Value} (h : wpAny (model PR w) A.in1 (pyIter v) Q E s) : wpAny (model PR w) A (call (.builtin "iter") [v]) Q E s := by
  refine call_function_entry (by decide +kernel) (by decide +kernel) kdk_entry_iter (kdk_args_iter _) ?_
  unfold Builtin.«iter»
  refine wpAny_bind (m := someArgs "iter" 1 2 _) (wpAny_of_eq (a := [v]) (by first | rfl | kernel_rfl!) ?_)
  show wpAny _ _ (pyIter v >>= _) _ _ _
  exact wpAny_bind (wpAny_mono h (fun it s' hq => wpAny_pure ⟨_, rfl, hq⟩) fun _ _ e => e)

theorem iter_spec (S : St w g L m F C G O s) (D : Wd (hd.heap_39 w.params) p loose mg mb g) (hroom : A.depth + 5 < recursionLimit) (H : Gr C a dv ev gk σ) (W : σ.WF)
    (h : ∀ it nk en s', C it = none → C a.nd = some (.di .node nk en) → nk.map (·.1) = σ.nodes → St w g L m F (upd C it (.kit a.nd 0 nk.length en)) G O s' → Q (.ref it) s') : wpAny (model PR w) A (pyIter (.ref a.x)) Q E s := by
  obtain ⟨o, I⟩ := H.inst S
  obtain ⟨m₀, F₀⟩ := S.fr
  refine owit_iter F₀ D.X I (m_iter w) (fn_398 w) ?_
  refine wpAny_call ?_
  refine' r_enter (binds := [(Str.ofString "self", .ref a.x)]) S D ?ho ?hcd ?room ?hb ?hl ?_ ?c1 ?c2 ?c3 ?c4
  case ho => k_is
  case hcd => k_is
  case room => omega
  case hb => exact .of_eq rfl
  case hl => exact locs rfl
  case c1 => rfl
  case c2 => rfl
  case c3 => rfl
  case c4 => decide
  intro L1 s1 S1
  obtain ⟨nk, en, hnd, hnk, _⟩ := H.nd
  refine wpAny_execs_cons (wpAny_Return_some (r_bcall1 S1 D (nb_iter w) bi_iter (by decide) ?_))
  refine r_nattr S1 D rfl H.x H.dx (ok_node w) rfl rfl (fun s2 S2 => r_iterC (r_iterD S2 hnd fun it s3 hit S3 => ?_))
  unfold OwitIt
  refine wpAny_specialOf (T := "dict_keyiterator") ?_ PySem.F.slot_dict_keyiterator_next.lookup ?_
  · obtain ⟨o, ho, hc, _⟩ := S3.sat it _ (upd_same ..)
    exact ⟨o, ho, hc⟩
  · exact h it nk en _ hit hnd hnk (S.pop S3)

theorem hint_graph (S : St w g L m F C G O s) (D : Wd (hd.heap_39 w.params) p loose mg mb g) (hroom : A.depth + 5 < recursionLimit) (H : Gr C a dv ev gk σ) (W : σ.WF) {Q : Bool → Shared → Prop}
    (h : ∀ b s', St w g L m F C G O s' → Q b s') : wpAny (model PR w) A (Builtin.List.listLengthHint (.ref a.x)) Q E s := by
  obtain ⟨o, I⟩ := H.inst S
  unfold Builtin.List.listLengthHint
  refine wpAny_bind (wpAny_bind (I.type.here ((looks_findIn (D.X.keeps S.keep) (m_len w)).here ?_)))
  refine wpAny_ite_split (fun hab => absurd hab (by decide +kernel)) (fun _ => ?_)
  refine wpAny_ite_split (fun _ => ?_) (fun hab => absurd rfl hab)
  refine wpAny_bind (wpAny_rule ?_)
  refine wpAny_bind (wpAny_attempt (len_spec S D hroom H W fun t s1 S1 => ?_))
  have htl : Builtin.List.listTooLong ((σ.nodes.length : Int).toNat) = false := by have := W.len; simp [Builtin.List.listTooLong, sizeLine]; omega
  refine wpAny_bind (m := asInt? _) (wpAny_pure ?_)
  exact wpAny_ite_split (fun hab => absurd hab (by rw [htl]; decide)) (fun _ => wpAny_pure (h _ _ S1))

/-- list(graph) -/
theorem list_graph (S : St w g L m F C G O s) (D : Wd (hd.heap_39 w.params) p loose mg mb g) (hroom : A.depth + 5 < recursionLimit) (hh : A.handled = none) (H : Gr C a dv ev gk σ) (W : σ.WF)
    (h : ∀ l s' C' G' vs, St w g L m F C' G' O s' → GB G G' → Ext C C' → C' l = some (.lst vs) → IntsAre vs σ.nodes → Q (.ref l) s') :
    wpAny (model PR w) A (call (.type "list") [.ref a.x]) Q E s := by
  refine r_listOf hh S fun l s1 E' hl S1 => ?_
  have X1 := Ext.upd (c := .lst []) hl
  have H1 := H.ext X1
  obtain ⟨o, I⟩ := H1.inst S1
  have nx : a.x ≠ l := by rintro rfl; have := H.x; rw [hl] at this; cases this
  refine I.type.here ?_
  refine And.intro (fun q => by cases q) (And.intro (fun q => by cases q) (And.intro (fun q => nx (Value.ref.inj q)) ?_))
  refine iter_spec (A := A.in1.in1) S1 D hroom H1 W fun it nk en s2 hit hnd hnk S2 => ?_
  have X2 := Ext.upd (c := .kit a.nd 0 nk.length en) hit
  refine hint_graph (A := A.in1.in1) S2 D hroom (H1.ext X2) W fun b s3 S3 => ?_
  have hz : nk.length ≤ 6 := by have := W.len; rw [← hnk, List.length_map] at this; exact this
  have hCit : C it = none := by
    cases q : C it with
    | none => rfl
    | some c => rw [X1 _ _ q] at hit; cases hit
  have nl : l ≠ it := by rintro rfl; rw [upd_same] at hit; cases hit
  obtain ⟨nk', en', hnd', _⟩ := H.nd
  have nd : l ≠ a.nd := by rintro e; rw [← e, hl] at hnd'; cases hnd'
  refine ⟨it, Str.ofString "x", ⟨0, 0, 0, 0⟩, nk.length, 0, KeepsBut it, _, _, fun i C' G' ys => GB G G' ∧ (∀ b c, b ≠ it → b ≠ l → C b = some c → C' b = some c) ∧ IntsAre ys ((nk.map (·.1)).take i), _, _, rfl, iter_keysI .nm, (by omega), (by omega), S3, X2 _ _ (upd_same ..), ⟨upd_same .., X2 _ _ hnd⟩, ⟨.refl _, fun b c h1 h2 e => by rw [upd_ne h1, upd_ne h2]; exact e, .nil⟩, fun C1 C2 ys e k => k _ _ nl e, ?_, ?_⟩
  · intro i C3 G3 C4 G4 v ys hi hS hI ⟨j1, j2, j3⟩ hK hB hI' hP
    obtain ⟨k, u, t, hk, rfl⟩ := hP
    refine ⟨⟨by rw [upd_ne nl.symm]; exact hI'.1, by rw [upd_ne nd.symm]; exact hI'.2⟩, j1.trans hB, fun b c h1 h2 e => by rw [upd_ne h2]; exact hK _ _ h1 (j2 b c h1 h2 e), ?_⟩
    rw [List.take_add_one, List.getElem?_map, hk]
    exact ints_snoc j3 k t
  · intro C3 G3 C4 G4 s3 ys hI ⟨j1, j2, j3⟩ hK hB hS S3
    refine h l s3 C4 G4 ys S3 (j1.trans hB) (fun b c e => hK _ _ ?_ (j2 b c ?_ ?_ e)) hS ?_
    · rintro rfl; rw [hCit] at e; cases e
    · rintro rfl; rw [hCit] at e; cases e
    · rintro rfl; rw [hl] at e; cases e
    · rw [List.take_of_length_le (by simp), hnk] at j3; exact j3
end
end Mine
end
section -- E4
open PySem PySem.W PySem.Calls PyProof.Rows
namespace Mine
section
variable {w : World} {g : Heap} {L : Addr} {m : List (Str × Value)} {F : List (Addr × List (Str × Value))} {C : Led} {G : Array GenState} {O : OsState} {s : Shared}

/-- all that stands beside the ground and the frame, as the library's rows of the K layer want it -/
def allNews (g h : Heap) (L : Addr) : List (Addr × Obj) := (List.range h.objs.size).filterMap fun a => if a = L ∨ (g.get? a).isSome then none else (h.get? a).map fun o => (a, o)
theorem mem_allNews {g h : Heap} {L : Addr} {p : Addr × Obj} : p ∈ allNews g h L ↔ p.1 ≠ L ∧ g.get? p.1 = none ∧ h.get? p.1 = some p.2 := by
  unfold allNews
  rw [List.mem_filterMap]
  constructor
  · rintro ⟨a, ha, e⟩
    split at e
    · cases e
    · rename_i hn
      rw [not_or] at hn
      cases q : h.get? a with
      | none => rw [q] at e; cases e
      | some o =>
        rw [q] at e; cases e
        refine ⟨hn.1, ?_, q⟩
        cases z : g.get? a with
        | none => rfl
        | some o' => rw [z] at hn; exact absurd rfl hn.2
  · rintro ⟨h1, h2, h3⟩
    refine ⟨p.1, List.mem_range.mpr (Heap.lt_size h3), ?_⟩
    rw [if_neg (by rw [not_or]; exact ⟨h1, by rw [h2]; exact Bool.false_ne_true⟩), h3]; rfl
theorem allNews_ok {g h : Heap} {L : Addr} : News g L h (allNews g h L) := fun p hp => let ⟨h1, h2, h3⟩ := mem_allNews.mp hp; ⟨h3, h1, h2⟩

theorem St.pack (S : St w g L m F C G O s) : ∃ m₀, Fr g L s.heap m₀ ∧ ∀ x v, m.lookup x = some v → m₀ x = some v := let ⟨m₀, hn, hm⟩ := S.ns; ⟨m₀, ⟨hn, S.keep, S.ab.1⟩, hm⟩
/-- what is kept when all news are -/
theorem keep_of {g h h' : Heap} {L : Addr} {m₀ : Str → Option Value} {P : Addr → Prop} (S : ∀ b o, g.get? b = some o → h.get? b = some o) (F' : Fr g L h' m₀) (N' : ∀ p ∈ allNews g h L, ¬ P p.1 → h'.get? p.1 = some p.2) : ∀ b o, ¬ P b → b ≠ L → h.get? b = some o → h'.get? b = some o := fun b o hP hb e => by
  cases q : g.get? b with
  | some o' =>
    have := S b o' q
    rw [e] at this; cases this
    exact F'.keep b o q
  | none => exact N' (b, o) (mem_allNews.mpr ⟨hb, q, e⟩) hP
/-- one object changed, told by the rows of the K layer -/
theorem St.putN (S : St w g L m F C G O s) {s' : Shared} {a : Addr} {c₀ c : Cell} (ha : C a = some c₀) (hn : NsLe s'.heap L m) (hk : ∀ b o, b ≠ a → b ≠ L → s.heap.get? b = some o → s'.heap.get? b = some o) (hc : Sat w s'.heap a c) (hg : s'.gens = G) (ho : s'.os = O) (hlow : c.low = false → c₀.low = false := by intro h; first | rfl | exact h | cases h) :
    St w g L m F (upd C a c) G O s' := by
  obtain ⟨⟨n1, n4⟩, n2, n3⟩ := S.off a c₀ ha
  refine ⟨hn, fun b o e => hk b o (fun q => ?_) (fun q => ?_) (S.keep b o e), S.nl, fun p hp => ⟨(S.frs p hp).1.move fun o q => hk p.1 o (Ne.symm (n4 p hp)) (S.frs p hp).2.1 q, (S.frs p hp).2⟩, fun b d e => ?_, fun b d e => ?_, S.hi, hg, ho, S.ab⟩
  · rw [q, n2] at e; cases e
  · rw [q, S.nl] at e; cases e
  · by_cases hb : b = a
    · subst hb; rw [upd_same] at e; cases e; exact hc
    · rw [upd_ne hb] at e; exact (S.sat b d e).move fun o q => hk b o hb (S.off b d e).1.1 q
  · by_cases hb : b = a
    · subst hb; rw [upd_same] at e; cases e; exact ⟨⟨n1, n4⟩, n2, fun h => n3 (hlow h)⟩
    · rw [upd_ne hb] at e; exact S.off b d e
/-- nothing changed but the frame's dict, which tells the same -/
theorem St.grownN (S : St w g L m F C G O s) {s' : Shared} (hn : NsLe s'.heap L m) (hk : ∀ b o, b ≠ L → s.heap.get? b = some o → s'.heap.get? b = some o) (hg : s'.gens = G) (ho : s'.os = O) : St w g L m F C G O s' :=
  ⟨hn, fun b o e => hk b o (fun q => by rw [q, S.nl] at e; cases e) (S.keep b o e), S.nl, fun p hp => ⟨(S.frs p hp).1.move fun o q => hk p.1 o (S.frs p hp).2.1 q, (S.frs p hp).2⟩,
    fun a c e => (S.sat a c e).move fun o q => hk a o (S.off a c e).1.1 q, S.off, S.hi, hg, ho, S.ab⟩
end

section
variable {K : Frag} {p : Program} {loose : List Str} {mg mb : Str → Option Value}
  {w : World} {g : Heap} {L : Addr} {m : List (Str × Value)} {F : List (Addr × List (Str × Value))} {C : Led} {G : Array GenState} {O : OsState} {s : Shared} {A : Around} {E : Value → Shared → Prop}

theorem putName_size (name : Str) (hs : Int) (key v : Value) {o : Obj} {es es' : Array DictEntry} {ep ep' : Nat} (hd : o.data = .dict es ep) (hd' : (Obj.putName name hs key v o).data = .dict es' ep') : es'.size ≤ es.size + 1 := by
  obtain ⟨c, d, dt, sl⟩ := o
  dsimp only at hd; subst hd
  rw [Obj.putName_eq] at hd'
  unfold Obj.putNameByArray at hd'
  dsimp only at hd'
  cases hi : es.findIdx? (·.key.isStr name) with
  | some i => rw [hi] at hd'; dsimp only at hd'; cases hd'; simp
  | none => rw [hi] at hd'; dsimp only at hd'; cases hd'; simp

/-- x.name = v, x an object that keeps it in its own dict -/
theorem r_setattr {xa dx cls : Addr} {f : Str → Option Value} {nf : Nat} {name : Str} {v : Value} {Q : Unit → Shared → Prop} (S : St w g L m F C G O s) (D : Wd K p loose mg mb g) (h1 : C xa = some (.obj (instObj cls dx))) (h2 : C dx = some (.sm f nf false))
    (hs : findIn K (.ref cls) "__setattr__" = some (some (.builtin "object.__setattr__"))) (hp : plainOver K cls = true) (ht : takerIn K cls name = some none) (hh : hasDictIn K cls = true)
    (hz : nf ≤ 900)
    (h : ∀ s', St w g L m F (upd C dx (.sm (fun y => if y = name then some v else f y) (nf + 1) false)) G O s' → Q () s') : wpAny (model PR w) A (setAttr (.ref xa) name v) Q E s := by
  obtain ⟨o, es, ep, ho, hc, hd, hk, hf, hsz⟩ := id (S.sat dx _ h2)
  obtain ⟨m₀, F₀, hm⟩ := S.pack
  have ol := look_of_map (S.sat dx _ h2)
  obtain ⟨o', ho', hl⟩ := ol
  rw [ho] at ho'; cases ho'
  have eo : o = dictOf es.toList ep := by
    obtain ⟨c, d, dt, sl⟩ := o
    obtain ⟨rfl, rfl, rfl⟩ := hc
    dsimp only at hd; subst hd; rfl
  have N0 : News g L s.heap ([] ++ (dx, o) :: (allNews g s.heap L).filter (fun p => p.1 ≠ dx)) := fun q hq => by
    rcases List.mem_cons.mp hq with rfl | hq
    · exact ⟨ho, (S.off dx _ h2).1.1, (S.off dx _ h2).2.1⟩
    · exact allNews_ok q (List.mem_filter.mp hq).1
  have I : InstAt s.heap xa (instObj cls dx) cls (some o) := ⟨S.sat xa _ h1, rfl, rfl, ho⟩
  refine set_plain (D.X.keeps S.keep) I hs ?_
  refine osa_dict (s := { s with toks := s.toks + 1 }) (pre := []) (od' := Obj.putName name (PyData.keyHash w.params name) (.str name (s.toks + 1)) v o) F₀ N0 (D.X.keeps S.keep) I rfl hp ht hh (by rw [hl]; rfl) (fun _ h => nomatch h) (fun q hq => by simpa using (List.mem_filter.mp hq).2) rfl
    (by rw [eo, putName_dict]) ?_ fun h' F' N' => ?_
  · have := putName_size name (PyData.keyHash w.params name) (.str name (s.toks + 1)) v (o := o) (es' := (putL name (PyData.keyHash w.params name) (.str name (s.toks + 1)) v es.toList).toArray) (ep' := putN name es.toList ep) hd (by rw [eo, putName_dict])
    simp at this; omega
  · refine h _ (S.putN h2 ⟨m₀, F'.ns, hm⟩ (fun b ob hb hbL e => keep_of (P := fun b => b = dx) S.keep F' (fun q hq hqn => (N' q (List.mem_cons_of_mem _ (List.mem_filter.mpr ⟨hq, by simpa using hqn⟩))).1) b ob hb hbL e) ?_ S.gens S.os)
    have hget := (N' _ (.head _)).1
    dsimp only at hget
    clear N0 N' I eo hl
    have hsz' : ∀ es2 ep2, (Obj.putName name (PyData.keyHash w.params name) (.str name (s.toks + 1)) v o).data = .dict es2 ep2 → es2.size ≤ nf + 1 := fun es2 ep2 g2 => Nat.le_trans (putName_size _ _ _ _ hd g2) (by omega)
    obtain ⟨cl, dd, dt, sl⟩ := o
    dsimp only at hd
    subst hd
    cases hi : es.findIdx? (·.key.isStr name) with
    | some i =>
      refine ⟨_, _, ep, hget, by simp only [Obj.putName_eq, Obj.putNameByArray, hi]; exact hc, by simp only [Obj.putName_eq, Obj.putNameByArray, hi]; rfl, hk.modify _ _, fun y => ?_, hsz' _ ep (by simp only [Obj.putName_eq, Obj.putNameByArray, hi])⟩
      show _ = if y = name then some v else f y
      rw [← hf]; exact findBy_modify _ (strKind PR w).inj es name y v i (by rw [is_eq]; exact hi)
    | none =>
      refine ⟨_, _, ep + 1, hget, by simp only [Obj.putName_eq, Obj.putNameByArray, hi]; exact hc, by simp only [Obj.putName_eq, Obj.putNameByArray, hi]; rfl, ?_, fun y => ?_, hsz' _ (ep + 1) (by simp only [Obj.putName_eq, Obj.putNameByArray, hi])⟩
      · exact hk.push (k := name) (strKind_is PR w name (s.toks + 1)) v
      · show _ = if y = name then some v else f y
        rw [← hf]
        exact findBy_push _ es name y _ _ v (KeyKind.is_eq_decide (strKind_is PR w name (s.toks + 1))) (by rw [is_eq]; exact hi)
end
end Mine
end
section -- E5
open PySem PySem.W PySem.Calls PyProof.Rows
namespace Mine
example : hd.heap_39 = hd.heap_39 ∧ PySem.Challenge.rw_ez0179_01 = PySem.Challenge.rw_ez0179_01 := by k_fill; exact ⟨rfl, rfl⟩
theorem args_hasattr (a b : Value) : argsOk "hasattr" ⟨[a, b], []⟩ := by unfold argsOk; kernel_rfl
theorem entry_hasattr : entryFor table "hasattr" = some Builtin.«hasattr» := entryFor_of_tree (by kernel_rfl)
section
variable {K : Frag} {p : Program} {loose : List Str} {mg mb : Str → Option Value}
  {w : World} {g : Heap} {L : Addr} {m : List (Str × Value)} {F : List (Addr × List (Str × Value))} {C : Led} {G : Array GenState} {O : OsState} {s : Shared} {A : Around} {E Q : Value → Shared → Prop}

theorem hasattr_no {xa dx cls : Addr} {f : Str → Option Value} {nf : Nat} {hot : Bool} {name : Str} {t : Tok} (S : St w g L m F C G O s) (D : Wd K p loose mg mb g) (hh : A.handled = none) (h1 : C xa = some (.obj (instObj cls dx))) (h2 : C dx = some (.sm f nf hot))
    (hga : findIn K (.ref cls) "__getattribute__" = some (some (.builtin "object.__getattribute__"))) (hgt : findIn K (.ref cls) "__getattr__" = some none)
    (hf : ∀ o, (∀ n, lookIn n o = some (f n)) → findObj K cls (some o) name = some .missing) (hmod : mroIn K cls (.type "module") = some false)
    (hcn : (clsIn K cls).any (fun cd => cd.name == Str.ofString "Graph") = true) (hnm : name.length ≤ 50)
    (h : ∀ s', St w g L m F C G O s' → Q (.bool false) s') : wpAny (model PR w) A (call (.builtin "hasattr") [.ref xa, .str name t]) Q E s := by
  obtain ⟨o, I, hl⟩ := inst_of S h1 h2
  have X := D.X.keeps S.keep
  refine call_function_entry (by decide +kernel) (by decide +kernel) entry_hasattr (args_hasattr _ _) ?_
  unfold Builtin.«hasattr»
  refine wpAny_bind (m := someArgs "hasattr" 2 2 _) (wpAny_of_eq (a := [Value.ref xa, Value.str name t]) (by first | rfl | kernel_rfl!) ?_)
  dsimp only
  refine wpAny_bind (wpAny_of_eq (a := ()) rfl ?_)
  refine wpAny_ite_split (fun hab => absurd hab (by simp)) (fun _ => ?_)
  refine wpAny_bind (I.type.here ?_)
  dsimp only
  refine wpAny_bind ?_
  wp_delta
  refine wpAny_bind (wpAny_of_eq (a := some name) rfl ?_)
  dsimp only
  refine wpAny_bind ((show Looks (model PR w) s.heap (isInstance (.ref xa) (.type "module")) false from I.type.andThen (looks_mroIn X hmod)).here ?_)
  refine wpAny_ite_split (fun _ => ?_) (fun hab => absurd rfl hab)
  refine wpAny_pure ?_
  refine wpAny_ite_split (fun hab => absurd hab (by decide)) (fun _ => ?_)
  unfold getAttrBy? getAttrBy
  refine wpAny_bind (wpAny_bind (wpAny_attempt ?_))
  refine wpAny_holding (wpAny_bind (I.type.here (wpAny_bind ((looks_findIn X hga).here ?_))))
  show wpAny _ _ (getAttrEveryday _ _ _) _ _ _
  refine wpAny_bind (wpAny_onRaise (wpAny_runValue (codeAny_builtin PySem.F.plainObj_entry_getattr_hooked ?_)))
  unfold Builtin.«proto.getattr_hooked»
  dsimp only
  refine wpAny_bind (wpAny_of_eq (a := name) rfl ?_)
  refine wpAny_bind (I.type.here (wpAny_bind ((looks_find X I (hf o hl)).here ?_)))
  dsimp only
  refine wpAny_bind ((looks_findIn X hgt).here ?_)
  show wpAny _ _ (Builtin.ObjectAttr.noSuchAttribute (.ref xa) name) _ _ _
  unfold Builtin.ObjectAttr.noSuchAttribute typeNameOfCut shownTypeOf
  refine wpAny_bind (wpAny_bind (wpAny_bind (I.type.here ?_)))
  refine wpAny_ite_split (fun hab => absurd hab (by simp)) (fun _ => ?_)
  refine wpAny_pure ?_
  unfold typeNameCut
  cases hcd : clsIn K cls with
  | none => rw [hcd] at hcn; cases hcn
  | some cd =>
    rw [hcd] at hcn
    have hcn : cd.name = Str.ofString "Graph" := eq_of_beq hcn
    refine wpAny_bind ((looks_clsIn X hcd).here ?_)
    rw [hcn]
    refine wpAny_ite_split (fun _ => wpAny_pure ?_) (fun hab => absurd (by decide +kernel) hab)
    refine wpAny_raiseAttrError hh (fun h' tk e hx => ?_) ?_
    · have S1 : St w g L m F C G O { s with heap := h', toks := tk } := S.grown hx.keeps S.gens S.os
      obtain ⟨t', u', he⟩ := hx.there
      refine wpAny_pure ?_
      refine wpAny_bind (wpAny_isInstance (T := "AttributeError") ⟨_, he, rfl⟩ sub_AttributeError ?_)
      refine wpAny_ite_split (fun _ => wpAny_pure ?_) (fun hab => absurd rfl hab)
      refine wpAny_ite_split (fun hab => absurd hab (by decide)) (fun _ => ?_)
      exact wpAny_pure ⟨_, rfl, h _ S1⟩
    · have e1 : ((toString "'" ++ toString (Str.ofString "Graph").toString ++ toString "' object has no attribute '" : String) : Str).length ≤ 60 := by decide +kernel
      have e2 : (Str.ofString "'").length = 1 := by decide +kernel
      rw [strLen_append, strLen_append, sizeLine_eq]
      omega
end
end Mine
end
section -- E6
open PySem PySem.W PySem.Calls PyProof.Rows
namespace Mine
section
variable {K : Frag} {p : Program} {loose : List Str} {mg mb : Str → Option Value}
  {w : World} {g : Heap} {L : Addr} {m : List (Str × Value)} {F : List (Addr × List (Str × Value))} {C : Led} {G : Array GenState} {O : OsState} {s : Shared} {A : Around} {E Q : Value → Shared → Prop}

abbrev mk (A : Around) (cls : Addr) (rest : List Value) (kw : List (Str × Value)) : Around := A.under (.builtin "type.__call__" ⟨.ref cls :: rest, kw⟩)
theorem mk_handled (A : Around) (cls : Addr) (rest : List Value) (kw : List (Str × Value)) : (mk A cls rest kw).handled = A.handled := rfl
theorem mk_depth (A : Around) (cls : Addr) (rest : List Value) (kw : List (Str × Value)) : (mk A cls rest kw).depth = A.depth + 1 := rfl
theorem mk_frames (A : Around) (cls : Addr) (rest : List Value) (kw : List (Str × Value)) : (mk A cls rest kw).frames = A.frames := rfl
theorem r_make {cls fI : Addr} {rest : List Value} {kw : List (Str × Value)} {R : Result → Shared → Prop} (S : St w g L m F C G O s) (D : Wd K p loose mg mb g) (hm : makesIn K cls = true) (hi : findIn K (.ref cls) "__init__" = some (some (.ref fI))) (hf : isFn K (.ref fI) = true)
    (h : ∀ x dx s', C x = none → C dx = none → x ≠ dx → St w g L m F (upd (upd C dx (.sm (fun _ => none) 0 false)) x (.obj (instObj cls dx))) G O s' →
      codeAny (model PR w) (mk A cls rest kw) (.call (.ref fI) ⟨.ref x :: rest, kw⟩) (InitBack x R) s') : codeAny (model PR w) A (.call (.ref cls) ⟨rest, kw⟩) R s := by
  have X := D.X.keeps S.keep
  have e : s = ⟨s.heap, s.gens, s.drawn, s.toks, s.os⟩ := rfl
  rw [e]
  refine make_core (makes_of X hm) (looks_findIn X hi) (fun self => bind_fn X self (beq_iff_eq.mp hf)) (.inl rfl) ?_
  have S1 : St w g L m F (upd C s.heap.objs.size (.sm (fun _ => none) 0 false)) G O { s with heap := s.heap.push emptyDict } :=
    S.push (t := s.toks) ⟨_, #[], 0, Heap.get?_push_size _ rfl, ⟨rfl, rfl, rfl⟩, rfl, fun _ he => by simp at he, fun _ => rfl, Nat.le_refl _⟩
  have S2 := S1.push (o := instObj cls s.heap.objs.size) (t := s.toks) (c := .obj (instObj cls s.heap.objs.size)) (Heap.get?_push_size _ rfl)
  have hsz : (s.heap.push emptyDict).objs.size = s.heap.objs.size + 1 := Heap.size_push ..
  rw [hsz] at S2
  exact h _ _ _ (S.freeLe (Nat.le_succ _)) S.free (Nat.succ_ne_self _) S2
end
end Mine
end
section -- E7
open PySem PySem.W PySem.Calls PyProof.Rows
namespace Mine
example : hd.heap_39 = hd.heap_39 ∧ PySem.Challenge.rw_ez0179_01 = PySem.Challenge.rw_ez0179_01 := by k_fill; exact ⟨rfl, rfl⟩
theorem mk_617 (w : World) : makesIn (hd.heap_39 w.params) 617 = true := by kernel_rfl
theorem m_init (w : World) : findIn (hd.heap_39 w.params) (.ref 617) "__init__" = some (some (.ref 381)) := by kernel_rfl
theorem fn_381 (w : World) : isFn (hd.heap_39 w.params) (.ref 381) = true := by kernel_rfl
theorem m_373 (w : World) : findIn (hd.heap_39 w.params) (.ref 617) "graph_attr_dict_factory" = some (some (.ref 373)) := by kernel_rfl
theorem m_338 (w : World) : findIn (hd.heap_39 w.params) (.ref 617) "node_dict_factory" = some (some (.ref 338)) := by kernel_rfl
theorem m_352 (w : World) : findIn (hd.heap_39 w.params) (.ref 617) "adjlist_outer_dict_factory" = some (some (.ref 352)) := by kernel_rfl
theorem fn_373 (w : World) : isFn (hd.heap_39 w.params) (.ref 373) = true := by kernel_rfl
theorem fn_338 (w : World) : isFn (hd.heap_39 w.params) (.ref 338) = true := by kernel_rfl
theorem fn_352 (w : World) : isFn (hd.heap_39 w.params) (.ref 352) = true := by kernel_rfl
theorem kp_373 (w : World) : keepIn (hd.heap_39 w.params) (.ref 373) = true := by kernel_rfl
theorem kp_338 (w : World) : keepIn (hd.heap_39 w.params) (.ref 338) = true := by kernel_rfl
theorem kp_352 (w : World) : keepIn (hd.heap_39 w.params) (.ref 352) = true := by kernel_rfl
theorem sa_617 (w : World) : findIn (hd.heap_39 w.params) (.ref 617) "__setattr__" = some (some (.builtin "object.__setattr__")) := by kernel_rfl
theorem po_617 (w : World) : plainOver (hd.heap_39 w.params) 617 = true := by kernel_rfl
theorem hd_617 (w : World) : hasDictIn (hd.heap_39 w.params) 617 = true := by kernel_rfl
theorem tk_graph (w : World) : takerIn (hd.heap_39 w.params) 617 "graph" = some none := by kernel_rfl
theorem tk_node (w : World) : takerIn (hd.heap_39 w.params) 617 "_node" = some none := by kernel_rfl
theorem tk_adj (w : World) : takerIn (hd.heap_39 w.params) 617 "_adj" = some none := by kernel_rfl

section
variable {p : Program} {loose : List Str} {mg mb : Str → Option Value}
  {w : World} {g : Heap} {L : Addr} {m : List (Str × Value)} {F : List (Addr × List (Str × Value))} {C : Led} {G : Array GenState} {O : OsState} {s : Shared} {A : Around} {E Q : Value → Shared → Prop}

theorem call_373 (tg : Tag) (S : St w g L m F C G O s) (D : Wd (hd.heap_39 w.params) p loose mg mb g) (hroom : A.depth < recursionLimit) {x : Value}
    (h : ∀ d s', C d = none → St w g L m F (upd C d (.ds tg [] 0)) G O s' → Q (.ref d) s') : wpAny (model PR w) A (call (.ref 373) [x]) Q E s := by
  refine' call_factoryS tg S D ?ho ?hcd hroom ?hb ?hl ?c1 ?c2 ?c3 ?c4 h
  case ho => k_is
  case hcd => k_is
  case hb => exact rfl
  case hl => exact locs rfl
  case c1 => rfl
  case c2 => rfl
  case c3 => rfl
  case c4 => decide
theorem call_338 (tg : Tag) (S : St w g L m F C G O s) (D : Wd (hd.heap_39 w.params) p loose mg mb g) (hroom : A.depth < recursionLimit) {x : Value}
    (h : ∀ d s', C d = none → St w g L m F (upd C d (.di tg [] 0)) G O s' → Q (.ref d) s') : wpAny (model PR w) A (call (.ref 338) [x]) Q E s := by
  refine' call_factoryI tg S D ?ho ?hcd hroom ?hb ?hl ?c1 ?c2 ?c3 ?c4 h
  case ho => k_is
  case hcd => k_is
  case hb => exact rfl
  case hl => exact locs rfl
  case c1 => rfl
  case c2 => rfl
  case c3 => rfl
  case c4 => decide
theorem call_352 (tg : Tag) (S : St w g L m F C G O s) (D : Wd (hd.heap_39 w.params) p loose mg mb g) (hroom : A.depth < recursionLimit) {x : Value}
    (h : ∀ d s', C d = none → St w g L m F (upd C d (.di tg [] 0)) G O s' → Q (.ref d) s') : wpAny (model PR w) A (call (.ref 352) [x]) Q E s := by
  refine' call_factoryI tg S D ?ho ?hcd hroom ?hb ?hl ?c1 ?c2 ?c3 ?c4 h
  case ho => k_is
  case hcd => k_is
  case hb => exact rfl
  case hl => exact locs rfl
  case c1 => rfl
  case c2 => rfl
  case c3 => rfl
  case c4 => decide

/-- d.pop(k, v), k not there -/
theorem r_popNo {d : Addr} {tg : Tag} {kvs : List (Str × Value)} {ep : Nat} {k : Str} {t : Tok} {v : Value} (S : St w g L m F C G O s) (hd : C d = some (.ds tg kvs ep)) (hv : valueAt kvs k = none) (h : ∀ s', St w g L m F C G O s' → Q v s') :
    wpAny (model PR w) A (call (.builtin "dict.pop") [.ref d, .str k t, v]) Q E s :=
  call_meetsIn PySem.F.slot_dict_pop (S.dictS hd).typeIs PySem.F.entry_dict_pop (PySem.F.args_dict_pop_3 _ _ _) (meets_dict_pop_default (strKind PR w) d (strKind_is PR w k t) (S.notMods hd) rfl v) ⟨kvs, S.dictS hd, hv, h _ (S.toks _)⟩

def σ₀ : PS := ⟨[], [], fun _ => [], fun _ _ => 0, fun _ _ => (0, none)⟩

theorem new_graph_spec (S : St w g L m F C G O s) (D : Wd (hd.heap_39 w.params) p loose mg mb g) (hroom : A.depth + 8 < recursionLimit) (htb : (∃ ps, C 230 = some (.tab ps)) ∧ ∃ ps, C 601 = some (.tab ps)) {k : Int} {t : Tok}
    (h : ∀ s' C' a, St w g L m F C' G O s' → Gr C' a none none [(Str.ofString "k", .int k t)] σ₀ → Ext C C' → Q (.ref a.x) s') :
    wpAny (model PR w) A (call (.ref 617) [] [(Str.ofString "k", .int k t)]) Q E s := by
  refine wpAny_call (r_make S D (mk_617 w) (m_init w) (fn_381 w) fun x dx s1 hx hdx hne S1 => ?_)
  refine' r_enterKw (ex := [(Str.ofString "k", .int k t)]) (front := [(Str.ofString "self", .ref x), (Str.ofString "incoming_graph_data", .none)]) (nm := Str.ofString "attr") S1 D ?ho ?hcd ?room ?hp ?hk ?hn ?hloc ?_ ?c1 ?c2 ?c3 ?c4
  case ho => k_is
  case hcd => k_is
  case room => show A.depth + 1 < _; omega
  case hp => exact rfl
  case hk => exact fun _ => rfl
  case hn => exact List.nodup_cons.mpr ⟨by simp, List.nodup_nil⟩
  case hloc => exact fun _ => locs rfl
  case c1 => rfl
  case c2 => rfl
  case c3 => rfl
  case c4 => decide
  intro da ep L2 s2 hda S2
  have X2 : Ext C (upd (upd (upd C dx (.sm (fun _ => none) 0 false)) x (.obj (instObj 617 dx))) da (.ds .none [(Str.ofString "k", .int k t)] ep)) :=
    ((Ext.upd hdx).trans (Ext.upd (by rw [upd_ne hne]; exact hx))).trans (Ext.upd hda)
  have cx : upd (upd (upd C dx (.sm (fun _ => none) 0 false)) x (.obj (instObj 617 dx))) da (.ds .none [(Str.ofString "k", .int k t)] ep) x = some (.obj (instObj 617 dx)) := upd_old (upd_same ..) hda
  have cdx : upd (upd (upd C dx (.sm (fun _ => none) 0 false)) x (.obj (instObj 617 dx))) da (.ds .none [(Str.ofString "k", .int k t)] ep) dx = some (.sm (fun _ => none) 0 false) := upd_old (by rw [upd_ne (Ne.symm hne)]; exact upd_same ..) hda
  have cda : upd (upd (upd C dx (.sm (fun _ => none) 0 false)) x (.obj (instObj 617 dx))) da (.ds .none [(Str.ofString "k", .int k t)] ep) da = some (.ds .none [(Str.ofString "k", .int k t)] ep) := upd_same ..
  generalize upd (upd (upd C dx (.sm (fun _ => none) 0 false)) x (.obj (instObj 617 dx))) da (.ds .none [(Str.ofString "k", .int k t)] ep) = C2 at S2 X2 cx cdx cda
  clear S1 hda
  have hr : (mk A 617 [] [(Str.ofString "k", Value.int k t)]).depth + 1 < recursionLimit := by show A.depth + 1 + 1 < _; omega
  -- the three fields
  refine wpAny_execs_cons (plainObj_wpAny_Assign_Attribute (hs := rfl) ?_)
  refine r_mcall0 S2 D rfl cx cdx (pl_617 w _) (m_373 w) (fn_373 w) (kp_373 w) rfl ?_
  refine call_373 .gattr S2 D hr fun gr s3 hgr S3 => r_loc S3 rfl ?_
  have X3 := Ext.upd (c := .ds .gattr [] 0) hgr
  have cgr := upd_same C2 gr (.ds .gattr [] 0)
  refine r_setattr S3 D (X3 _ _ cx) (X3 _ _ cdx) (sa_617 w) (po_617 w) (tk_graph w) (hd_617 w) (by omega) fun s4 S4 => ?_
  have nx : x ≠ dx := hne
  have cx4 := (upd_ne (c := .sm (fun y => if y = Str.ofString "graph" then some (.ref gr) else none) 1 false) nx).trans (X3 _ _ cx)
  have cda4 := (upd_ne (c := .sm (fun y => if y = Str.ofString "graph" then some (.ref gr) else none) 1 false) (ne_of_cells (X3 _ _ cda) (X3 _ _ cdx) (by intro q; cases q))).trans (X3 _ _ cda)
  have cgr4 := (upd_ne (c := .sm (fun y => if y = Str.ofString "graph" then some (.ref gr) else none) 1 false) (ne_of_cells cgr (X3 _ _ cdx) (by intro q; cases q))).trans cgr
  have cdx4 := upd_same (upd C2 gr (.ds .gattr [] 0)) dx (.sm (fun y => if y = Str.ofString "graph" then some (.ref gr) else none) 1 false)
  have X4 : ∀ b c, C b = some c → b ≠ dx → upd (upd C2 gr (.ds .gattr [] 0)) dx (.sm (fun y => if y = Str.ofString "graph" then some (.ref gr) else none) 1 false) b = some c := fun b c e h => by rw [upd_ne h]; exact X3 _ _ (X2 _ _ e)
  generalize upd (upd C2 gr (.ds .gattr [] 0)) dx (.sm (fun y => if y = Str.ofString "graph" then some (.ref gr) else none) 1 false) = C4 at S4 cx4 cda4 cgr4 cdx4 X4
  refine wpAny_execs_cons (plainObj_wpAny_Assign_Attribute (hs := rfl) ?_)
  refine r_mcall0 S4 D rfl cx4 cdx4 (pl_617 w _) (m_338 w) (fn_338 w) (kp_338 w) rfl ?_
  refine call_338 .node S4 D hr fun nd s5 hnd S5 => r_loc S5 rfl ?_
  have X5 := Ext.upd (c := .di .node [] 0) hnd
  have cnd := upd_same C4 nd (.di .node [] 0)
  refine r_setattr S5 D (X5 _ _ cx4) (X5 _ _ cdx4) (sa_617 w) (po_617 w) (tk_node w) (hd_617 w) (by omega) fun s6 S6 => ?_
  have f6 : (fun y => if y = Str.ofString "_node" then some (Value.ref nd) else if y = Str.ofString "graph" then some (.ref gr) else none) = (fun y => if y = Str.ofString "_node" then some (Value.ref nd) else if y = Str.ofString "graph" then some (.ref gr) else none) := rfl
  have cx6 := (upd_ne (c := .sm (fun y => if y = Str.ofString "_node" then some (Value.ref nd) else if y = Str.ofString "graph" then some (.ref gr) else none) 2 false) nx).trans (X5 _ _ cx4)
  have cda6 := (upd_ne (c := .sm (fun y => if y = Str.ofString "_node" then some (Value.ref nd) else if y = Str.ofString "graph" then some (.ref gr) else none) 2 false) (ne_of_cells (X5 _ _ cda4) (X5 _ _ cdx4) (by intro q; cases q))).trans (X5 _ _ cda4)
  have cgr6 := (upd_ne (c := .sm (fun y => if y = Str.ofString "_node" then some (Value.ref nd) else if y = Str.ofString "graph" then some (.ref gr) else none) 2 false) (ne_of_cells (X5 _ _ cgr4) (X5 _ _ cdx4) (by intro q; cases q))).trans (X5 _ _ cgr4)
  have cnd6 := (upd_ne (c := .sm (fun y => if y = Str.ofString "_node" then some (Value.ref nd) else if y = Str.ofString "graph" then some (.ref gr) else none) 2 false) (ne_of_cells cnd (X5 _ _ cdx4) (by intro q; cases q))).trans cnd
  have cdx6 := upd_same (upd C4 nd (.di .node [] 0)) dx (.sm (fun y => if y = Str.ofString "_node" then some (Value.ref nd) else if y = Str.ofString "graph" then some (.ref gr) else none) 2 false)
  have X6 : ∀ b c, C b = some c → b ≠ dx → upd (upd C4 nd (.di .node [] 0)) dx (.sm (fun y => if y = Str.ofString "_node" then some (Value.ref nd) else if y = Str.ofString "graph" then some (.ref gr) else none) 2 false) b = some c := fun b c e h => by rw [upd_ne h]; exact X5 _ _ (X4 _ _ e h)
  generalize upd (upd C4 nd (.di .node [] 0)) dx (.sm (fun y => if y = Str.ofString "_node" then some (Value.ref nd) else if y = Str.ofString "graph" then some (.ref gr) else none) 2 false) = C6 at S6 cx6 cda6 cgr6 cnd6 cdx6 X6
  refine wpAny_execs_cons (plainObj_wpAny_Assign_Attribute (hs := rfl) ?_)
  refine r_mcall0 S6 D rfl cx6 cdx6 (pl_617 w _) (m_352 w) (fn_352 w) (kp_352 w) rfl ?_
  refine call_352 .adj S6 D hr fun ad s7 had S7 => r_loc S7 rfl ?_
  have X7 := Ext.upd (c := .di .adj [] 0) had
  have cad := upd_same C6 ad (.di .adj [] 0)
  refine r_setattr S7 D (X7 _ _ cx6) (X7 _ _ cdx6) (sa_617 w) (po_617 w) (tk_adj w) (hd_617 w) (by omega) fun s8 S8 => ?_
  have ef : (fun y => if y = Str.ofString "_adj" then some (Value.ref ad) else if y = Str.ofString "_node" then some (Value.ref nd) else if y = Str.ofString "graph" then some (.ref gr) else none) = gf ⟨x, dx, gr, nd, ad⟩ none none := by
    funext y
    unfold gf
    by_cases h1 : y = Str.ofString "graph"
    · subst h1
      rw [if_neg (by decide), if_neg (by decide), if_pos rfl]
      exact (if_pos rfl).symm
    · by_cases h2 : y = Str.ofString "_node"
      · subst h2
        rw [if_neg (by decide), if_pos rfl]
        rw [show (if Str.ofString "_node" = "graph" then some (Value.ref gr) else _) = _ from if_neg (by decide)]
        exact (if_pos rfl).symm
      · by_cases h3 : y = Str.ofString "_adj"
        · subst h3
          rw [if_pos rfl]
          rw [show (if Str.ofString "_adj" = "graph" then some (Value.ref gr) else _) = _ from if_neg (by decide)]
          rw [show (if Str.ofString "_adj" = "_node" then some (Value.ref nd) else _) = _ from if_neg (by decide)]
          exact (if_pos rfl).symm
        · rw [if_neg h3, if_neg h2, if_neg h1]
          rw [if_neg h1, if_neg h2, if_neg h3]
          split
          · rfl
          · split <;> rfl
  rw [ef] at S8
  have cx8 := (upd_ne (c := .sm (gf ⟨x, dx, gr, nd, ad⟩ none none) (2 + 1) false) nx).trans (X7 _ _ cx6)
  have cda8 := (upd_ne (c := .sm (gf ⟨x, dx, gr, nd, ad⟩ none none) (2 + 1) false) (ne_of_cells (X7 _ _ cda6) (X7 _ _ cdx6) (by intro q; cases q))).trans (X7 _ _ cda6)
  have cgr8 := (upd_ne (c := .sm (gf ⟨x, dx, gr, nd, ad⟩ none none) (2 + 1) false) (ne_of_cells (X7 _ _ cgr6) (X7 _ _ cdx6) (by intro q; cases q))).trans (X7 _ _ cgr6)
  have cnd8 := (upd_ne (c := .sm (gf ⟨x, dx, gr, nd, ad⟩ none none) (2 + 1) false) (ne_of_cells (X7 _ _ cnd6) (X7 _ _ cdx6) (by intro q; cases q))).trans (X7 _ _ cnd6)
  have cad8 := (upd_ne (c := .sm (gf ⟨x, dx, gr, nd, ad⟩ none none) (2 + 1) false) (ne_of_cells cad (X7 _ _ cdx6) (by intro q; cases q))).trans cad
  have cdx8 := upd_same (upd C6 ad (.di .adj [] 0)) dx (.sm (gf ⟨x, dx, gr, nd, ad⟩ none none) (2 + 1) false)
  have X8 : ∀ b c, C b = some c → b ≠ dx → upd (upd C6 ad (.di .adj [] 0)) dx (.sm (gf ⟨x, dx, gr, nd, ad⟩ none none) (2 + 1) false) b = some c := fun b c e h => by rw [upd_ne h]; exact X7 _ _ (X6 _ _ e h)
  generalize upd (upd C6 ad (.di .adj [] 0)) dx (.sm (gf ⟨x, dx, gr, nd, ad⟩ none none) (2 + 1) false) = C8 at S8 cx8 cda8 cgr8 cnd8 cad8 cdx8 X8
  have Xx : Ext C C8 := fun b c e => X8 b c e (by rintro rfl; rw [hdx] at e; cases e)
  -- attr.pop, self.graph.update
  refine wpAny_execs_cons (wpAny_Expr (hi := rfl) (hs := rfl) (MethodCall_ (he := rfl) (r_loc S8 rfl ?_)))
  refine r_methD S8 cda8 (.inr (.inl ⟨_, _, _, rfl⟩)) PySem.F.slot_dict_pop ty_pop ?_
  refine PyProof.Rows.callWith_method1 (he := rfl) ?_ (by rfl)
  refine wpAny_items_cons (he := rfl) (r_str S8 fun _ s9 S9 => ?_)
  refine wpAny_items_cons (he := rfl) (wpAny_Constant_none (wpAny_items_nil ?_))
  refine r_popNo S9 cda8 (by rfl) fun s10 S10 => ?_
  refine wpAny_execs_cons (wpAny_Expr (hi := rfl) (hs := rfl) (MethodCall_ (he := rfl) ?_))
  refine r_nattr S10 D rfl cx8 cdx8 (ok_graph w) rfl rfl (fun s11 S11 => ?_)
  refine r_methD S11 cgr8 (.inr (.inl ⟨_, _, _, rfl⟩)) PySem.F.slot_dict_update ty_update ?_
  refine PyProof.Rows.callWith_method1 (he := rfl) ?_ (by rfl)
  refine wpAny_items_cons (he := rfl) (r_loc S11 rfl ?_)
  refine wpAny_items_nil ?_
  refine r_updateS S11 cgr8 cda8 (ne_of_cells cgr8 cda8 (by intro q; cases q)) (Nat.le_of_ble_eq_true rfl) fun e12 s12 S12 => ?_
  refine wpAny_execs_nil ⟨rfl, ?_⟩
  have hs : Same .gattr C8 (upd C8 gr (.ds .gattr (merged [] [(Str.ofString "k", .int k t)]) e12)) := .upd cgr8 rfl
  refine h _ _ ⟨x, dx, gr, nd, ad⟩ (S.pop S12) ?_ ?_
  · refine ⟨hs _ _ cx8 (by intro q; cases q), hs _ _ cdx8 (by intro q; cases q), ⟨e12, upd_same ..⟩, ⟨[], 0, hs _ _ cnd8 (by intro q; cases q), rfl, fun _ h => nomatch h⟩, ?_, ⟨[], 0, hs _ _ cad8 (by intro q; cases q), rfl, fun _ h => nomatch h⟩⟩
    exact ⟨htb.1.imp fun _ e => hs _ _ (Xx _ _ e) (by intro q; cases q), htb.2.imp fun _ e => hs _ _ (Xx _ _ e) (by intro q; cases q)⟩
  · intro b c e
    rw [upd_ne (by rintro rfl; rw [X2 _ _ e] at hgr; cases hgr)]
    exact Xx _ _ e
end
end Mine
end
section -- F2
open PySem PySem.W PySem.Calls PyProof.Rows
open Sem (wp)
namespace Mine
example : hd.heap_39 = hd.heap_39 ∧ PySem.Challenge.rw_ez0179_01 = PySem.Challenge.rw_ez0179_01 := by k_fill; exact ⟨rfl, rfl⟩

section
variable {nf : Bool} {prog : Program} {w : World} {A : Around} {s : Shared}
theorem codeB_builtin {id : String} {args : Args} {b : Builtin} {R : Flow → Shared → Prop} (hb : entryFor table id = some b) (hf : isFin (.builtin id args) = false)
    (h : wpB nf (model prog w) (A.under (.builtin id args)) (b args) (fun fin s' => match fin with | .done f => R f s' | .again c' => c'.quiet = true ∧ codeB nf (model prog w) A c' R s') s) :
    codeB nf (model prog w) A (.builtin id args) R s := by
  refine codeB_of_tree hf ?_
  show wpB nf _ _ (match entryFor table id with | some b => b args | none => unsupported ((withoutEnding? id "#data").getD id)) _ s
  rw [hb]; exact h
theorem codeB_call_builtin {id : String} {args : Args} {b : Builtin} {R : Flow → Shared → Prop} (hq : plainId id = true) (hf : isFin (.builtin id args) = false) (hb : entryFor table id = some b)
    (h : wpAny (model prog w) A.in1 (checkBuiltinCall id args) (fun _ s₁ => wpB nf (model prog w) A.in1 (b args)
      (fun fin s' => match fin with | .done f => R f s' | .again c' => c'.quiet = true ∧ codeB nf (model prog w) A c' R s') s₁) (fun _ _ => False) s) : codeB nf (model prog w) A (.call (.builtin id) args) R s := by
  refine codeB_of_tree rfl ?_
  show wpB nf _ A.in1 (do checkBuiltinCall id args; again (.builtin id args)) _ s
  refine wpB_bindA (wpAny_mono h (fun _ s₁ h₁ => wpB_pure (And.intro (plainId_quiet hq args) (codeB_builtin hb hf (by rw [Around.under_plainId hq args]; exact h₁)))) fun _ _ h' => h')

variable {K : Frag} {x C : Addr} {ox : Obj} {od : Option Obj} {name : Str} {expr : Bool} {Q : Value → Shared → Prop}
theorem looksB {α β : Type} {M : Model} {h : Heap} {t : Sem α} {r : α} {f : α → Sem β} {Q : β → Shared → Prop} (x : Looks M h t r) (k : ∀ b o, h.get? b = some o → s.heap.get? b = some o) (h : wpB nf M A (f r) Q s) : wpB nf M A (t >>= f) Q s :=
  wpB_bindA (x A _ _ s k h)
/-- an field that a descriptor gives -/
theorem b_bind {g a : Value} (X : K.In s.heap) (I : InstAt s.heap x ox C od) (hga : findIn K (.ref C) "__getattribute__" = some (some (.builtin "object.__getattribute__")))
    (hf : findObj K C od name = some (.bind g a)) (hk : findIn K (.ref C) "__getattr__" = some none)
    (h : wpB nf (model prog w) A.in1 (call g [a, .ref x, .ref C]) (fun v s' => handedIn v = true ∧ Q v s') { s with toks := s.toks + 1 }) :
    wpB nf (model prog w) A (getAttr (.ref x) name expr) Q s := by
  obtain ⟨hh, gg, d, t, os⟩ := s
  have L0 := I.type (M := model prog w)
  have L1 := looks_findIn (M := model prog w) X hga
  have L2 := looks_find (M := model prog w) X I hf
  have L3 := looks_findIn (M := model prog w) X hk
  unfold getAttr getAttrBy
  refine wpB_bindA (wpAny_mkText (wpB_holding (looksB L0 (fun _ _ e => e) (looksB L1 (fun _ _ e => e) ?_))))
  show wpB nf _ _ (getAttrEveryday _ _ _) _ _
  refine wpB_bind (wpB_onRaise (wpB_runValue (codeB_builtin F.plainObj_entry_getattr_hooked rfl ?_)))
  refine wpB_bindA (wpAny_pure (looksB L0 (fun _ _ e => e) (looksB L2 (fun _ _ e => e) (looksB L3 (fun _ _ e => e) ?_))))
  show wpB nf _ _ (holding [a] (call g [a, .ref x, .ref C]) >>= ret) _ _
  refine wpB_bind (wpB_holding (wpB_mono h fun v s' z => wpB_pure ?_))
  show wpB nf _ _ (handedOut v) _ _
  rw [handedOut_of z.1]; exact wpB_pure z.2
end
end Mine
end
section -- F3
open PySem PySem.W PySem.Calls PyProof.Rows
open Sem (wp)
namespace Mine

theorem findSome_noFin {β : Type} (f : Code × Pos → Option β) (hf : ∀ x, isFin x.1 = false → f x = none) : ∀ {l : List (Code × Pos)}, NoFin l → l.findSome? f = none
  | [], _ => rfl
  | x :: l, h => by rw [List.findSome?_cons, hf x (h x (.head _))]; exact findSome_noFin f hf fun y hy => h y (.tail _ hy)
theorem wpB_load {nf : Bool} {M : Model} {A : Around} {s : Shared} {α : Type} {a : Addr} {part : Option Value} {o : Obj} {k : Obj → Sem α} {Q : α → Shared → Prop} (ho : s.heap.get? a = some o) (h : wpB nf M A (k o) Q s) : wpB nf M A (.load a part k) Q s :=
  fun Γ p hΓ n => ⟨o, ho, h Γ p hΓ n⟩
theorem b_stack {M : Model} {A : Around} {s : Shared} {Q : List (Code × Pos) → Shared → Prop} (h : ∀ st, NoFin st → Q st s) : wpB true M A stack Q s := fun Γ p _ n => by
  show Q ((Γ.code, p) :: Γ.below) s
  refine h _ fun x hx => ?_
  rcases List.mem_cons.mp hx with rfl | hx
  · exact (n rfl).1
  · exact (n rfl).2 x hx

theorem wpB_ite {α : Type} {nf : Bool} {M : Model} {A : Around} {s : Shared} {c : Prop} [Decidable c] {a b : Sem α} {Q : α → Shared → Prop} (h1 : wpB nf M A a Q s) (h2 : wpB nf M A b Q s) : wpB nf M A (if c then a else b) Q s := by split <;> assumption

section
variable {nf : Bool} {w : World} {A : Around} {s : Shared} {K : Frag} {x C dx : Addr} {f : Str → Option Value} {n : Nat} {hot : Bool}
/-- the object's dict handed out: the first time the model looks whether a collection's finaliser runs below -/
theorem b_handedOut {Q : Option Addr → Shared → Prop} (X : K.In s.heap) (hx : s.heap.get? x = some (instObj C dx)) (hd : SmAt w s.heap dx f n hot) (hh : hasDictIn K C = true) (hth : nsIn K cStatics "_thread.count" = some none)
    (hnf : nf = true ∨ hot = true) (h : ∀ h', SmAt w h' dx f n true → Heap.SameBut dx s.heap h' → Q (some dx) { s with heap := h' }) : wpB nf (model PR w) A (instanceDictHandedOut x) Q s := by
  obtain ⟨cd, hcd, hdd⟩ := any_some hh
  obtain ⟨o, es, ep, ho, hc, hdat, hk, hf, hn⟩ := id hd
  unfold instanceDictHandedOut
  obtain ⟨hhp, gg, dd, tk, os⟩ := s
  obtain ⟨oc, od, odat, osl⟩ := o
  obtain ⟨rfl, rfl, rfl⟩ := hc
  dsimp only at hdat ho hx X; subst hdat
  have Lc := looks_clsIn (M := model PR w) X hcd
  refine wpB_bindA (?_ : wpAny _ _ (instanceDict x true) _ _ _)
  unfold instanceDict
  repeat lk
  rw [hdd]
  refine wpAny_pure ?_
  dsimp only
  refine wpB_bindA (wpAny_loadPart hx ?_)
  dsimp only [instObj]
  refine wpB_bind (wpB_mono (Q := fun r s' => r = none ∧ s' = (⟨hhp, gg, dd, tk, os⟩ : Shared)) ?_ ?_)
  · conv => arg 5; whnf
    refine wpB_load ho ?_
    refine wpB_bind (m := Sem.pure _) (wpB_pure ?_)
    cases hot with
    | true => exact wpB_pure ⟨rfl, rfl⟩
    | false =>
      obtain rfl : nf = true := hnf.resolve_right (by simp)
      dsimp only
      refine wpB_ite (wpB_pure ⟨rfl, rfl⟩) ?_
      · refine wpB_bind (b_stack fun st hst => ?_)
        rw [findSome_noFin _ (fun y hy => ?_) hst]
        · dsimp only
          exact looksB (looks_nsIn X hth) (fun _ _ e => e) (wpB_pure ⟨rfl, rfl⟩)
        · obtain ⟨c, p⟩ := y
          dsimp only
          split
          · exact absurd hy (by show ¬ (("lifetime.gc.finalise" == "lifetime.gc.finalise") = false); decide)
          · rfl
  · rintro a s' ⟨rfl, rfl⟩
    dsimp only
    refine wpB_bindA (wpAny_update ho (wpB_pure ?_))
    have e : ({ cls := .type "dict", dict := none, data := .dict es ep, slots := if hot then #[none] else #[] } : Obj).isFreed = false := rfl
    refine h _ ⟨_, es, ep, Heap.get?_update_self _ ho (by cases hot <;> rfl), ⟨?_, ?_, ?_⟩, ?_, hk, hf, hn⟩ (Heap.SameBut.update ..)
    all_goals cases hot <;> rfl
end
end Mine
end
section -- F4
open PySem PySem.W PySem.Calls PyProof.Rows
open Sem (wp)
open PySem.Builtin PySem.Builtin.ObjectAttr PySem.Builtin.Getset_descriptor
namespace Mine
example : hd.heap_39 = hd.heap_39 ∧ PySem.Challenge.rw_ez0179_01 = PySem.Challenge.rw_ez0179_01 := by k_fill; exact ⟨rfl, rfl⟩
theorem f_dict (w : World) : findIn (hd.heap_39 w.params) (.ref 617) "__dict__" = some (some (.ref 618)) := by kernel_rfl
theorem g_dict (w : World) : specialIn (hd.heap_39 w.params) (.ref 618) "__get__" = some (some (.builtin "getset_descriptor.__get__")) := by kernel_rfl
theorem t_dict (w : World) : takesIn (hd.heap_39 w.params) (.ref 618) = some true := by kernel_rfl
theorem th_none (w : World) : nsIn (hd.heap_39 w.params) cStatics "_thread.count" = some none := by kernel_rfl
theorem mro_617 (w : World) : mroIn (hd.heap_39 w.params) 617 (.ref 617) = some true := by kernel_rfl
theorem mro_sm (w : World) : mroIn (hd.heap_39 w.params) 617 (.type "staticmethod") = some false := by kernel_rfl
theorem mro_cm (w : World) : mroIn (hd.heap_39 w.params) 617 (.type "classmethod") = some false := by kernel_rfl
def strTok : Value → Tok | .str _ t => t | _ => 0
theorem rec_618 (w : World) : ∃ tn v3, recIn (hd.heap_39 w.params) 618 "getset_descriptor" = some [.str "__dict__" tn, .ref 617, .builtin "function.__dict__", v3] :=
  ⟨strTok (((recIn (hd.heap_39 w.params) 618 "getset_descriptor").getD []).headD .none), ((recIn (hd.heap_39 w.params) 618 "getset_descriptor").getD []).getD 3 .none, by kernel_rfl⟩
theorem entry_fdict : entryFor table "function.__dict__" = some Builtin.«function.__dict__» := entryFor_of_tree (by kernel_rfl)

section
variable {nf : Bool} {w : World} {A : Around} {s : Shared} {K : Frag} {x C dx p : Addr} {f : Str → Option Value} {n : Nat} {hot : Bool}
theorem b_dictGet {tp : Value} {Q : Value → Shared → Prop} {tn : Tok} {nm : Str} {v3 : Value} (X : K.In s.heap) (hx : s.heap.get? x = some (instObj C dx)) (hd : SmAt w s.heap dx f n hot) (hh : hasDictIn K C = true) (hth : nsIn K cStatics "_thread.count" = some none)
    (hp : recIn K p "getset_descriptor" = some [.str nm tn, .ref C, .builtin "function.__dict__", v3]) (h0 : mroIn K C (.ref C) = some true) (h1 : mroIn K C (.type "staticmethod") = some false) (h2 : mroIn K C (.type "classmethod") = some false)
    (hnf : nf = true ∨ hot = true) (h : ∀ h', SmAt w h' dx f n true → Heap.SameBut dx s.heap h' → Q (.ref dx) { s with heap := h' }) : wpB nf (model PR w) A (call (.builtin "getset_descriptor.__get__") [.ref p, .ref x, tp]) Q s := by
  obtain ⟨d, sl, ho⟩ := rec_of X hp
  obtain ⟨o, _, _, hdo, _⟩ := id hd
  have I : InstAt s.heap x (instObj C dx) C (some o) := ⟨hx, rfl, rfl, hdo⟩
  obtain ⟨hhp, g, dr, t, os⟩ := s
  have L0 := I.type (M := model PR w)
  have M0 := looks_mroIn (M := model PR w) X h0
  have M1 := looks_mroIn (M := model PR w) X h1
  have M2 := looks_mroIn (M := model PR w) X h2
  dsimp only at ho hx L0 M0 M1 M2 X
  have f0 := looks_field (M := model PR w) ho 0 (v := .str nm tn) rfl
  have f1 := looks_field (M := model PR w) ho 1 (v := .ref C) rfl
  have f2 := looks_field (M := model PR w) ho 2 (v := .builtin "function.__dict__") rfl
  refine wpB_call (codeB_call_builtin KF.slot_gs.plain rfl KF.entry_gs (KF.slot_gs.check _ _ _ _ _ _ _ _ ⟨_, ho, rfl⟩ (KF.args_gs _ _ _) ?_))
  unfold Builtin.«getset_descriptor.__get__» descrGet
  rw [dga_obj]
  refine wpB_bindA (wpAny_pure ?_)
  unfold descrGetter
  dsimp only
  refine wpB_bindA ?_
  unfold descrCheckInstance descrNameAndClass isInstance
  repeat lk
  refine looksB f2 (fun _ _ e => e) ?_
  dsimp only
  refine wpB_bindA (wpAny_rule (wpB_bindA ?_))
  unfold descrItself
  repeat lk
  refine wpB_pure ⟨Code.quiet_builtin _ (by decide +kernel), codeB_builtin entry_fdict rfl ?_⟩
  unfold Builtin.«function.__dict__»
  dsimp only
  refine wpB_bindA ?_
  unfold isInstance
  repeat lk
  refine wpB_eq (t' := (instanceDictHandedOut x >>= fun r => ret (match r with | some d => Value.ref d | none => Value.none))) (by first | rfl | (simp; done)) ?_
  exact wpB_bind (b_handedOut X hx hd hh hth hnf fun h' z1 z2 => wpB_pure (h _ z1 z2))

/-- x.__dict__ -/
theorem b_dictAttr {p' : Program} {loose : List Str} {mg mb : Str → Option Value} {g : Heap} {L : Addr} {m : List (Str × Value)} {F : List (Addr × List (Str × Value))} {Cl : Led} {G : Array GenState} {O : OsState} {expr : Bool} {Q : Value → Shared → Prop}
    (S : St w g L m F Cl G O s) (D : Wd (hd.heap_39 w.params) p' loose mg mb g) (h1 : Cl x = some (.obj (instObj 617 dx))) (h2 : Cl dx = some (.sm f n hot)) (hnf : nf = true ∨ hot = true)
    (h : ∀ s', St w g L m F (upd Cl dx (.sm f n true)) G O s' → Q (.ref dx) s') : wpB nf (model PR w) A (getAttr (.ref x) "__dict__" expr) Q s := by
  obtain ⟨o, I, hl⟩ := inst_of S h1 h2
  have X := D.X.keeps S.keep
  obtain ⟨tn, v3, hr⟩ := rec_618 w
  refine b_bind X I (plainGet_of (pl_617 w "__dict__")).1 (findObj_data (by obtain ⟨cd, hc, _⟩ := any_some (hd_617 w); rw [hc]; rfl) (f_dict w) (g_dict w) (t_dict w)) (plainGet_of (pl_617 w "__dict__")).2 ?_
  refine b_dictGet (s := { s with toks := s.toks + 1 }) X (S.sat x _ h1) (S.sat dx _ h2) (hd_617 w) (th_none w) hr (mro_617 w) (mro_sm w) (mro_cm w) hnf fun h' z1 z2 => ⟨rfl, h _ (S.put h2 z2 z1 S.gens S.os)⟩
end
end Mine
end
section -- F5
open PySem PySem.W PySem.Calls PyProof.Rows
open Sem (wp)
namespace Mine
section
variable {w : World} {A : Around} {E : Value → Shared → Prop} {s : Shared} {d : Addr} {f : Str → Option Value} {n : Nat} {hot : Bool}
theorem sm_dictSet {k : Str} {t : Tok} {v : Value} {Q : Unit → Shared → Prop} (hm : SmAt w s.heap d f n hot) (hz : n ≤ 1000)
    (hQ : ∀ h', SmAt w h' d (fun x => if x = k then some v else f x) (n + 1) hot → Heap.SameBut d s.heap h' → Q () { s with heap := h', toks := s.toks + 1 }) : wpAny (model PR w) A (dictSet d (.str k t) v) Q E s := by
  obtain ⟨o, es, ep, ho, hc, hd, hk, hf, hn⟩ := hm
  have hkey := strKind_is PR w k t
  unfold dictSet
  try with_reducible refine wpAny_holding ?_
  refine wpAny_bind ((strKind PR w).pyHash hkey ?_)
  unfold dictSetHashed
  try with_reducible refine wpAny_holding ?_
  refine wpAny_bind (wpAny_dictFind_of (s := { s with toks := s.toks + 1 }) hkey ho hd hk ?_)
  obtain ⟨oc, od, odat, osl⟩ := o
  dsimp only at hd; subst hd
  cases hi : es.findIdx? fun e => (strKind PR w).is k e.key with
  | some i =>
    refine wpAny_bind (wpAny_rule (wpAny_bind (wpAny_updateDict (s := { s with toks := s.toks + 1 }) ho rfl (wpAny_point (hQ _ ⟨_, _, ep, Heap.get?_update_self _ ho (Obj.isFreed_of_dict (Obj.data_mapDict rfl _)),
      hc, Obj.data_mapDict rfl _, hk.modify _ _, fun x => ?_, ?_⟩ (Heap.SameBut.update ..))))))
    · rw [findBy_modify (strKind PR w).is (strKind PR w).inj es k x v i hi, hf]
    · rw [Array.size_modify]; omega
  | none =>
    refine wpAny_bind (wpAny_rule (wpAny_updateDictKeys (hz := by rw [sizeLine_eq]; omega) (s := { s with toks := s.toks + 1 }) ho rfl (hQ _ ⟨_, _, ep + 1, Heap.get?_update_self _ ho (Obj.isFreed_of_dict (Obj.data_mapDictKeys rfl _)),
      hc, Obj.data_mapDictKeys rfl _, hk.push hkey _, fun x => ?_, ?_⟩ (Heap.SameBut.update ..))))
    · rw [findBy_push (strKind PR w).is es k x _ _ v (KeyKind.is_eq_decide hkey) hi, hf]
    · rw [Array.size_push]; omega
theorem sm_setItem {k : Str} {t : Tok} {v : Value} {Q : Unit → Shared → Prop} (hm : SmAt w s.heap d f n hot) (hz : n ≤ 1000)
    (hQ : ∀ h', SmAt w h' d (fun x => if x = k then some v else f x) (n + 1) hot → Heap.SameBut d s.heap h' → Q () { s with heap := h', toks := s.toks + 1 }) : wpAny (model PR w) A (setItem (.ref d) (.str k t) v) Q E s := by
  unfold setItem
  try with_reducible refine wpAny_holding ?_
  refine wpAny_bind (wpAny_sequenceKey hm.typeIs (by decide) ?_)
  refine wpAny_bind (wpAny_callSpecial?_slot (name := Str.ofString "__setitem__") hm.typeIs slot_dict_setitem
    (wpAny_call_entry slot_dict_setitem hm.typeIs entry_dict_setitem ?_ (args_dict_setitem _ _ _)))
  show wpAny _ _ (Builtin.Dict.notOrdered "__setitem__" ⟨[.ref d, .str k t, v], []⟩ >>= _) _ _ s
  refine wpAny_bind (wpAny_notOrdered_dict hm.typeIs ?_)
  show wpAny _ _ (dictSet d (.str k t) v >>= _) _ _ s
  exact wpAny_bind (sm_dictSet hm hz fun h' hm' hs' => wpAny_pure ⟨.none, rfl, wpAny_pure (hQ h' hm' hs')⟩)
variable {g : Heap} {L : Addr} {m : List (Str × Value)} {F : List (Addr × List (Str × Value))} {C : Led} {G : Array GenState} {O : OsState}
theorem r_setM {k : Str} {t : Tok} {v : Value} {Q : Unit → Shared → Prop} (S : St w g L m F C G O s) (hd : C d = some (.sm f n hot)) (hz : n ≤ 1000)
    (h : ∀ s', St w g L m F (upd C d (.sm (fun x => if x = k then some v else f x) (n + 1) hot)) G O s' → Q () s') : wpAny (model PR w) A (setItem (.ref d) (.str k t) v) Q E s :=
  sm_setItem (S.sat d _ hd) hz fun h' hm hs => h _ (S.put (s' := { s with heap := h', toks := s.toks + 1 }) hd hs hm S.gens S.os)
end
end Mine
end
section -- F6
open PySem PySem.W PySem.Calls PyProof.Rows
open Sem (wp)
namespace Mine
example : hd.heap_39 = hd.heap_39 ∧ PySem.Challenge.rw_ez0179_01 = PySem.Challenge.rw_ez0179_01 := by k_fill; exact ⟨rfl, rfl⟩
theorem pl_319 (w : World) (n : Str) : plainGet (hd.heap_39 w.params) 319 n = true := by kernel_rfl
theorem nf_func (w : World) : findIn (hd.heap_39 w.params) (.ref 319) "func" = some none := by kernel_rfl
theorem g_nf (w : World) : nsIn (hd.heap_39 w.params) mainGlobals "_NOT_FOUND" = some (some (.ref 280)) := by kernel_rfl

/-- what the world says of one cached property: its record cp, its dict d0, its name, its function -/
structure CP (w : World) (cp d0 : Addr) (nm : Str) (tk : Tok) (fn : Addr) : Prop where
  o : (hd.heap_39 w.params).lookup cp = some { cls := .ref 319, dict := some d0 }
  d : ∃ od, (hd.heap_39 w.params).lookup d0 = some od ∧ findObj (hd.heap_39 w.params) 319 (some od) "attrname" = some (.value (.str nm tk)) ∧ findObj (hd.heap_39 w.params) 319 (some od) "func" = some (.value (.ref fn))
  k : keepIn (hd.heap_39 w.params) (.ref fn) = true
theorem cp_of {w : World} {cp d0 : Addr} {nm : Str} {tk : Tok} {fn : Addr} (o : (hd.heap_39 w.params).lookup cp = some { cls := .ref 319, dict := some d0 }) (d : ((hd.heap_39 w.params).lookup d0).isSome = true)
    (d1 : findObj (hd.heap_39 w.params) 319 ((hd.heap_39 w.params).lookup d0) "attrname" = some (.value (.str nm tk))) (d2 : findObj (hd.heap_39 w.params) 319 ((hd.heap_39 w.params).lookup d0) "func" = some (.value (.ref fn)))
    (k : keepIn (hd.heap_39 w.params) (.ref fn) = true) : CP w cp d0 nm tk fn := by
  obtain ⟨od, hod⟩ := Option.isSome_iff_exists.mp d
  rw [hod] at d1 d2
  exact ⟨o, ⟨od, hod, d1, d2⟩, k⟩
theorem cp_degree (w : World) : CP w 554 553 "degree" 930 552 := cp_of (by kernel_rfl) (by kernel_rfl) (by kernel_rfl) (by kernel_rfl) (by kernel_rfl)
theorem cp_edges (w : World) : CP w 529 528 "edges" 894 527 := cp_of (by kernel_rfl) (by kernel_rfl) (by kernel_rfl) (by kernel_rfl) (by kernel_rfl)

section
variable {M : Model} {nf : Bool} {A : Around} {s : Shared} {env : Env}
theorem wpB_Attribute_name {n attr : Str} {np pos : Pos} {Q : Value → Shared → Prop} (h : wpAny M A (eval (.Name n np) env) (fun o s₁ => wpB nf M A (getAttr o attr true) Q s₁) (fun _ _ => False) s) :
    wpB nf M A (eval (.Attribute (.Name n np) attr pos) env) Q s := by
  rw [arm_eval_Attribute]
  have e1 : attributeBase (.Name n np) attr env (eval (.Name n np) env) = eval (.Name n np) env := rfl
  rw [e1]
  refine wpB_bindA (wpAny_mono h (fun o s₁ h₁ => wpB_bind (wpB_standAt (wpB_bind (wpB_holding (wpB_mono h₁ fun r s₂ h₂ => ?_))))) fun _ _ y => y)
  have e2 : letTemporaryGo (.Name n np) o r = pure () := rfl
  rw [e2]
  exact wpB_bind (wpB_pure (wpB_pure h₂))
end

section
variable {p : Program} {loose : List Str} {mg mb : Str → Option Value}
  {w : World} {g : Heap} {L : Addr} {m : List (Str × Value)} {F : List (Addr × List (Str × Value))} {C : Led} {G : Array GenState} {O : OsState} {s : Shared} {A : Around} {E : Value → Shared → Prop} {env : Env}
theorem CP.inst {cp d0 : Addr} {nm : Str} {tk : Tok} {fn : Addr} (c : CP w cp d0 nm tk fn) (S : St w g L m F C G O s) (D : Wd (hd.heap_39 w.params) p loose mg mb g) :
    ∃ od, InstAt s.heap cp { cls := .ref 319, dict := some d0 } 319 (some od) ∧ findObj (hd.heap_39 w.params) 319 (some od) "attrname" = some (.value (.str nm tk)) ∧ findObj (hd.heap_39 w.params) 319 (some od) "func" = some (.value (.ref fn)) := by
  obtain ⟨od, h1, h2, h3⟩ := c.d
  have X := D.X.keeps S.keep
  exact ⟨od, ⟨X _ _ c.o, rfl, rfl, X _ _ h1⟩, h2, h3⟩
theorem CP.name {cp d0 : Addr} {nm : Str} {tk : Tok} {fn : Addr} {expr : Bool} {Q : Value → Shared → Prop} (c : CP w cp d0 nm tk fn) (S : St w g L m F C G O s) (D : Wd (hd.heap_39 w.params) p loose mg mb g) (h : ∀ s', St w g L m F C G O s' → Q (.str nm tk) s') :
    wpAny (model PR w) A (getAttr (.ref cp) "attrname" expr) Q E s := by
  obtain ⟨od, I, h1, h2⟩ := c.inst S D
  exact get_value (D.X.keeps S.keep) I (plainGet_of (pl_319 w "attrname")).1 h1 rfl (h _ (S.toks _))
theorem CP.func {cp d0 : Addr} {nm : Str} {tk : Tok} {fn : Addr} {pl : Sem Bool} {Q : Value × List Value → Shared → Prop} (c : CP w cp d0 nm tk fn) (S : St w g L m F C G O s) (D : Wd (hd.heap_39 w.params) p loose mg mb g) (h : ∀ s', St w g L m F C G O s' → Q (.ref fn, []) s') :
    wpAny (model PR w) A (getMethod (.ref cp) "func" pl) Q E s := by
  obtain ⟨od, I, h1, h2⟩ := c.inst S D
  exact method_usual (D.X.keeps S.keep) I (plainGet_of (pl_319 w "func")).1 (plainGet_of (pl_319 w "func")).2 (nf_func w) rfl (get_value (D.X.keeps S.keep) I (plainGet_of (pl_319 w "func")).1 h2 rfl (h _ (S.toks _)))

/-- cached_property.__get__, the first time -/
theorem get_spec {nf : Bool} {cp d0 x dx fn : Addr} {nm : Str} {tk : Tok} {f : Str → Option Value} {n : Nat} {hot : Bool} {tp : Value} {Q : Value → Shared → Prop} (c : CP w cp d0 nm tk fn)
    (S : St w g L m F C G O s) (D : Wd (hd.heap_39 w.params) p loose mg mb g) (hroom : A.depth + 8 < recursionLimit)
    (h1 : C x = some (.obj (instObj 617 dx))) (h2 : C dx = some (.sm f n hot)) (hnm : f nm = none) (hn : n ≤ 100) (hnf : nf = true ∨ hot = true)
    {Rel : Led → Addr → Prop} (hRel : ∀ C' v, Rel C' v → C' dx = some (.sm f n true))
    (hcall : ∀ (A' : Around) L' m' F' s' (Q' : Value → Shared → Prop), A'.depth = A.depth + 1 → A'.handled = A.handled → A'.units = A.units + 3 → St w g L' m' F' (upd C dx (.sm f n true)) G O s' →
      (∀ v C' s'', Rel C' v → St w g L' m' F' C' G O s'' → Q' (.ref v) s'') → wpAny (model PR w) A' (call (.ref fn) [.ref x]) Q' (fun _ _ => False) s')
    (h : ∀ v C' s', Rel C' v → St w g L m F (upd C' dx (.sm (fun y => if y = nm then some (.ref v) else f y) (n + 1) true)) G O s' → Q (.ref v) s') :
    wpB nf (model PR w) A (call (.ref 309) [.ref cp, .ref x, tp]) Q s := by
  refine' b_enter (binds := [(Str.ofString "self", .ref cp), (Str.ofString "instance", .ref x), (Str.ofString "owner", tp)]) S D ?ho ?hcd ?room ?hb ?hl ?_ ?c1 ?c2 ?c3 ?c4
  case ho => k_is
  case hcd => k_is
  case room => omega
  case hb => exact binds_K (D.X.keeps S.keep) rfl (by k_is) rfl rfl rfl
  case hl => exact locs rfl
  case c1 => rfl
  case c2 => rfl
  case c3 => rfl
  case c4 => decide
  intro L1 s1 S1
  refine wpB_execs_cons (wpB_any (wpAny_If (wpAny_isTrue_Compare1 (r_loc S1 rfl (wpAny_Constant_none (PyProof.Rows.is_ref_none (wpAny_truthy_bool (wpAny_execs_nil ?_))))))))
  refine wpB_execs_cons (wpB_any (wpAny_If (wpAny_isTrue_Compare1 (Attribute_name (r_loc S1 rfl (c.name S1 D fun s2 S2 => wpAny_Constant_none (PyProof.Rows.is_str_none (wpAny_truthy_bool (wpAny_execs_nil ?_)))))))))
  refine wpB_execs_cons (wpB_Try (wpB_execs_cons (wpB_Assign_Name (wpB_Attribute_name (r_loc S2 rfl (b_dictAttr S2 D h1 h2 hnf fun s3 S3 => ?_))))))
  refine r_store S3 (fun s4 S4 => ?_) rfl rfl rfl
  refine wpB_execs_nil (wpB_execs_nil ?_)
  have hdx := upd_same C dx (.sm f n true)
  refine wpB_execs_cons (wpB_any (wpAny_Assign_Name (MethodCall_ (r_loc S4 rfl (r_methD S4 hdx (.inr (.inr ⟨_, _, _, rfl⟩)) PySem.F.slot_dict_get ty_get ?_)) (he := rfl))))
  refine PyProof.Rows.callWith_method1 (he := rfl) ?_ (by rfl)
  refine wpAny_items_cons (he := rfl) (Attribute_name (r_loc S4 rfl (c.name S4 D fun s5 S5 => ?_)))
  refine wpAny_items_cons (he := rfl) (r_glob S5 D (g_nf w) (wpAny_items_nil ?_))
  refine r_getM S5 hdx fun s6 S6 => ?_
  rw [hnm]
  refine r_store S6 (fun s7 S7 => ?_) rfl rfl rfl
  refine wpB_execs_cons (wpB_any (wpAny_If (wpAny_isTrue_Compare1 (r_loc S7 rfl (r_glob S7 D (g_nf w) (wpAny_is_ref_self (wpAny_truthy_bool ?_)))))))
  refine wpAny_execs_cons (wpAny_Assign_Name (MethodCall_ (r_loc S7 rfl (c.func S7 D fun s8 S8 => ?_)) (he := rfl)))
  refine callWith_K (h₀ := s8.heap) (D.X.keeps S8.keep) c.k ?_
  refine wpAny_items_cons (he := rfl) (r_loc S8 rfl (wpAny_items_nil ⟨D.X.keeps S8.keep, ?_⟩))
  refine hcall _ _ _ _ _ _ rfl rfl rfl S8 fun v C9 s9 hr S9 => ?_
  refine r_store S9 (fun s10 S10 => ?_) rfl rfl rfl
  have hdx9 := hRel _ _ hr
  refine wpAny_execs_cons (wpAny_Try_except (wpAny_execs_cons (wpAny_Assign_Subscript (r_loc S10 rfl (r_loc S10 rfl (Attribute_name (r_loc S10 rfl (c.name S10 D fun s11 S11 => ?_))))))))
  refine r_setM S11 hdx9 (by omega) fun s12 S12 => ?_
  refine wpAny_execs_nil (wpAny_execs_nil (wpAny_execs_nil ?_))
  refine wpB_execs_cons (wpB_any (wpAny_Return_some (r_loc S12 rfl ?_)))
  exact h _ _ _ hr (S.pop S12)
end
end Mine
end
section -- F7
open PySem PySem.W PySem.Calls PyProof.Rows
open Sem (wp)
namespace Mine
example : hd.heap_39 = hd.heap_39 ∧ PySem.Challenge.rw_ez0179_01 = PySem.Challenge.rw_ez0179_01 := by k_fill; exact ⟨rfl, rfl⟩
theorem findObj_missing {K : Frag} {C : Addr} {name : Str} {o : Obj} (hh : hasDictIn K C = true) (ha : findIn K (.ref C) name = some none) (hl : lookIn name o = some none) (hc : copiedNames.contains name = false) : findObj K C (some o) name = some .missing := by
  obtain ⟨cd, hcd, hd⟩ := any_some hh
  have own : PySem.W.ownOf cd (some o) name = some none := by unfold PySem.W.ownOf; rw [if_pos hd]; exact hl
  unfold findObj
  rw [hcd, ha]
  simp only [Option.bind_some, own, hc, Bool.false_and, Bool.false_eq_true, if_false]
theorem mod_617 (w : World) : mroIn (hd.heap_39 w.params) 617 (.type "module") = some false := by kernel_rfl
theorem nm_617 (w : World) : (clsIn (hd.heap_39 w.params) 617).any (fun cd => cd.name == Str.ofString "Graph") = true := by kernel_rfl
theorem no_succ (w : World) : findIn (hd.heap_39 w.params) (.ref 617) "_succ" = some none := by kernel_rfl
theorem no_pred (w : World) : findIn (hd.heap_39 w.params) (.ref 617) "_pred" = some none := by kernel_rfl
theorem no_suc (w : World) : findIn (hd.heap_39 w.params) (.ref 617) "succ" = some none := by kernel_rfl
theorem nb_hasattr (w : World) : nsIn (hd.heap_39 w.params) mainGlobals "hasattr" = some none := by kernel_rfl
theorem bi_hasattr : bootBuiltins "hasattr" = some (.builtin "hasattr") := by kernel_rfl

section
variable {p : Program} {loose : List Str} {mg mb : Str → Option Value}
  {w : World} {g : Heap} {L : Addr} {m : List (Str × Value)} {F : List (Addr × List (Str × Value))} {C : Led} {G : Array GenState} {O : OsState} {s : Shared} {A : Around} {E Q : Value → Shared → Prop} {env : Env}
theorem hasG_no {x dx : Addr} {f : Str → Option Value} {n : Nat} {hot : Bool} {nm : Str} {t : Tok} (S : St w g L m F C G O s) (D : Wd (hd.heap_39 w.params) p loose mg mb g) (hh : A.handled = none) (h1 : C x = some (.obj (instObj 617 dx))) (h2 : C dx = some (.sm f n hot))
    (hf : f nm = none) (hno : findIn (hd.heap_39 w.params) (.ref 617) nm = some none) (hc : copiedNames.contains nm = false) (hl : nm.length ≤ 50) (h : ∀ s', St w g L m F C G O s' → Q (.bool false) s') :
    wpAny (model PR w) A (call (.builtin "hasattr") [.ref x, .str nm t]) Q E s :=
  hasattr_no S D hh h1 h2 (plainGet_of (pl_617 w "_succ")).1 (plainGet_of (pl_617 w "_succ")).2 (fun o hl => findObj_missing (hd_617 w) hno (by rw [hl, hf]) hc) (mod_617 w) (nm_617 w) hl h
/-- G.a if hasattr(G, 'b') else G._adj -/
theorem r_orAdj {x dx ad : Addr} {f : Str → Option Value} {n : Nat} {hot : Bool} {nm nm2 : Str} {p1 p2 p3 p4 p5 p6 p7 p8 p9 : Pos} {k : Nat} (S : St w g L m F C G O s) (D : Wd (hd.heap_39 w.params) p loose mg mb g) (hh : A.handled = none) (h1 : C x = some (.obj (instObj 617 dx))) (h2 : C dx = some (.sm f n hot))
    (hG : m.lookup (Str.ofString "G") = some (.ref x)) (hf : f nm = none) (hno : findIn (hd.heap_39 w.params) (.ref 617) nm = some none) (hc : copiedNames.contains nm = false) (hl : nm.length ≤ 50) (had : f "_adj" = some (.ref ad))
    (h : ∀ s', St w g L m F C G O s' → Q (.ref ad) s')
    (hk : env.scope.kind = .function := by rfl) (hx : env.kindOf (Str.ofString "G") = some .local := by rfl) (hL : env.locals = L := by rfl)
    (hy : env.kindOf "hasattr" = some .globalImplicit := by rfl) (hg : env.globals = mainGlobals := by rfl) (hb : env.builtins = builtinsNs := by rfl) :
    wpAny (model PR w) A (eval (.IfExp (.Call (.Name "hasattr" p2) [.Name (Str.ofString "G") p3, .Constant (.str nm) k p4] [] p5) (.Attribute (.Name (Str.ofString "G") p6) nm2 p7) (.Attribute (.Name (Str.ofString "G") p1) "_adj" p9) p8) env) Q E s := by
  refine wpAny_IfExp (wpAny_isTrue_value (Call_ (he := rfl) (r_bi S D (nb_hasattr w) bi_hasattr (by decide) ?_ hk hy (by decide) hg hb)))
  refine PyProof.Rows.callWith_builtin1 (he := rfl) (wpAny_items_cons (he := rfl) (r_loc S hG (wpAny_items_cons (he := rfl) (r_str S fun t s1 S1 => wpAny_items_nil ?_)) hk hx (by decide) hL)) (by rfl)
  refine hasG_no S1 D hh h1 h2 hf hno hc hl fun s2 S2 => wpAny_truthy_bool ?_
  exact r_nattr S2 D hG h1 h2 (ok_adj w) had rfl h hk hx (by decide) hL
end
end Mine
end
section -- F8
open PySem PySem.W PySem.Calls PyProof.Rows
open Sem (wp)
namespace Mine
example : hd.heap_39 = hd.heap_39 ∧ PySem.Challenge.rw_ez0179_01 = PySem.Challenge.rw_ez0179_01 := by k_fill; exact ⟨rfl, rfl⟩
theorem mk_154 (w : World) : makesIn (hd.heap_39 w.params) 154 = true := by kernel_rfl
theorem in_154 (w : World) : findIn (hd.heap_39 w.params) (.ref 154) "__init__" = some (some (.ref 94)) := by kernel_rfl
theorem fn_94 (w : World) : isFn (hd.heap_39 w.params) (.ref 94) = true := by kernel_rfl
theorem sa_154 (w : World) : findIn (hd.heap_39 w.params) (.ref 154) "__setattr__" = some (some (.builtin "object.__setattr__")) := by kernel_rfl
theorem po_154 (w : World) : plainOver (hd.heap_39 w.params) 154 = true := by kernel_rfl
theorem hd_154 (w : World) : hasDictIn (hd.heap_39 w.params) 154 = true := by kernel_rfl
theorem tk_154s (w : World) : takerIn (hd.heap_39 w.params) 154 "_succ" = some none := by kernel_rfl
theorem tk_154p (w : World) : takerIn (hd.heap_39 w.params) 154 "_pred" = some none := by kernel_rfl
theorem tk_154n (w : World) : takerIn (hd.heap_39 w.params) 154 "_nodes" = some none := by kernel_rfl
theorem tk_154w (w : World) : takerIn (hd.heap_39 w.params) 154 "_weight" = some none := by kernel_rfl
theorem ok_154s (w : World) : ownOk (hd.heap_39 w.params) 154 "_succ" = true := by kernel_rfl
theorem ok_154n (w : World) : ownOk (hd.heap_39 w.params) 154 "_nodes" = true := by kernel_rfl
theorem ok_154w (w : World) : ownOk (hd.heap_39 w.params) 154 "_weight" = true := by kernel_rfl
theorem mk_252 (w : World) : makesIn (hd.heap_39 w.params) 252 = true := by kernel_rfl
theorem in_252 (w : World) : findIn (hd.heap_39 w.params) (.ref 252) "__init__" = some (some (.ref 170)) := by kernel_rfl
theorem fn_170 (w : World) : isFn (hd.heap_39 w.params) (.ref 170) = true := by kernel_rfl
theorem sa_252 (w : World) : findIn (hd.heap_39 w.params) (.ref 252) "__setattr__" = some (some (.builtin "object.__setattr__")) := by kernel_rfl
theorem po_252 (w : World) : plainOver (hd.heap_39 w.params) 252 = true := by kernel_rfl
theorem hd_252 (w : World) : hasDictIn (hd.heap_39 w.params) 252 = true := by kernel_rfl
theorem tk_252 (w : World) : takerIn (hd.heap_39 w.params) 252 "_adjdict" = some none := by kernel_rfl
theorem ok_252 (w : World) : ownOk (hd.heap_39 w.params) 252 "_adjdict" = true := by kernel_rfl

def edgF (ad : Addr) : Str → Option Value := fun y => if y = Str.ofString "_adjdict" then some (.ref ad) else none
def degF (ad : Addr) : Str → Option Value := fun y => if y = Str.ofString "_weight" then some .none else if y = Str.ofString "_nodes" then some (.ref ad) else if y = Str.ofString "_pred" then some (.ref ad) else if y = Str.ofString "_succ" then some (.ref ad) else none

section
variable {p : Program} {loose : List Str} {mg mb : Str → Option Value}
  {w : World} {g : Heap} {L : Addr} {m : List (Str × Value)} {F : List (Addr × List (Str × Value))} {C : Led} {G : Array GenState} {O : OsState} {s : Shared} {A : Around} {E Q : Value → Shared → Prop} {env : Env}

theorem upd_upd (C : Led) (a : Addr) (c c' : Cell) : upd (upd C a c) a c' = upd C a c' := by
  funext b; unfold upd; split <;> rfl
theorem new_edge_spec {x dx ad : Addr} {f : Str → Option Value} {n : Nat} {hot : Bool} (S : St w g L m F C G O s) (D : Wd (hd.heap_39 w.params) p loose mg mb g) (hh : A.handled = none) (hroom : A.depth + 8 < recursionLimit)
    (h1 : C x = some (.obj (instObj 617 dx))) (h2 : C dx = some (.sm f n hot)) (hf : f "succ" = none) (had : f "_adj" = some (.ref ad))
    (h : ∀ v dv s' C', C v = none → C dv = none → St w g L m F C' G O s' → Ext C C' → C' v = some (.obj (instObj 252 dv)) → C' dv = some (.sm (edgF ad) 1 false) → Q (.ref v) s') :
    wpAny (model PR w) A (call (.ref 252) [.ref x]) Q E s := by
  refine wpAny_call (r_make S D (mk_252 w) (in_252 w) (fn_170 w) fun v dv s1 hv hdv hne S1 => ?_)
  refine' r_enter (binds := [(Str.ofString "self", .ref v), (Str.ofString "G", .ref x)]) S1 D ?ho ?hcd ?room ?hb ?hl ?_ ?c1 ?c2 ?c3 ?c4
  case ho => k_is
  case hcd => k_is
  case room => show A.depth + 1 < _; omega
  case hb => exact .of_eq rfl
  case hl => exact locs rfl
  case c1 => rfl
  case c2 => rfl
  case c3 => rfl
  case c4 => decide
  intro L2 s2 S2
  have X1 : Ext C (upd C dv (.sm (fun _ => none) 0 false)) := Ext.upd hdv
  have hv1 : upd C dv (.sm (fun _ => none) 0 false) v = none := by rw [upd_ne hne]; exact hv
  have X2 := X1.trans (Ext.upd (c := .obj (instObj 252 dv)) hv1)
  have cv := upd_same (upd C dv (.sm (fun _ => none) 0 false)) v (.obj (instObj 252 dv))
  have cd : upd (upd C dv (.sm (fun _ => none) 0 false)) v (.obj (instObj 252 dv)) dv = some (.sm (fun _ => none) 0 false) := upd_old (upd_same ..) hv1
  refine wpAny_execs_cons (plainObj_wpAny_Assign_Attribute (hs := rfl) ?_)
  refine r_orAdj S2 D hh (X2 _ _ h1) (X2 _ _ h2) rfl hf (no_suc w) (by decide) (by decide) had fun s3 S3 => r_loc S3 rfl ?_
  refine r_setattr S3 D cv cd (sa_252 w) (po_252 w) (tk_252 w) (hd_252 w) (by omega) fun s4 S4 => ?_
  refine wpAny_execs_nil ⟨rfl, ?_⟩
  have hdx : ∀ b c, C b = some c → b ≠ dv := by rintro b c e rfl; rw [hdv] at e; cases e
  exact h v dv _ _ hv hdv (S.pop S4) (fun b c e => by rw [upd_ne (hdx b c e)]; exact X2 b c e) (by rw [upd_ne hne]; exact cv) (upd_same ..)
theorem new_degree_spec {x dx ad : Addr} {f : Str → Option Value} {n : Nat} {hot : Bool} (S : St w g L m F C G O s) (D : Wd (hd.heap_39 w.params) p loose mg mb g) (hh : A.handled = none) (hroom : A.depth + 8 < recursionLimit)
    (h1 : C x = some (.obj (instObj 617 dx))) (h2 : C dx = some (.sm f n hot)) (hf1 : f "_succ" = none) (hf2 : f "_pred" = none) (had : f "_adj" = some (.ref ad))
    (h : ∀ v dv s' C', C v = none → C dv = none → St w g L m F C' G O s' → Ext C C' → C' v = some (.obj (instObj 154 dv)) → C' dv = some (.sm (degF ad) 4 false) → Q (.ref v) s') :
    wpAny (model PR w) A (call (.ref 154) [.ref x]) Q E s := by
  refine wpAny_call (r_make S D (mk_154 w) (in_154 w) (fn_94 w) fun v dv s1 hv hdv hne S1 => ?_)
  refine' r_enter (binds := [(Str.ofString "self", .ref v), (Str.ofString "G", .ref x), (Str.ofString "nbunch", .none), (Str.ofString "weight", .none)]) S1 D ?ho ?hcd ?room ?hb ?hl ?_ ?c1 ?c2 ?c3 ?c4
  case ho => k_is
  case hcd => k_is
  case room => show A.depth + 1 < _; omega
  case hb => exact binds_K (D.X.keeps S1.keep) rfl (by k_is) rfl rfl rfl
  case hl => exact locs rfl
  case c1 => rfl
  case c2 => rfl
  case c3 => rfl
  case c4 => decide
  intro L2 s2 S2
  have X1 : Ext C (upd C dv (.sm (fun _ => none) 0 false)) := Ext.upd hdv
  have hv1 : upd C dv (.sm (fun _ => none) 0 false) v = none := by rw [upd_ne hne]; exact hv
  have X2 := X1.trans (Ext.upd (c := .obj (instObj 154 dv)) hv1)
  have cv := upd_same (upd C dv (.sm (fun _ => none) 0 false)) v (.obj (instObj 154 dv))
  have cd : upd (upd C dv (.sm (fun _ => none) 0 false)) v (.obj (instObj 154 dv)) dv = some (.sm (fun _ => none) 0 false) := upd_old (upd_same ..) hv1
  have hdx : ∀ b c, C b = some c → b ≠ dv := by rintro b c e rfl; rw [hdv] at e; cases e
  generalize upd (upd C dv (.sm (fun _ => none) 0 false)) v (.obj (instObj 154 dv)) = C2 at S2 X2 cv cd
  have kk : ∀ c b d, C b = some d → upd C2 dv c b = some d := fun c b d e => by rw [upd_ne (hdx b d e)]; exact X2 b d e
  have kv : ∀ c, upd C2 dv c v = some (.obj (instObj 154 dv)) := fun c => by rw [upd_ne hne]; exact cv
  refine wpAny_execs_cons (plainObj_wpAny_Assign_Attribute (hs := rfl) ?_)
  refine r_orAdj S2 D hh (X2 _ _ h1) (X2 _ _ h2) rfl hf1 (no_succ w) (by decide) (by decide) had fun s3 S3 => r_loc S3 rfl ?_
  refine r_setattr S3 D cv cd (sa_154 w) (po_154 w) (tk_154s w) (hd_154 w) (by omega) fun s4 S4 => ?_
  refine wpAny_execs_cons (plainObj_wpAny_Assign_Attribute (hs := rfl) ?_)
  refine r_orAdj S4 D hh (kk _ _ _ h1) (kk _ _ _ h2) rfl hf2 (no_pred w) (by decide) (by decide) had fun s5 S5 => r_loc S5 rfl ?_
  refine r_setattr S5 D (kv _) (upd_same ..) (sa_154 w) (po_154 w) (tk_154p w) (hd_154 w) (by omega) fun s6 S6 => ?_
  rw [upd_upd] at S6
  refine wpAny_execs_cons (plainObj_wpAny_Assign_Attribute (hs := rfl) ?_)
  refine r_nattr S6 D rfl (kv _) (upd_same ..) (ok_154s w) rfl rfl fun s7 S7 => r_loc S7 rfl ?_
  refine r_setattr S7 D (kv _) (upd_same ..) (sa_154 w) (po_154 w) (tk_154n w) (hd_154 w) (by omega) fun s8 S8 => ?_
  rw [upd_upd] at S8
  refine wpAny_execs_cons (plainObj_wpAny_Assign_Attribute (hs := rfl) (r_loc S8 rfl (r_loc S8 rfl ?_)))
  refine r_setattr S8 D (kv _) (upd_same ..) (sa_154 w) (po_154 w) (tk_154w w) (hd_154 w) (by omega) fun s9 S9 => ?_
  rw [upd_upd] at S9
  refine wpAny_execs_nil ⟨rfl, ?_⟩
  exact h v dv _ _ hv hdv (S.pop S9) (fun b c e => kk _ b c e) (kv _) (upd_same ..)
end
end Mine
end
section -- F9
open PySem PySem.W PySem.Calls PyProof.Rows
open Sem (wp)
namespace Mine
example : hd.heap_39 = hd.heap_39 ∧ PySem.Challenge.rw_ez0179_01 = PySem.Challenge.rw_ez0179_01 := by k_fill; exact ⟨rfl, rfl⟩
theorem kp_154 (w : World) : keepIn (hd.heap_39 w.params) (.ref 154) = true := by kernel_rfl
theorem kp_252 (w : World) : keepIn (hd.heap_39 w.params) (.ref 252) = true := by kernel_rfl
theorem g_154 (w : World) : nsIn (hd.heap_39 w.params) mainGlobals "DegreeView" = some (some (.ref 154)) := by kernel_rfl
theorem g_252 (w : World) : nsIn (hd.heap_39 w.params) mainGlobals "EdgeView" = some (some (.ref 252)) := by kernel_rfl
theorem f_degree (w : World) : findIn (hd.heap_39 w.params) (.ref 617) "degree" = some (some (.ref 554)) := by kernel_rfl
theorem f_edges (w : World) : findIn (hd.heap_39 w.params) (.ref 617) "edges" = some (some (.ref 529)) := by kernel_rfl
theorem gt_554 (w : World) : specialIn (hd.heap_39 w.params) (.ref 554) "__get__" = some (some (.ref 309)) := by kernel_rfl
theorem gt_529 (w : World) : specialIn (hd.heap_39 w.params) (.ref 529) "__get__" = some (some (.ref 309)) := by kernel_rfl
theorem ta_554 (w : World) : takesIn (hd.heap_39 w.params) (.ref 554) = some false := by kernel_rfl
theorem ta_529 (w : World) : takesIn (hd.heap_39 w.params) (.ref 529) = some false := by kernel_rfl
theorem ok_degree (w : World) : ownOk (hd.heap_39 w.params) 617 "degree" = true := by kernel_rfl
theorem ok_edges (w : World) : ownOk (hd.heap_39 w.params) 617 "edges" = true := by kernel_rfl
theorem findObj_get {K : Frag} {C : Addr} {name : Str} {o : Obj} {a g : Value} (hh : hasDictIn K C = true) (ha : findIn K (.ref C) name = some (some a)) (hg : specialIn K a "__get__" = some (some g)) (ht : takesIn K a = some false) (hl : lookIn name o = some none) (hc : copiedNames.contains name = false) :
    findObj K C (some o) name = some (.bind g a) := by
  obtain ⟨cd, hcd, hd⟩ := any_some hh
  have own : PySem.W.ownOf cd (some o) name = some none := by unfold PySem.W.ownOf; rw [if_pos hd]; exact hl
  unfold findObj
  rw [hcd, ha]
  simp only [Option.bind_some, hg, ht, own, hc, Bool.false_and, Bool.false_eq_true, if_false]

theorem gf_deg (a : GA) (ev : Option Value) (v : Value) : (fun y => if y = Str.ofString "degree" then some v else gf a none ev y) = gf a (some v) ev := by
  funext y
  by_cases h : y = Str.ofString "degree"
  · subst h
    rw [if_pos rfl]
    rfl
  · rw [if_neg h]
    unfold gf
    rw [if_neg (c := y = "degree") h, if_neg (c := y = "degree") h]
theorem gf_edg (a : GA) (dv : Option Value) (v : Value) : (fun y => if y = Str.ofString "edges" then some v else gf a dv none y) = gf a dv (some v) := by
  funext y
  by_cases h : y = Str.ofString "edges"
  · subst h
    rw [if_pos rfl]
    rfl
  · rw [if_neg h]
    unfold gf
    rw [if_neg (c := y = "edges") h, if_neg (c := y = "edges") h]

/-- the graph's own dict is another -/
theorem Gr.reDx {C : Led} {a : GA} {dv ev dv' ev' : Option Value} {gk : List (Str × Value)} {σ : PS} (H : Gr C a dv ev gk σ) :
    Gr (upd C a.dx (.sm (gf a dv' ev') (3 + dv'.toList.length + ev'.toList.length) (dv'.isSome || ev'.isSome))) a dv' ev' gk σ := by
  have k : ∀ b c, C b = some c → (∀ f n h, c ≠ .sm f n h) → upd C a.dx (.sm (gf a dv' ev') (3 + dv'.toList.length + ev'.toList.length) (dv'.isSome || ev'.isSome)) b = some c := fun b c e hc => by
    rw [upd_ne (by rintro rfl; rw [H.dx] at e; cases e; exact hc _ _ _ rfl)]; exact e
  refine ⟨k _ _ H.x (by intros; intro q; cases q), upd_same .., H.gr.imp fun _ e => k _ _ e (by intros; intro q; cases q), ?_, ⟨H.tb.1.imp fun _ e => k _ _ e (by intros; intro q; cases q), H.tb.2.imp fun _ e => k _ _ e (by intros; intro q; cases q)⟩, ?_⟩
  · obtain ⟨nk, ep, h1, h2, h3⟩ := H.nd
    exact ⟨nk, ep, k _ _ h1 (by intros; intro q; cases q), h2, fun q hq => let ⟨b, e, ep', h⟩ := h3 q hq; ⟨b, e, ep', k _ _ h (by intros; intro q; cases q)⟩⟩
  · obtain ⟨ak, ep, h1, h2, h3⟩ := H.ad
    refine ⟨ak, ep, k _ _ h1 (by intros; intro q; cases q), h2, fun q hq => ?_⟩
    obtain ⟨b, e, r, ep', h4, h5, h6⟩ := h3 q hq
    exact ⟨b, e, r, ep', k _ _ h4 (by intros; intro q; cases q), h5, fun z hz => let ⟨k1, kvs, ep, k2, k3⟩ := h6 z hz; ⟨k1, kvs, ep, k _ _ k2 (by intros; intro q; cases q), k3⟩⟩
end Mine
end
section -- F10
open PySem PySem.W PySem.Calls PyProof.Rows
open Sem (wp)
namespace Mine
example : hd.heap_39 = hd.heap_39 ∧ PySem.Challenge.rw_ez0179_01 = PySem.Challenge.rw_ez0179_01 := by k_fill; exact ⟨rfl, rfl⟩
section
variable {p : Program} {loose : List Str} {mg mb : Str → Option Value}
  {w : World} {g : Heap} {L : Addr} {m : List (Str × Value)} {F : List (Addr × List (Str × Value))} {C : Led} {G : Array GenState} {O : OsState} {s : Shared} {A : Around} {E Q : Value → Shared → Prop} {env : Env}
  {a : GA} {dv ev : Option Value} {gk : List (Str × Value)} {σ : PS}

theorem ext_upd_upd {C C' : Led} {d : Addr} {c c' : Cell} (x : Ext (upd C d c) C') : Ext (upd C d c') (upd C' d c') := fun b e h => by
  by_cases q : b = d
  · subst q; rw [upd_same] at h ⊢; exact h
  · rw [upd_ne q] at h ⊢; exact x _ _ (by rw [upd_ne q]; exact h)
theorem keepsP_dx (H : Gr C a dv ev gk σ) {C' : Led} {c c' : Cell} (x : Ext (upd C a.dx c) C') : KeepsP C (upd C' a.dx c') := fun b e h hp => by
  have hb : b ≠ a.dx := by
    rintro rfl; rw [H.dx] at h; cases h; cases (hp : gf a dv ev "_adj" = none)
  rw [upd_ne hb]; exact x _ _ (by rw [upd_ne hb]; exact h)
theorem call_552 {x dx ad : Addr} {f : Str → Option Value} {n : Nat} {hot : Bool} (S : St w g L m F C G O s) (D : Wd (hd.heap_39 w.params) p loose mg mb g) (hh : A.handled = none) (hroom : A.depth + 10 < recursionLimit)
    (h1 : C x = some (.obj (instObj 617 dx))) (h2 : C dx = some (.sm f n hot)) (hf1 : f "_succ" = none) (hf2 : f "_pred" = none) (had : f "_adj" = some (.ref ad))
    (h : ∀ v dv s' C', C v = none → C dv = none → St w g L m F C' G O s' → Ext C C' → C' v = some (.obj (instObj 154 dv)) → C' dv = some (.sm (degF ad) 4 false) → Q (.ref v) s') :
    wpAny (model PR w) A (call (.ref 552) [.ref x]) Q E s := by
  refine wpAny_call ?_
  refine' r_enter (binds := [(Str.ofString "self", .ref x)]) S D ?ho ?hcd ?room ?hb ?hl ?_ ?c1 ?c2 ?c3 ?c4
  case ho => k_is
  case hcd => k_is
  case room => omega
  case hb => exact .of_eq rfl
  case hl => exact locs rfl
  case c1 => rfl
  case c2 => rfl
  case c3 => rfl
  case c4 => decide
  intro L1 s1 S1
  refine wpAny_execs_cons (wpAny_Return_some (Call_ (he := rfl) (r_glob S1 D (g_154 w) ?_)))
  refine callWith_K (h₀ := s1.heap) (D.X.keeps S1.keep) (kp_154 w) ?_
  refine wpAny_items_cons (he := rfl) (r_loc S1 rfl (wpAny_items_nil ⟨D.X.keeps S1.keep, ?_⟩))
  exact new_degree_spec S1 D hh (by show A.depth + 1 + 8 < _; omega) h1 h2 hf1 hf2 had fun v dvv s2 C2 e1 e2 S2 X2 e3 e4 => h v dvv _ _ e1 e2 (S.pop S2) X2 e3 e4
theorem call_527 {x dx ad : Addr} {f : Str → Option Value} {n : Nat} {hot : Bool} (S : St w g L m F C G O s) (D : Wd (hd.heap_39 w.params) p loose mg mb g) (hh : A.handled = none) (hroom : A.depth + 10 < recursionLimit)
    (h1 : C x = some (.obj (instObj 617 dx))) (h2 : C dx = some (.sm f n hot)) (hf1 : f "succ" = none) (had : f "_adj" = some (.ref ad))
    (h : ∀ v dv s' C', C v = none → C dv = none → St w g L m F C' G O s' → Ext C C' → C' v = some (.obj (instObj 252 dv)) → C' dv = some (.sm (edgF ad) 1 false) → Q (.ref v) s') :
    wpAny (model PR w) A (call (.ref 527) [.ref x]) Q E s := by
  refine wpAny_call ?_
  refine' r_enter (binds := [(Str.ofString "self", .ref x)]) S D ?ho ?hcd ?room ?hb ?hl ?_ ?c1 ?c2 ?c3 ?c4
  case ho => k_is
  case hcd => k_is
  case room => omega
  case hb => exact .of_eq rfl
  case hl => exact locs rfl
  case c1 => rfl
  case c2 => rfl
  case c3 => rfl
  case c4 => decide
  intro L1 s1 S1
  refine wpAny_execs_cons (wpAny_Return_some (Call_ (he := rfl) (r_glob S1 D (g_252 w) ?_)))
  refine callWith_K (h₀ := s1.heap) (D.X.keeps S1.keep) (kp_252 w) ?_
  refine wpAny_items_cons (he := rfl) (r_loc S1 rfl (wpAny_items_nil ⟨D.X.keeps S1.keep, ?_⟩))
  exact new_edge_spec S1 D hh (by show A.depth + 1 + 8 < _; omega) h1 h2 hf1 had fun v dvv s2 C2 e1 e2 S2 X2 e3 e4 => h v dvv _ _ e1 e2 (S.pop S2) X2 e3 e4

/-- what a view's record and dict are -/
def DegV (C : Led) (a : GA) (v : Addr) : Prop := ∃ d, C v = some (.obj (instObj 154 d)) ∧ C d = some (.sm (degF a.ad) 4 false)
def EdgV (C : Led) (a : GA) (v : Addr) : Prop := ∃ d, C v = some (.obj (instObj 252 d)) ∧ C d = some (.sm (edgF a.ad) 1 false)

/-- graph.degree, the first time -/
theorem degree_first {nf expr : Bool} (S : St w g L m F C G O s) (D : Wd (hd.heap_39 w.params) p loose mg mb g) (hh : A.handled = none) (hroom : A.depth + 16 < recursionLimit) (H : Gr C a none ev gk σ) (hev : ev.toList.length ≤ 1) (hnf : nf = true ∨ ev.isSome = true)
    (h : ∀ v s' C', St w g L m F C' G O s' → Gr C' a (some (.ref v)) ev gk σ → KeepsP C C' → DegV C' a v → Q (.ref v) s') : wpB nf (model PR w) A (getAttr (.ref a.x) "degree" expr) Q s := by
  obtain ⟨o, I, hl⟩ := inst_of S H.x H.dx
  have X := D.X.keeps S.keep
  refine b_bind X I (plainGet_of (pl_617 w "degree")).1 (findObj_get (hd_617 w) (f_degree w) (gt_554 w) (ta_554 w) (by rw [hl]; rfl) (by decide)) (plainGet_of (pl_617 w "degree")).2 ?_
  have hxd : a.x ≠ a.dx := ne_of_cells H.x H.dx (by intro q; cases q)
  refine get_spec (Rel := fun C' v => Ext (upd C a.dx (.sm (gf a none ev) (3 + (none : Option Value).toList.length + ev.toList.length) true)) C' ∧ ∃ d, C' v = some (.obj (instObj 154 d)) ∧ C' d = some (.sm (degF a.ad) 4 false) ∧ d ≠ a.dx ∧ v ≠ a.dx)
    (cp_degree w) (S.toks _) D (by show A.depth + 8 < _; omega) H.x H.dx rfl (by simp; omega) (hnf.imp id fun e => by rw [e]; rfl) (fun C' v r => r.1 _ _ (upd_same ..)) (fun A' L' m' F' s' Q' d1 d2 d3 S' k => ?_) (fun v C' s' r S' => ⟨rfl, ?_⟩)
  · refine call_552 S' D (by rw [d2]; exact hh) (by rw [d1]; show A.depth + 1 + 10 < _; omega) (by rw [upd_ne hxd]; exact H.x) (upd_same ..) rfl rfl rfl fun v dvv s2 C2 e1 e2 S2 X2 e3 e4 => ?_
    exact k v C2 s2 ⟨X2, dvv, e3, e4, (by rintro rfl; rw [upd_same] at e2; cases e2), (by rintro rfl; rw [upd_same] at e1; cases e1)⟩ S2
  · obtain ⟨X1, d, e1, e2, n1, n2⟩ := r
    have ef := gf_deg a ev (.ref v)
    have S2 : St w g L m F (upd C' a.dx (.sm (gf a (some (.ref v)) ev) (3 + (some (Value.ref v)).toList.length + ev.toList.length) ((some (Value.ref v)).isSome || ev.isSome))) G O s' := by
      rw [← ef]
      have en : 3 + (some (Value.ref v)).toList.length + ev.toList.length = 3 + (none : Option Value).toList.length + ev.toList.length + 1 := by simp; omega
      rw [en]
      exact S'
    refine h v s' _ S2 (H.reDx.ext (ext_upd_upd X1)) (keepsP_dx H X1) ⟨d, ?_, ?_⟩
    · rw [upd_ne n2]; exact e1
    · rw [upd_ne n1]; exact e2
/-- graph.edges, the first time -/
theorem edges_first {nf expr : Bool} (S : St w g L m F C G O s) (D : Wd (hd.heap_39 w.params) p loose mg mb g) (hh : A.handled = none) (hroom : A.depth + 16 < recursionLimit) (H : Gr C a dv none gk σ) (hev : dv.toList.length ≤ 1) (hnf : nf = true ∨ dv.isSome = true)
    (h : ∀ v s' C', St w g L m F C' G O s' → Gr C' a dv (some (.ref v)) gk σ → KeepsP C C' → EdgV C' a v → Q (.ref v) s') : wpB nf (model PR w) A (getAttr (.ref a.x) "edges" expr) Q s := by
  obtain ⟨o, I, hl⟩ := inst_of S H.x H.dx
  have X := D.X.keeps S.keep
  refine b_bind X I (plainGet_of (pl_617 w "edges")).1 (findObj_get (hd_617 w) (f_edges w) (gt_529 w) (ta_529 w) (by rw [hl]; rfl) (by decide)) (plainGet_of (pl_617 w "edges")).2 ?_
  have hxd : a.x ≠ a.dx := ne_of_cells H.x H.dx (by intro q; cases q)
  refine get_spec (Rel := fun C' v => Ext (upd C a.dx (.sm (gf a dv none) (3 + dv.toList.length + (none : Option Value).toList.length) true)) C' ∧ ∃ d, C' v = some (.obj (instObj 252 d)) ∧ C' d = some (.sm (edgF a.ad) 1 false) ∧ d ≠ a.dx ∧ v ≠ a.dx)
    (cp_edges w) (S.toks _) D (by show A.depth + 8 < _; omega) H.x H.dx rfl (by simp; omega) (hnf.imp id fun e => by rw [e]; rfl) (fun C' v r => r.1 _ _ (upd_same ..)) (fun A' L' m' F' s' Q' d1 d2 d3 S' k => ?_) (fun v C' s' r S' => ⟨rfl, ?_⟩)
  · refine call_527 S' D (by rw [d2]; exact hh) (by rw [d1]; show A.depth + 1 + 10 < _; omega) (by rw [upd_ne hxd]; exact H.x) (upd_same ..) rfl rfl fun v dvv s2 C2 e1 e2 S2 X2 e3 e4 => ?_
    exact k v C2 s2 ⟨X2, dvv, e3, e4, (by rintro rfl; rw [upd_same] at e2; cases e2), (by rintro rfl; rw [upd_same] at e1; cases e1)⟩ S2
  · obtain ⟨X1, d, e1, e2, n1, n2⟩ := r
    have ef := gf_edg a dv (.ref v)
    have S2 : St w g L m F (upd C' a.dx (.sm (gf a dv (some (.ref v))) (3 + dv.toList.length + (some (Value.ref v)).toList.length) (dv.isSome || (some (Value.ref v)).isSome))) G O s' := by
      rw [← ef]
      have en : 3 + dv.toList.length + (some (Value.ref v)).toList.length = 3 + dv.toList.length + (none : Option Value).toList.length + 1 := by simp
      rw [en, show (dv.isSome || (some (Value.ref v)).isSome) = true from by simp]
      exact S'
    refine h v s' _ S2 (H.reDx.ext (ext_upd_upd X1)) (keepsP_dx H X1) ⟨d, ?_, ?_⟩
    · rw [upd_ne n2]; exact e1
    · rw [upd_ne n1]; exact e2
end
end Mine
end
section -- F11
open PySem PySem.W PySem.Calls PyProof.Rows
open Sem (wp)
namespace Mine
section
variable {nf : Bool} {M : Model} {A : Around} {s : Shared} {K : Frag} {env : Env} {pos : Pos} {f : Value} {first : List Value} {Q : Value → Shared → Prop}
theorem wpB_keep {α : Type} {vs : List Value} {m : Sem α} {Q : α → Shared → Prop} (h : wpB nf M A m Q s) : wpB nf M A (m.keep vs) Q s := fun Γ p hΓ n => by rw [Sem.wp_keep]; exact h Γ p hΓ n
theorem wpB_point {Q : Unit → Shared → Prop} (h : Q () s) : wpB nf M A point Q s := fun _ _ _ _ => h
theorem b_callWith {P : Heap → Prop} {args : List (Bool × Sem Value)} {keywords : List (Option Str × Sem Value)} (hplain : (args.any (·.1) || keywords.any (·.1.isNone)) = false)
    (hk : ∀ h, P h → ∃ k, (k = Keeper.frame ∨ k = Keeper.machine ∨ k = Keeper.boundFrame) ∧ Looks M h (keeperOf f) k)
    (h : wpB nf M A (evalArgs f true args keywords) (fun a s₁ => P s₁.heap ∧ wpB nf M A (call f (first ++ a.pos) a.kw) Q s₁) s) : wpB nf M A (callWith pos f first args keywords) Q s := by
  unfold callWith
  refine wpB_bind (wpB_holding (wpB_mono h (fun a s₁ h₁ => wpB_bind (wpB_standAt ?_))))
  obtain ⟨k, hk', L⟩ := hk _ h₁.1
  simp only [hplain]
  refine looksB L (fun _ _ e => e) ?_
  have tail : ∀ {t : Sem Value}, wpB nf M A t Q s₁ → wpB nf M A (t >>= fun r => holding [r] point >>= fun _ => pure r) Q s₁ :=
    fun ht => wpB_bind (wpB_mono ht (fun r s₂ hr => wpB_bind (wpB_holding (wpB_point (wpB_pure hr)))))
  have marked (mk : Value) : wpB nf M A (callMarked mk f (first ++ a.pos) a.kw) Q s₁ := by unfold callMarked; exact wpB_keep h₁.2
  rcases hk' with rfl | rfl | rfl <;> dsimp only <;> first | exact tail h₁.2 | (split <;> first | exact tail h₁.2 | exact tail (marked _))
theorem b_spliced_one {x : Sem Value} {Q : List Value → Shared → Prop} (h : wpB nf M A x (fun v s₁ => Q [v] s₁) s) : wpB nf M A (spliced [(false, x)]) Q s := by
  rw [spliced]
  refine wpB_bind (wpB_mono h (fun v s₁ h₁ => ?_))
  simp only [Bool.false_eq_true, if_false]
  exact wpB_bind (wpB_pure (wpB_bind (wpB_holding (wpB_any (spliced_nil (wpB_pure h₁))))))
theorem b_evalArgs_plain {x : Sem Value} {rest : List (Bool × Sem Value)} {Q : Args → Shared → Prop}
    (h : wpB nf M A (spliced ((false, x) :: rest)) (fun vs s' => Q ⟨vs, []⟩ s') s) : wpB nf M A (evalArgs f true ((false, x) :: rest) []) Q s := by
  unfold evalArgs
  show wpB nf M A (spliced ((false, x) :: rest) >>= _) Q s
  refine wpB_bind (wpB_mono h (fun vs s' h' => ?_))
  refine wpB_holding ?_
  exact wpB_bind (wpB_pure (wpB_bind (wpB_pure (wpB_pure h'))))
/-- f(e), f a builtin: the argument walked with the knowledge -/
theorem b_callBuiltin1 {id : String} {e : Expr} (h : wpB nf M A (eval e env) (fun v s₁ => wpB nf M A (call (.builtin id) [v]) Q s₁) s)
    (he : starEach [e] env = (false, eval e env) :: starEach [] env := by rfl) : wpB nf M A (callWith pos (.builtin id) [] (backTo pos (starEach [e] env)) []) Q s := by
  rw [he]
  refine b_callWith (P := fun _ => True) (by rfl) (fun h _ => ⟨.machine, .inr (.inl rfl), fun A Q E s k q => wpAny_pure q⟩) ?_
  exact b_evalArgs_plain (x := eval e env) (rest := []) (b_spliced_one (wpB_mono h fun v s₁ h₁ => ⟨trivial, h₁⟩))
theorem b_Call {func : PySem.Expr} {args : List PySem.Expr} (h : wpAny M A (eval func env) (fun f s₁ => wpB nf M A (callWith pos f [] (backTo pos (starEach args env)) []) Q s₁) (fun _ _ => False) s)
    (he : eval (.Call func args [] pos) env = (do callWith pos (← eval func env) [] (backTo pos (starEach args env)) (backToKw pos (keywordEach [] env))) := by rfl) : wpB nf M A (eval (.Call func args [] pos) env) Q s := by
  rw [he]; exact wpB_bindA h
/-- a call of one of the world's functions: the arguments first, then the call with the knowledge -/
theorem b_callK {h₀ : Heap} {e : PySem.Expr} {rest : List PySem.Expr} (_X : K.In h₀) (hk : keepIn K f = true) (h : wpAny M A (spliced (backTo pos (starEach (e :: rest) env))) (fun vs s₁ => K.In s₁.heap ∧ wpB nf M A (call f (first ++ vs)) Q s₁) (fun _ _ => False) s)
    (he : starEach (e :: rest) env = (false, eval e env) :: starEach rest env := by rfl) (hplain : (backTo pos (starEach rest env)).any (·.1) = false := by rfl) :
    wpB nf M A (callWith pos f first (backTo pos (starEach (e :: rest) env)) []) Q s := by
  rw [he] at h ⊢
  exact b_callWith (by show ((false || (backTo pos (starEach rest env)).any (·.1)) || false) = false; rw [hplain]; rfl) (keeps_K hk) (wpB_any (evalArgs_plain h))
theorem b_callK0 (X : K.In s.heap) (hk : keepIn K f = true) (h : wpB nf M A (call f (first ++ [])) Q s) : wpB nf M A (callWith pos f first (backTo pos (starEach [] env)) []) Q s :=
  b_callWith rfl (keeps_K hk) (wpB_any (evalArgs_nil3 ⟨X, h⟩))
theorem b_MethodCall {o : PySem.Expr} {name : Str} {apos : Pos} {args : List PySem.Expr} {kws : List Keyword} {pl : Sem Bool}
    (h : wpAny M A (eval o env) (fun ov s₁ => wpB nf M A (getMethod ov name pl) (fun fx s₂ => wpB nf M A (callWith pos fx.1 fx.2 (backTo pos (starEach args env)) (backToKw pos (keywordEach kws env))) Q s₂) s₁) (fun _ _ => False) s)
    (he : eval (.Call (.Attribute o name apos) args kws pos) env = (do
      let ov ← eval o env
      standAt apos.atName
      let (f, first) ← holding [ov] (getMethod ov name pl)
      callWith pos f first (backTo pos (starEach args env)) (backToKw pos (keywordEach kws env))) := by rfl) :
    wpB nf M A (eval (.Call (.Attribute o name apos) args kws pos) env) Q s := by
  rw [he]
  refine wpB_bindA (wpAny_mono h (fun ov s₁ h₁ => wpB_bind (wpB_standAt (wpB_bind (wpB_holding (wpB_mono h₁ (fun fx s₂ h₂ => ?_)))))) fun _ _ x => x)
  exact h₂
theorem b_isTrue_value {e : PySem.Expr} {whole : Sem Value} {Q : Bool → Shared → Prop} (h : wpB nf M A whole (fun v s₁ => wpAny M A (truthy v) Q (fun _ _ => False) s₁) s)
    (he : isTrue e env whole = (do let v ← whole; standAt e.pos; holding [v] (truthy v)) := by rfl) : wpB nf M A (isTrue e env whole) Q s := by
  rw [he]
  exact wpB_bind (wpB_mono h (fun v s₁ h₁ => wpB_bind (wpB_standAt (wpB_holding (wpB_any h₁)))))
theorem b_isTrue_Not {x : PySem.Expr} {whole : Sem Value} {Q : Bool → Shared → Prop} (h : wpB nf M A (isTrue x env (eval x env)) (fun b s₁ => Q (!b) s₁) s) : wpB nf M A (isTrue (.UnaryOp .Not x pos) env whole) Q s := by
  rw [arm_isTrue_UnaryOp]
  exact wpB_bind (wpB_mono h (fun b s₁ h₁ => wpB_pure h₁))
theorem b_isTrue_BoolOp {op : BoolOp} {values : List PySem.Expr} {whole : Sem Value} {Q : Bool → Shared → Prop} (h : wpB nf M A (allTrue op values env) Q s) : wpB nf M A (isTrue (.BoolOp op values pos) env whole) Q s := by rw [arm_isTrue_BoolOp]; exact h
theorem b_Or_cons {x : PySem.Expr} {rest : List PySem.Expr} {Q : Bool → Shared → Prop}
    (h : wpB nf M A (isTrue x env (eval x env)) (fun b s₁ => if b then Q true s₁ else wpB nf M A (allTrue .Or rest env) Q s₁) s) : wpB nf M A (allTrue .Or (x :: rest) env) Q s := by
  show wpB nf M A (do match BoolOp.Or, ← isTrue x env (eval x env) with | .And, false => pure false | .Or, true => pure true | _, _ => allTrue .Or rest env) Q s
  refine wpB_bind (wpB_mono h (fun b s₁ h₁ => ?_))
  cases b
  · exact h₁
  · exact wpB_pure h₁
theorem b_Or_nil {Q : Bool → Shared → Prop} (h : Q false s) : wpB nf M A (allTrue .Or [] env) Q s := wpB_pure h
end

section
variable {nf : Bool} {prog : Program} {w : World} {A : Around} {s : Shared} {K : Frag} {x C : Addr} {ox : Obj} {od : Option Obj} {name : Str} {pl : Sem Bool} {Q : Value × List Value → Shared → Prop}
theorem b_method_usual {r : Option Value} (X : K.In s.heap) (I : InstAt s.heap x ox C od) (hga : findIn K (.ref C) "__getattribute__" = some (some (.builtin "object.__getattribute__"))) (hk : findIn K (.ref C) "__getattr__" = some none)
    (hf : findIn K (.ref C) name = some r) (ht : r.all (fun a => (typeIn K a).any fun t => t != .type "function" && t != .type "method_descriptor" && t != .type "wrapper_descriptor") = true)
    (h : wpB nf (model prog w) A (getAttr (.ref x) name) (fun v => Q (v, [])) s) : wpB nf (model prog w) A (getMethod (.ref x) name pl) Q s := by
  have hcan := PySem.F.canon_object_ga
  have u : wpB nf (model prog w) A (do return (← getAttr (.ref x) name, ([] : List Value))) Q s := wpB_bind (wpB_mono h (fun _ _ z => wpB_pure z))
  have L0 := I.type (M := model prog w)
  unfold getMethod specialOf
  refine wpB_bind (looksB L0 (fun _ _ e => e) (wpB_any ((looks_findIn X hga).here ?_)))
  dsimp only
  rw [hcan, if_neg (by decide)]
  refine wpB_bind (looksB L0 (fun _ _ e => e) (wpB_any ((looks_findIn X hk).here ?_)))
  refine wpB_bind (looksB L0 (fun _ _ e => e) (wpB_any ((looks_findIn X hf).here ?_)))
  cases r with
  | none => exact u
  | some a =>
    obtain ⟨t, a1, a2⟩ := any_some ht
    refine looksB (looks_typeIn X a1) (fun _ _ e => e) ?_
    rw [if_pos a2]; exact u
end
end Mine
end
section -- F12
open PySem PySem.W PySem.Calls PyProof.Rows
open Sem (wp)
namespace Mine
/-- a generator expression made, its own iterable walked with the knowledge -/
theorem b_genexp {nf : Bool} {M : Model} {A : Around} {s : Shared} {env : Env} {elt target iter : PySem.Expr} {ifs : List PySem.Expr} {scope : Scope} {cl : List (Str × Addr)} {pos : Pos} {Q : Value → Shared → Prop}
    (hco : scope.isCoroutine = false) (hclos : closureFor scope env = pure cl) (hcell : ∀ y ∈ scope.names, y.2 ≠ .cell) (h0 : scope.names.lookup (".0" : Str) = some NameKind.local) (hkind : scope.kind = .function)
    (hroom : A.depth < recursionLimit)
    (h : wpB nf M A (eval iter env) (fun xv s₁ => wpAny M A (pyIter xv) (fun it s₂ => s₂.heap.NoLimit ∧
      wpAny M A (genexprCode env pos (env.qual ++ "<genexpr>") scope) (fun code s₃ => wpAny M A (builtinsFor env.globals env.builtins) (fun bi s₄ =>
        ∀ h', h'.Ns s₄.heap.objs.size (fun y => if y = ".0" then some it else none) → Heap.SameBut s₄.heap.objs.size (s₄.heap.push { cls := .type "frame", data := .dict #[] }) h' →
          Q (.ref h'.objs.size) { s₄ with
            gens := s₄.gens.push (.fresh (.compStart (.GeneratorExp elt [⟨target, iter, ifs, 0⟩] scope pos) 0 it .none (genEnv scope cl s₄.heap.objs.size code bi env))),
            toks := s₄.toks + 1 + 1 + 1,
            heap := h'.push { cls := .type "generator", data := .fields #[.int s₄.gens.size 0, .str "<genexpr>" (s₄.toks + 1), .str (env.qual ++ "<genexpr>") (s₄.toks + 1 + 1)] } }) (fun _ _ => False) s₃) (fun _ _ => False) s₂) (fun _ _ => False) s₁) s)
    (hs : ∀ x, genFold iter env x = pure x) :
    wpB nf M A (eval (.GeneratorExp elt [⟨target, iter, ifs, 0⟩] scope pos) env) Q s := by
  rw [eval_GeneratorExp1 _ _ _ _ _ _ _ hco, hclos]
  have hbinds : ∀ it : Value, ∀ y ∈ ([((".0" : Str), it)] : List (Str × Value)), scope.names.lookup y.1 = some NameKind.local := fun it y hy => by
    rcases List.mem_cons.mp hy with rfl | hy
    · exact h0
    · cases hy
  refine wpB_bind (wpB_mono h fun xv s₁ h₁ => wpB_bind (wpB_standAt (wpB_any ?_)))
  refine wpAny_bind (wpAny_of_eq (hs xv) (wpAny_bind (wpAny_holding (wpAny_mono h₁ (fun it s₂ h₂ => ?_) fun _ _ e => e))))
  refine wpAny_bind (wpAny_enterFrame h₂.1 hroom (wpAny_bind (wpAny_pure (wpAny_bind (wpAny_mono h₂.2 (fun code s₃ h₃ => ?_) fun _ _ e => e)))))
  refine wpAny_bind (wpAny_mono h₃ (fun bi s₄ h₄ => wpAny_bind (wpAny_newFunctionEnv hcell (hbinds it) (fun h' hn' hs' => ?_) hkind)) fun _ _ e => e)
  have e : (fun y : Str => ([((".0" : Str), it)] : List (Str × Value)).reverse.lookup y) = fun y : Str => if y = (".0" : Str) then some it else none := by
    funext y
    by_cases hy : y = ".0"
    · subst hy; simp
    · have : (y == (".0" : Str)) = false := by simpa using hy
      simp [List.lookup, this, hy]
  rw [e] at hn'
  simp only [newGenerator, newFields]
  exact wpAny_bind (wpAny_newGen (wpAny_bind (wpAny_mkText (wpAny_bind (wpAny_mkText (wpAny_newObj_type (h₄ h' hn' hs') (by size_fits)))))))
end Mine
end
section -- Sc
open PySem PySem.W PySem.Calls PyProof.Rows
namespace Mine
def laid (C : Led) : List (Str × Addr) → (Str → Option Value) → Led
  | [], _ => C
  | (n, c) :: r, cm => upd (laid C r cm) c (.cv (cm n))
theorem laid_get {C : Led} {cm : Str → Option Value} : ∀ {cs : List (Str × Addr)}, (cs.Pairwise fun x y => x.2 ≠ y.2) → ∀ n c, cs.lookup n = some c → laid C cs cm c = some (.cv (cm n))
  | (k, d) :: r, hp, n, c, h => by
    rw [List.lookup_cons] at h
    cases hk : n == k with
    | true =>
      rw [hk] at h
      obtain rfl := eq_of_beq hk
      cases h; exact upd_same ..
    | false =>
      rw [hk] at h
      have h1 := (List.pairwise_cons.mp hp).1 _ (PySem.mem_of_lookup h)
      show upd _ d _ c = _
      rw [upd_ne (Ne.symm h1)]
      exact laid_get (List.pairwise_cons.mp hp).2 n c h
  | [], _, _, _, h => by cases h
theorem cells_nd : ∀ (names : List (Str × NameKind)) (k : Nat) (acc : List (Str × Addr)), (names.map (·.1)).Nodup → (acc.map (·.1)).Nodup → (∀ x ∈ names.map (·.1), x ∉ acc.map (·.1)) → ((cellsFrom k names acc).map (·.1)).Nodup
  | [], _, _, _, h, _ => h
  | (n, kd) :: r, k, acc, h1, h2, h3 => by
    obtain ⟨h4, h5⟩ := List.nodup_cons.mp h1
    unfold cellsFrom
    split
    · refine cells_nd r _ _ h5 (List.nodup_cons.mpr ⟨h3 n (.head _), h2⟩) fun x hx hm => ?_
      rcases List.mem_cons.mp hm with rfl | hm
      · exact h4 hx
      · exact h3 x (.tail _ hx) hm
    · exact cells_nd r _ _ h5 h2 fun x hx => h3 x (.tail _ hx)
theorem lookup_nd : ∀ {l : List (Str × Addr)}, (l.map (·.1)).Nodup → ∀ {n c}, (n, c) ∈ l → l.lookup n = some c
  | (k, d) :: r, h, n, c, hm => by
    obtain ⟨h1, h2⟩ := List.nodup_cons.mp h
    rw [List.lookup_cons]
    rcases List.mem_cons.mp hm with e | hm2
    · cases e; rw [beq_self_eq_true]
    · have : (n == k) = false := beq_eq_false_iff_ne.mpr (by rintro rfl; exact h1 (show n ∈ r.map (·.1) from List.mem_map.mpr ⟨(n, c), hm2, rfl⟩))
      rw [this]; exact lookup_nd h2 hm2
theorem laid_ext {C : Led} {cm : Str → Option Value} : ∀ {cs : List (Str × Addr)}, (∀ n c, (n, c) ∈ cs → C c = none) → Ext C (laid C cs cm)
  | [], _ => .refl _
  | (k, d) :: r, h => fun b c e => by
    show upd _ d _ b = _
    rw [upd_ne (by rintro rfl; rw [h _ _ (.head _)] at e; cases e)]
    exact laid_ext (fun n c hm => h n c (.tail _ hm)) b c e

section
variable {w : World} {g : Heap} {L L' : Addr} {m m' : List (Str × Value)} {F : List (Addr × List (Str × Value))} {C : Led} {G : Array GenState} {O : OsState} {s s' : Shared}
theorem St.learnOff (S : St w g L m F C G O s) {a : Addr} {c : Cell} (off : (a ≠ L ∧ ∀ p ∈ F, a ≠ p.1) ∧ g.get? a = none ∧ sysModules < a) (hc : Sat w s.heap a c) : St w g L m F (upd C a c) G O s := by
  refine ⟨S.ns, S.keep, S.nl, S.frs, fun b d e => ?_, fun b d e => ?_, S.hi, S.gens, S.os, S.ab⟩
  · by_cases hb : b = a
    · subst hb; rw [upd_same] at e; cases e; exact hc
    · rw [upd_ne hb] at e; exact S.sat b d e
  · by_cases hb : b = a
    · subst hb; exact ⟨off.1, off.2.1, fun _ => off.2.2⟩
    · rw [upd_ne hb] at e; exact S.off b d e
/-- into a new frame that has cells of its own -/
theorem St.intoC (S : St w g L m F C G O s) {mf cm : Str → Option Value} {cs : List (Str × Addr)} (X : InCallC s L' mf cs cm s') (hl : L' = s.heap.objs.size) (hnd : (cs.map (·.1)).Nodup) (hm : ∀ x v, m'.lookup x = some v → mf x = some v) :
    (∀ n c, (n, c) ∈ cs → C c = none ∧ L' < c) ∧ St w g L' m' ((L, m) :: F) (laid C cs cm) G O s' := by
  subst hl
  obtain ⟨h', tk, rfl⟩ := X.toInCall.same
  have S1 := S.into (s' := { s with heap := h', toks := tk }) (m' := m') (Nat.le_refl _) X.toInCall.keep ⟨mf, X.toInCall.ns, hm⟩ S.gens S.os
  have hfree : ∀ n c, (n, c) ∈ cs → C c = none ∧ s.heap.objs.size < c := fun n c hnc => ⟨S.freeLe (Nat.le_of_lt (X.above n c hnc)), X.above n c hnc⟩
  refine ⟨hfree, ?_⟩
  have key : ∀ ds : List (Str × Addr), (∀ n c, (n, c) ∈ ds → s.heap.objs.size < c) → (∀ n c, (n, c) ∈ ds → h'.IsCell c (cm n)) → St w g s.heap.objs.size m' ((L, m) :: F) (laid C ds cm) G O { s with heap := h', toks := tk } := by
    intro ds
    induction ds with
    | nil => intro _ _; exact S1
    | cons x r ih =>
      obtain ⟨n, c⟩ := x
      intro h1 h2
      refine (ih (fun n c h => h1 n c (.tail _ h)) fun n c h => h2 n c (.tail _ h)).learnOff ?_ (h2 n c (.head _))
      have hc := h1 n c (.head _)
      obtain ⟨⟨k1, k2⟩, k3, k4⟩ := S.newOff (Nat.le_of_lt hc)
      refine ⟨⟨Nat.ne_of_gt hc, fun p hp => ?_⟩, k3, k4⟩
      rcases List.mem_cons.mp hp with rfl | hp
      · exact k1
      · exact k2 p hp
  exact key cs (fun n c h => X.above n c h) fun n c h => X.cell n c (lookup_nd hnd h)
end

theorem bindL_get {kd : Str → Option NameKind} : ∀ {binds : List (Str × Value)} {m : Str → Option Value} {x : Str} {v : Value}, (binds.map (·.1)).Nodup → ((x, v) ∈ binds ∧ kd x = some .local ∨ x ∉ binds.map (·.1) ∧ m x = some v) → bindL kd binds m x = some v
  | [], m, x, v, _, h => by
    rcases h with ⟨h, _⟩ | ⟨_, h⟩
    · cases h
    · exact h
  | (n, u) :: r, m, x, v, hn, h => by
    obtain ⟨h1, h2⟩ := List.nodup_cons.mp hn
    unfold bindL
    refine bindL_get h2 ?_
    rcases h with ⟨h, hk⟩ | ⟨h, hk⟩
    · rcases List.mem_cons.mp h with e | h
      · cases e
        exact .inr ⟨h1, by rw [if_pos hk]; exact if_pos rfl⟩
      · exact .inl ⟨h, hk⟩
    · refine .inr ⟨fun q => h (.tail _ q), ?_⟩
      have hx : x ≠ n := by rintro rfl; exact h (.head _)
      split
      · exact (if_neg hx).trans hk
      · exact hk
theorem bindC_get {kd : Str → Option NameKind} : ∀ {binds : List (Str × Value)} {m : Str → Option Value} {x : Str}, (binds.map (·.1)).Nodup → kd x ≠ some .local → bindC kd binds m x = match binds.lookup x with | some v => some v | none => m x
  | [], m, x, _, _ => rfl
  | (n, u) :: r, m, x, hn, hk => by
    obtain ⟨h1, h2⟩ := List.nodup_cons.mp hn
    unfold bindC
    rw [bindC_get h2 hk, List.lookup_cons]
    by_cases hx : x = n
    · subst hx
      rw [beq_self_eq_true, if_neg hk]
      have : r.lookup x = none := by
        rw [List.lookup_eq_none_iff]; intro q hq
        have : x ≠ q.1 := by rintro rfl; exact h1 (show q.1 ∈ r.map (·.1) from List.mem_map.mpr ⟨q, hq, rfl⟩)
        simp [this]
      rw [this]; exact if_pos rfl
    · rw [beq_eq_false_iff_ne.mpr hx]
      dsimp only
      cases r.lookup x with
      | some _ => rfl
      | none =>
        dsimp only
        split
        · rfl
        · exact if_neg hx

section
variable {K : Frag} {p : Program} {loose : List Str} {mg mb : Str → Option Value} {nf : Bool}
  {w : World} {g : Heap} {L : Addr} {m : List (Str × Value)} {F : List (Addr × List (Str × Value))} {C : Led} {G : Array GenState} {O : OsState} {s : Shared} {A : Around}
/-- the names told by a frame that has cells: the locals; what its cells hold -/
def locOf (scope : Scope) (binds : List (Str × Value)) : List (Str × Value) := binds.filter fun q => scope.names.lookup q.1 == some .local
/-- what a new frame with cells brings -/
structure NewC (scope : Scope) (binds : List (Str × Value)) (L' : Addr) (C C' : Led) : Prop where
  ext : Ext C C'
  get : ∀ n c, (cellsFrom (L' + 1) scope.names []).lookup n = some c → C' c = some (.cv (binds.lookup n)) ∧ C c = none
structure OkC (scope : Scope) (binds : List (Str × Value)) : Prop where
  nd : (scope.names.map (·.1)).Nodup
  bd : (binds.map (·.1)).Nodup
  kinds : ∀ x ∈ binds, scope.names.lookup x.1 = some .local ∨ scope.names.lookup x.1 = some .cell
def okcB (scope : Scope) (names : List Str) : Bool := decide (scope.names.map (·.1)).Nodup && decide names.Nodup && names.all fun x => scope.names.lookup x == some .local || scope.names.lookup x == some .cell
theorem OkC.of {scope : Scope} {binds : List (Str × Value)} (h : okcB scope (binds.map (·.1)) = true) : OkC scope binds := by
  unfold okcB at h
  simp only [Bool.and_eq_true, decide_eq_true_eq] at h
  refine ⟨h.1.1, h.1.2, fun x hx => ?_⟩
  have := List.all_eq_true.mp h.2 x.1 (List.mem_map_of_mem hx)
  simpa using this
theorem mem_lookup_kind {names : List (Str × NameKind)} {x : Str} {k : NameKind} (h : names.lookup x = some k) : (x, k) ∈ names := by
  induction names with
  | nil => cases h
  | cons y r ih =>
    obtain ⟨a, b⟩ := y
    rw [List.lookup_cons] at h
    cases hb : x == a with
    | true => rw [hb] at h; cases h; rw [eq_of_beq hb]; exact .head _
    | false => rw [hb] at h; exact .tail _ (ih h)
theorem cells_mem : ∀ (names : List (Str × NameKind)) (k : Nat) (acc : List (Str × Addr)) (x : Str), ((x, NameKind.cell) ∈ names ∨ x ∈ acc.map (·.1)) ↔ x ∈ (cellsFrom k names acc).map (·.1)
  | [], _, _, x => by unfold cellsFrom; simp
  | (n, kd) :: r, k, acc, x => by
    unfold cellsFrom
    split
    · rename_i hk
      have : kd = .cell := by simpa using hk
      subst this
      rw [← cells_mem r]
      simp only [List.mem_cons, Prod.mk.injEq, and_true, List.map_cons]
      constructor
      · rintro ((rfl | h) | h)
        · exact .inr (.inl rfl)
        · exact .inl h
        · exact .inr (.inr h)
      · rintro (h | rfl | h)
        · exact .inl (.inr h)
        · exact .inl (.inl rfl)
        · exact .inr h
    · rename_i hk
      have : kd ≠ .cell := by simpa using hk
      rw [← cells_mem r]
      simp only [List.mem_cons, Prod.mk.injEq]
      constructor
      · rintro ((⟨_, e⟩ | h) | h)
        · exact absurd e.symm this
        · exact .inl h
        · exact .inr h
      · rintro (h | h)
        · exact .inl (.inr h)
        · exact .inr h
theorem lookup_isSome {l : List (Str × Addr)} {x : Str} (h : x ∈ l.map (·.1)) : (l.lookup x).isSome = true := by
  cases q : l.lookup x with
  | some _ => rfl
  | none =>
    rw [List.lookup_eq_none_iff] at q
    obtain ⟨y, hy, rfl⟩ := List.mem_map.mp h
    have := q y hy; simp at this
theorem St.newC {scope : Scope} {binds : List (Str × Value)} {s' : Shared} {kd : Str → Option NameKind} (S : St w g L m F C G O s) (ok : OkC scope binds) (hkd : ∀ x, kd x = scope.names.lookup x)
    (X : InCallC s s.heap.objs.size (bindL kd binds fun _ => none) (cellsFrom (s.heap.objs.size + 1) scope.names []) (bindC kd binds fun _ => none) s') :
    ∃ C', NewC scope binds s.heap.objs.size C C' ∧ St w g s.heap.objs.size (locOf scope binds) ((L, m) :: F) C' G O s' := by
  have hnd := cells_nd scope.names (s.heap.objs.size + 1) [] ok.nd List.nodup_nil (fun _ _ h => by cases h)
  obtain ⟨h1, S1⟩ := S.intoC (m' := locOf scope binds) X rfl hnd (fun x v h => by
    have hm := Mine.mem_of_lookup h
    unfold locOf at hm
    obtain ⟨hm, hk⟩ := List.mem_filter.mp hm
    exact bindL_get ok.bd (.inl ⟨hm, (hkd x).trans (by simpa using hk)⟩))
  refine ⟨_, ⟨laid_ext fun n c h => (h1 n c h).1, fun n c h => ⟨?_, (h1 n c (PySem.mem_of_lookup h)).1⟩⟩, S1⟩
  rw [laid_get X.apart n c h]
  have hc : (n, NameKind.cell) ∈ scope.names := by
    have := (cells_mem scope.names (s.heap.objs.size + 1) [] n).mpr (List.mem_map_of_mem (PySem.mem_of_lookup h))
    rcases this with h | h
    · exact h
    · cases h
  have hk : kd n ≠ some .local := by
    rw [hkd]
    intro q
    have hq := mem_lookup_kind q
    have : ∀ {l : List (Str × NameKind)}, (l.map (·.1)).Nodup → ∀ {a b}, (n, a) ∈ l → (n, b) ∈ l → a = b := by
      intro l
      induction l with
      | nil => intro _ _ _ h; cases h
      | cons y r ih =>
        intro hn a b ha hb
        obtain ⟨k1, k2⟩ := List.nodup_cons.mp hn
        rcases List.mem_cons.mp ha with e1 | ha2 <;> rcases List.mem_cons.mp hb with e2 | hb2
        · rw [← e2] at e1; cases e1; rfl
        · exact absurd (show y.1 ∈ r.map (·.1) from List.mem_map.mpr ⟨(n, b), hb2, by rw [← e1]⟩) k1
        · exact absurd (show y.1 ∈ r.map (·.1) from List.mem_map.mpr ⟨(n, a), ha2, by rw [← e2]⟩) k1
        · exact ih k2 ha2 hb2
    exact absurd (this ok.nd hc hq) (by decide)
  rw [bindC_get ok.bd hk]
  cases binds.lookup n <;> rfl
theorem OkC.kindOk {scope : Scope} {binds : List (Str × Value)} (ok : OkC scope binds) {k : Nat} : ∀ x ∈ binds, scope.names.lookup x.1 = some .local ∨ (scope.names.lookup x.1 = some .cell ∧ ((cellsFrom k scope.names []).lookup x.1).isSome = true) := fun x hx => by
  rcases ok.kinds x hx with h | h
  · exact .inl h
  · exact .inr ⟨h, lookup_isSome ((cells_mem scope.names k [] x.1).mp (.inl (mem_lookup_kind h)))⟩

/-- a generator's function with cells of its own called -/
theorem r_genfnC {R : Result → Shared → Prop} {name qual : Str} {params : Arguments} {body : List Stmt} {scope : Scope} {dV kV doc pm cdv ct oc : Value} {an od : Option Addr} {osl : Array (Option Value)} {f : Addr} {args : Args} {binds : List (Str × Value)}
    (S : St w g L m F C G O s) (D : Wd K p loose mg mb g)
    (ho : K.lookup f = some ⟨oc, od, .func (fnOf name qual params body scope dV kV doc pm an cdv ct), osl⟩) (hcd : codeIn K cdv qual = true) (hroom : A.depth < recursionLimit)
    (hbind : BindsTo s (fnOf name qual params body scope dV kV doc pm an cdv ct) args binds) (ok : OkC scope binds)
    (h : ∀ L' C' it s', NewC scope binds L' C C' → C L' = none → C' L' = none → C' it = none → L' ≠ it → g.objs.size ≤ L' → St w g L m F (upd (upd C' L' (.ns (locOf scope binds))) it (.gen G.size)) (G.push (.fresh (.func body (envX qual scope L' f cdv (cellsFrom (L' + 1) scope.names []))))) O s' → R (.ok (.ret (.ref it))) s')
    (hco : scope.isCoroutine = false := by rfl) (hgen : scope.isGenerator = true := by rfl) (hk : scope.kind = .function := by rfl) : codeAny (model PR w) A (.call (.ref f) args) R s := by
  obtain rfl := S.gens
  have X := D.X.keeps S.keep
  refine codeAny_call_generator (fd := fnOf name qual params body scope dV kV doc pm an cdv ct) (body := body) hroom (X _ _ ho) rfl hco hgen rfl (codeRec_of X hcd) (hbind _ _ _ _ ?_)
  refine wpAny_newFunctionEnv_cells hk ok.kindOk (fun env he s1 x => ?_)
  subst he
  obtain ⟨C', N, S1⟩ := S.newC ok (fun _ => rfl) x
  refine ⟨(D.T.nolimit.keeps S1.keep), ?_⟩
  have S2 := S.sleep S1
  have S3 := S2.push (o := { cls := .type "generator", data := .fields #[.int s1.gens.size 0, .str name s1.toks, .str qual (s1.toks + 1)] }) (c := .gen s1.gens.size) (t := s1.toks + 1 + 1)
    ⟨_, _, _, Heap.get?_push_size _ rfl, rfl, rfl, rfl⟩
  have hfree := S2.free
  have hne : s.heap.objs.size ≠ s1.heap.objs.size := Nat.ne_of_lt S1.lt
  rw [S1.gens] at S3 ⊢
  have hC'L : C' s.heap.objs.size = none := by
    cases q : C' s.heap.objs.size with
    | none => rfl
    | some c => exact absurd rfl (S1.off _ _ q).1.1
  refine h s.heap.objs.size C' s1.heap.objs.size _ N S.free hC'L ?_ hne ?_ (S3.setG _)
  · have := hfree; rw [upd_ne (Ne.symm hne)] at this; exact this
  · exact Nat.le_trans S.ab.1 (Nat.le_of_lt S.lt)
/-- into a def with cells of its own -/
theorem r_enterC {R : Result → Shared → Prop} {name qual : Str} {params : Arguments} {body : List Stmt} {scope : Scope} {dV kV doc pm cdv ct oc : Value} {an od : Option Addr} {osl : Array (Option Value)} {f : Addr} {args : Args} {binds : List (Str × Value)}
    (S : St w g L m F C G O s) (D : Wd K p loose mg mb g)
    (ho : K.lookup f = some ⟨oc, od, .func (fnOf name qual params body scope dV kV doc pm an cdv ct), osl⟩) (hcd : codeIn K cdv qual = true) (hroom : A.depth < recursionLimit)
    (hbind : BindsTo s (fnOf name qual params body scope dV kV doc pm an cdv ct) args binds) (ok : OkC scope binds)
    (h : ∀ L' C' s', NewC scope binds L' C C' → St w g L' (locOf scope binds) ((L, m) :: F) C' G O s' →
      wpAny (model PR w) (A.deeper (envX qual scope L' f cdv (cellsFrom (L' + 1) scope.names []))) (execs body (envX qual scope L' f cdv (cellsFrom (L' + 1) scope.names [])))
        (fun fl s'' => R (.ok (.ret (match fl with | .ret v => v | _ => .none))) s'')
        (fun e s'' => wpAny (model PR w) (A.deeper (envX qual scope L' f cdv (cellsFrom (L' + 1) scope.names []))) (leaving (envX qual scope L' f cdv (cellsFrom (L' + 1) scope.names [])) e) (fun _ s3 => R (.error e) s3) (fun e' s3 => R (.error e') s3) s'') s')
    (hco : scope.isCoroutine = false := by rfl) (hgen : scope.isGenerator = false := by rfl) (hk : scope.kind = .function := by rfl) : codeAny (model PR w) A (.call (.ref f) args) R s := by
  have X := D.X.keeps S.keep
  refine codeAny_call_function (fd := fnOf name qual params body scope dV kV doc pm an cdv ct) (body := body) hroom (X _ _ ho) rfl hco hgen rfl (codeRec_of X hcd) (hbind _ _ _ _ ?_)
  refine wpAny_newFunctionEnv_cells hk ok.kindOk (fun env he s1 x => ?_)
  subst he
  obtain ⟨C', N, S1⟩ := S.newC ok (fun _ => rfl) x
  exact ⟨(D.T.nolimit.keeps S1.keep), codeAny_func (h _ C' s1 N S1)⟩
theorem b_enterC {Q : Value → Shared → Prop} {name qual : Str} {params : Arguments} {body : List Stmt} {scope : Scope} {dV kV doc pm cdv ct oc : Value} {an od : Option Addr} {osl : Array (Option Value)} {f : Addr} {pos : List Value} {kw : List (Str × Value)} {binds : List (Str × Value)}
    (S : St w g L m F C G O s) (D : Wd K p loose mg mb g)
    (ho : K.lookup f = some ⟨oc, od, .func (fnOf name qual params body scope dV kV doc pm an cdv ct), osl⟩) (hcd : codeIn K cdv qual = true) (hroom : A.depth < recursionLimit)
    (hbind : BindsTo s (fnOf name qual params body scope dV kV doc pm an cdv ct) ⟨pos, kw⟩ binds) (ok : OkC scope binds)
    (h : ∀ L' C' s', NewC scope binds L' C C' → St w g L' (locOf scope binds) ((L, m) :: F) C' G O s' →
      wpB nf (model PR w) (A.deeper (envX qual scope L' f cdv (cellsFrom (L' + 1) scope.names []))) (execs body (envX qual scope L' f cdv (cellsFrom (L' + 1) scope.names [])))
        (fun fl s'' => Q (match fl with | .ret v => v | _ => .none) s'') s')
    (hco : scope.isCoroutine = false := by rfl) (hgen : scope.isGenerator = false := by rfl) (hk : scope.kind = .function := by rfl) : wpB nf (model PR w) A (call (.ref f) pos kw) Q s := by
  have X := D.X.keeps S.keep
  refine wpB_call (codeB_call_function (fd := fnOf name qual params body scope dV kV doc pm an cdv ct) (body := body) hroom (X _ _ ho) rfl hco hgen rfl (codeRec_of X hcd) (hbind _ _ _ _ ?_))
  refine wpAny_newFunctionEnv_cells hk ok.kindOk (fun env he s1 x => ?_)
  subst he
  obtain ⟨C', N, S1⟩ := S.newC ok (fun _ => rfl) x
  exact ⟨(D.T.nolimit.keeps S1.keep), codeB_func (h _ C' s1 N S1)⟩
end
end Mine
end
section -- S11
open PySem PySem.W PySem.Calls PyProof.Rows
open Sem (wp)
namespace Mine
section
variable {w : World} {g : Heap} {L : Addr} {m : List (Str × Value)} {F : List (Addr × List (Str × Value))} {C : Led} {G : Array GenState} {O : OsState} {s : Shared} {A : Around} {E : Value → Shared → Prop} {env : Env}
/-- the code object of a generator expression, made or found -/
theorem r_gcode {c P : Addr} {ps : Array Value} {pos : Pos} {qual : Str} {scope : Scope} {Q : Value → Shared → Prop} (S : St w g L m F C G O s) (hc : env.code = .ref c) (hcd : CodeHd s.heap c P) (hP : C P = some (.tab ps))
    (h : ∀ code s' ps', St w g L m F (upd C P (.tab ps')) G O s' → Q code s') : wpAny (model PR w) A (genexprCode env pos qual scope) Q E s := by
  obtain ⟨t1, t2⟩ := S.sat P _ hP
  have hok := hcd.code t1 t2
  cases q : codeAmong pos ps.toList with
  | some cv =>
    refine wpAny_genexprCode_hit hc hok q (h cv s ps ?_)
    have e : upd C P (.tab ps) = C := by
      funext b
      by_cases hb : b = P
      · subst hb; rw [upd_same, hP]
      · rw [upd_ne hb]
    rw [e]; exact S
  | none =>
    refine wpAny_genexprCodeX hc hok (hcd.tab t1) q fun c' h' tk hx _ _ hcode _ htab _ => h _ _ _ (S.putX hP hx ⟨htab.2, ?_⟩ S.gens S.os)
    obtain ⟨_, _, _, _, _, _, _, _, _, _, _, _, _, _, _, _, _, _, e, htr, _⟩ := hcode
    exact htr

def BMd (mg : Str → Option Value) (g : Heap) : Prop := ∃ bm ob, BMod g mainGlobals mg bm ob
/-- a generator expression made: its frame asleep, its record -/
theorem b_genS {nf : Bool} {mg : Str → Option Value} {elt target iter : PySem.Expr} {ifs : List PySem.Expr} {scope : Scope} {cl : List (Str × Addr)} {pos : Pos} {c P : Addr} {Q : Value → Shared → Prop} (BM : BMd mg g) (hl : g.NoLimit) (hcd : CodeHd g c P)
    (hco : scope.isCoroutine = false) (hclos : closureFor scope env = pure cl) (hcell : ∀ y ∈ scope.names, y.2 ≠ .cell) (h0 : scope.names.lookup (".0" : Str) = some NameKind.local) (hkind : scope.kind = .function)
    (hroom : A.depth < recursionLimit) (hcode : env.code = .ref c) (hg : env.globals = mainGlobals)
    (h : wpB nf (model PR w) A (eval iter env) (fun xv s₁ => wpAny (model PR w) A (pyIter xv) (fun itv s₂ => ∃ C₂ G₂ ps, St w g L m F C₂ G₂ O s₂ ∧ C₂ P = some (.tab ps) ∧
      ∀ Lg I s' ps' code, C₂ Lg = none → C₂ I = none → Lg ≠ I → g.objs.size ≤ Lg →
        St w g L m F (upd (upd (upd C₂ P (.tab ps')) Lg (.ns [(".0", itv)])) I (.gen G₂.size)) (G₂.push (.fresh (.compStart (.GeneratorExp elt [⟨target, iter, ifs, 0⟩] scope pos) 0 itv .none (genEnv scope cl Lg code builtinsNs env)))) O s' → Q (.ref I) s')
        (fun _ _ => False) s₁) s)
    (hs : ∀ x, genFold iter env x = pure x := by intro _; rfl) :
    wpB nf (model PR w) A (eval (.GeneratorExp elt [⟨target, iter, ifs, 0⟩] scope pos) env) Q s := by
  refine b_genexp hco hclos hcell h0 hkind hroom (wpB_mono h fun xv s₁ h₁ => wpAny_mono h₁ (fun itv s₂ h₂ => ?_) fun _ _ e => e) hs
  obtain ⟨C₂, G₂, ps, S2, hP, hQ⟩ := h₂
  refine ⟨hl.keeps S2.keep, r_gcode S2 hcode (hcd.keeps S2.keep) hP fun code s3 ps' S3 => ?_⟩
  obtain ⟨bm, ob, B⟩ := BM
  have B3 := B.keeps S3.keep
  refine wpAny_builtinsFor (by rw [hg]; exact B3.ns) B3.name B3.ne B3.obj B3.cls B3.dict B3.data fun h' hn hsb => ?_
  have hk₁ : ∀ b o, s3.heap.get? b = some o → h'.get? b = some o := fun b o e => hsb.extBut b o (Nat.ne_of_lt (Heap.lt_size e)) (Heap.get?_push_of_some _ e)
  have S4 := S3.into (s' := { s3 with heap := h', toks := s3.toks + 1 }) (m' := [((Str.ofString ".0", itv) : Str × Value)]) (Nat.le_refl _) hk₁ ⟨_, hn, fun x v e => by
    rw [List.lookup_cons] at e
    by_cases hx : x = Str.ofString ".0"
    · subst hx; rw [beq_self_eq_true] at e; exact (if_pos rfl).trans e
    · rw [beq_eq_false_iff_ne.mpr hx] at e; cases e⟩ S3.gens S3.os
  have S5 := S3.sleep S4
  have hS4g : s3.gens.size = G₂.size := by rw [S3.gens]
  have S6 := S5.push (o := { cls := .type "generator", data := .fields #[.int s3.gens.size 0, .str "<genexpr>" (s3.toks + 1), .str (env.qual ++ "<genexpr>") (s3.toks + 1 + 1)] }) (c := .gen s3.gens.size) (t := s3.toks + 1 + 1 + 1)
    ⟨_, _, _, Heap.get?_push_size _ rfl, rfl, rfl, rfl⟩
  have hP3 : upd C₂ P (.tab ps') s3.heap.objs.size = none := S3.free
  have hfree := S5.free
  have hne : s3.heap.objs.size ≠ h'.objs.size := Nat.ne_of_lt S4.lt
  have hnP : ∀ b, upd C₂ P (.tab ps') b = none → C₂ b = none := fun b e => by
    by_cases hb : b = P
    · subst hb; rw [upd_same] at e; cases e
    · rw [upd_ne hb] at e; exact e
  rw [hS4g] at S6 ⊢
  rw [S3.gens]
  refine hQ s3.heap.objs.size h'.objs.size _ ps' code (hnP _ hP3) (hnP _ ?_) hne ?_ (S6.setG _)
  · have := hfree; rw [upd_ne (Ne.symm hne)] at this; exact this
  · exact Nat.le_trans S3.ab.1 (Nat.le_of_lt S3.lt)

theorem gx_start {Post : End → Shared → Prop} {it : Addr} {elt target iter : PySem.Expr} {scope : Scope} {pos : Pos} {cenv : Env}
    (hself : ∀ (A' : Around) (Q : Value → Shared → Prop) (E : Value → Shared → Prop), Q (.ref it) s → wpAny (model PR w) A' (pyIter (.ref it)) Q E s)
    (loop : SegP (model PR w) A Post (.compLoop (.GeneratorExp elt [⟨target, iter, [], 0⟩] scope pos) 0 (.ref it) .none cenv) ((model PR w).den (.compLoop (.GeneratorExp elt [⟨target, iter, [], 0⟩] scope pos) 0 (.ref it) .none cenv)) [] s) :
    SegP (model PR w) A Post (.compStart (.GeneratorExp elt [⟨target, iter, [], 0⟩] scope pos) 0 (.ref it) .none cenv) ((model PR w).den (.compStart (.GeneratorExp elt [⟨target, iter, [], 0⟩] scope pos) 0 (.ref it) .none cenv)) [] s := by
  show SegP _ A _ _ ((compStart (.GeneratorExp elt [⟨target, iter, [], 0⟩] scope pos) 0 (.ref it) .none cenv).onRaise (leaving cenv)) [] s
  unfold compStart
  rw [Sem.onRaise_eq_wrap]
  show SegP _ A _ _ ((ask >>= _).wrap _ _ _ _) [] s
  refine sp_bindw (wpAny_askSetting ?_)
  split
  · exact sp_again rfl loop
  · first
      | exact sp_bindw (wpAny_rule (sp_bindw (wpAny_standAt (sp_bindw (hself _ _ _ (sp_again rfl loop))))))
      | (refine sp_bindw (wpAny_rule ?_); show SegP _ A _ _ ((standAt iter.pos >>= _).wrap _ _ _ _) [] s; exact sp_bindw (wpAny_standAt (sp_bindw (hself _ _ _ (sp_again rfl loop)))))

/-- the generator expression as it stands when made -/
theorem gx_gen {gi n : Nat} {gv : List Nat} {L' it Ig : Addr} {elt target iter : PySem.Expr} {scope : Scope} {pos : Pos} {cenv : Env} {KP : Led → Led → Prop} {GR : Array GenState → Array GenState → Prop} {I : Nat → Led → Array GenState → Prop} {P P' : Nat → Value → Led → Prop} {Bs : Led → Prop}
    {C C₁ : Led} {G G₁ : Array GenState} {m0 : List (Str × Value)}
    (W : IterAt w (A.in1.over (.compLoop (.GeneratorExp elt [⟨target, iter, [], 0⟩] scope pos) 0 (.ref it) .none cenv) []) g O target it n KP GR I P)
    (hself : ∀ (A' : Around) {L m F C G s} (Q : Value → Shared → Prop) (E : Value → Shared → Prop), St w g L m F C G O s → I 0 C G → Q (.ref it) s → wpAny (model PR w) A' (pyIter (.ref it)) Q E s)
    (hKP : ∀ i C C' G, I i C G → KP C C' → KG C C') (hGR : ∀ G G', GR G G' → GRx gv G G') (hIs : ∀ i, Stb gv (I i)) (hBg : ∀ C C', KG C C' → Bs C → Bs C') (hBc : ∀ C C', KC C C' → Bs C → Bs C') (hab : g.objs.size ≤ L')
    (hco : cenv.scope.isCoroutine = false)
    (helt : ∀ i v m F C G s E, St w g L' m F C G O s → I (i + 1) C G → P i v C → Bs C →
      wpAny (model PR w) (A.in1.over (.compLoop (.GeneratorExp elt [⟨target, iter, [], 0⟩] scope pos) 0 (.ref it) .none cenv) []) (assign target cenv v) (fun _ s2 =>
        wpAny (model PR w) (A.in1.over (.compLoop (.GeneratorExp elt [⟨target, iter, [], 0⟩] scope pos) 0 (.ref it) .none cenv) []) (eval elt cenv) (fun y s3 => ∃ m' C', St w g L' m' F C' G O s3 ∧ Ext C C' ∧ P' i y C') E s2) E s)
    (hP : ∀ i y C m, C L' = none → P' i y C → P' i y (upd C L' (.ns m)))
    (h1 : C Ig = some (.gen gi)) (h2 : C L' = some (.ns m0)) (h3 : C₁ L' = none) (h4 : I 0 C₁ G₁) (h5 : Bs C₁) (h6 : ∀ j ∈ gv, G[j]? = G₁[j]?) (h7 : KC C₁ C)
    (h8 : G[gi]? = some (.fresh (.compStart (.GeneratorExp elt [⟨target, iter, [], 0⟩] scope pos) 0 (.ref it) .none cenv))) :
    GenI w A g gi O gv P' Ig n 0 C G := by
  refine ⟨h1, GxC L' (I 0) Bs gv, _, GxC.stb, ⟨m0, C₁, G₁, h2, h3, h4, h5, h6, h7⟩, h8, ?_⟩
  refine rdy_of fun L2 m2 F2 C3 G3 s5 S5 ⟨m3, C₁, G₁, c1, c2, c3, c4, c5, c6⟩ hrun => ?_
  have SW := S5.wake c1 hab
  have kw := KC.del c2 c6
  have i0 := hIs _ _ _ _ _ kw (fun j hj => c5 j hj) c3
  exact gx_start (fun A' Q E hq => hself A' Q E SW i0 hq)
    (gx_loop W hKP hGR hIs hBg hBc hab hco helt hP n 0 (Nat.zero_add n) L2 m2 F2 C3 G3 s5 _ G3 s5 m3 m3 S5 c1 SW i0 (hBc _ _ kw c4) (.refl _) (.refl _ _))
end
end Mine
end
section -- F13
open PySem PySem.W PySem.Calls PyProof.Rows
open Sem (wp)
namespace Mine
section
variable {K : Frag} {p : Program} {loose : List Str} {mg mb : Str → Option Value}
  {w : World} {g : Heap} {L : Addr} {m : List (Str × Value)} {F : List (Addr × List (Str × Value))} {C : Led} {G : Array GenState} {O : OsState} {s : Shared} {A : Around} {R : Result → Shared → Prop}
/-- an object called: its class's def -/
theorem r_callInst {v dv cls f : Addr} {args : Args} (S : St w g L m F C G O s) (D : Wd K p loose mg mb g) (h1 : C v = some (.obj (instObj cls dv))) (hf : findIn K (.ref cls) "__call__" = some (some (.ref f))) (ht : isFn K (.ref f) = true)
    (hfn : ∃ o fd, K.lookup f = some o ∧ o.data = .func fd) (h : codeAny (model PR w) A (.call (.ref f) ⟨.ref v :: args.pos, args.kw⟩) R s) : codeAny (model PR w) A (.call (.ref v) args) R s := by
  have X := D.X.keeps S.keep
  have ho : s.heap.get? v = some (instObj cls dv) := S.sat v _ h1
  obtain ⟨of, fd, hof, hdf⟩ := hfn
  refine codeAny_of_tree ?_
  show wpAny _ A.in1 (callAny (.ref v) args) _ _ s
  unfold callAny
  refine wpAny_bind (wpAny_load ho ?_)
  dsimp only [instObj]
  unfold callAny.viaDunder specialOf
  refine wpAny_bind (wpAny_bind ?_)
  refine (show Looks (model PR w) s.heap (typeOf (.ref v)) (.ref cls) from (Looks.ld ho).andThen .now).here ?_
  refine (looks_findIn X hf).here ?_
  dsimp only
  refine wpAny_bind ((bind_fn X (.ref v) (beq_iff_eq.mp ht)).here ?_)
  refine wpAny_bind ?_
  unfold callAny.plainCallee
  refine wpAny_bind (wpAny_load (X _ _ hof) ?_)
  rw [hdf]
  refine wpAny_pure ?_
  exact wpAny_pure ⟨rfl, h⟩
end
end Mine
end
section -- F14
open PySem PySem.W PySem.Calls PyProof.Rows
open Sem (wp)
namespace Mine
example : hd.heap_39 = hd.heap_39 ∧ PySem.Challenge.rw_ez0179_01 = PySem.Challenge.rw_ez0179_01 := by k_fill; exact ⟨rfl, rfl⟩
theorem c_154 (w : World) : findIn (hd.heap_39 w.params) (.ref 154) "__call__" = some (some (.ref 102)) := by kernel_rfl
theorem fn_102 (w : World) : isFn (hd.heap_39 w.params) (.ref 102) = true := by kernel_rfl
section
variable {p : Program} {loose : List Str} {mg mb : Str → Option Value}
  {w : World} {g : Heap} {L : Addr} {m : List (Str × Value)} {F : List (Addr × List (Str × Value))} {C : Led} {G : Array GenState} {O : OsState} {s : Shared} {A : Around} {E Q : Value → Shared → Prop} {a : GA}
theorem call_102 {v : Addr} (S : St w g L m F C G O s) (D : Wd (hd.heap_39 w.params) p loose mg mb g) (hroom : A.depth + 8 < recursionLimit) (V : DegV C a v) (h : ∀ s', St w g L m F C G O s' → Q (.ref v) s') :
    wpAny (model PR w) A (call (.ref v) [] [(Str.ofString "weight", .none)]) Q E s := by
  obtain ⟨dv, h1, h2⟩ := V
  refine wpAny_call (r_callInst S D h1 (c_154 w) (fn_102 w) ⟨_, _, by k_is, rfl⟩ ?_)
  refine' r_enter (binds := [(Str.ofString "self", .ref v), (Str.ofString "nbunch", .none), (Str.ofString "weight", .none)]) S D ?ho ?hcd ?room ?hb ?hl ?_ ?c1 ?c2 ?c3 ?c4
  case ho => k_is
  case hcd => k_is
  case room => omega
  case hb => exact binds_K (D.X.keeps S.keep) rfl (by k_is) rfl rfl rfl
  case hl => exact locs rfl
  case c1 => rfl
  case c2 => rfl
  case c3 => rfl
  case c4 => decide
  intro L1 s1 S1
  refine wpAny_execs_cons (wpAny_If (wpAny_isTrue_Compare1 (r_loc S1 rfl (wpAny_Constant_none (is_none (wpAny_truthy_bool ?_))))))
  refine wpAny_execs_cons (wpAny_If (wpAny_isTrue_Compare1 (r_loc S1 rfl (r_nattr S1 D rfl h1 h2 (ok_154w w) rfl rfl fun s2 S2 => ?_))))
  refine PySem.EqNone.eq_none_none (wpAny_truthy_bool ?_)
  exact wpAny_execs_cons (wpAny_Return_some (r_loc S2 rfl (h _ (S.pop S2))))
end
end Mine
end
section -- S6
open PySem PySem.W PySem.Calls PyProof.Rows
open Sem (wp)
namespace Mine
theorem Gr.kg {C C' : Led} {a : GA} {dv ev : Option Value} {gk : List (Str × Value)} {σ : PS} (H : Gr C a dv ev gk σ) (x : KG C C') : Gr C' a dv ev gk σ := by
  refine ⟨x _ _ H.x rfl, x _ _ H.dx rfl, H.gr.imp fun _ e => x _ _ e rfl, ?_, ⟨H.tb.1.imp fun _ e => x _ _ e rfl, H.tb.2.imp fun _ e => x _ _ e rfl⟩, ?_⟩
  · obtain ⟨nk, ep, h1, h2, h3⟩ := H.nd
    exact ⟨nk, ep, x _ _ h1 rfl, h2, fun q hq => let ⟨b, e, ep', h⟩ := h3 q hq; ⟨b, e, ep', x _ _ h rfl⟩⟩
  · obtain ⟨ak, ep, h1, h2, h3⟩ := H.ad
    refine ⟨ak, ep, x _ _ h1 rfl, h2, fun q hq => ?_⟩
    obtain ⟨b, e, r, ep', h4, h5, h6⟩ := h3 q hq
    exact ⟨b, e, r, ep', x _ _ h4 rfl, h5, fun z hz => let ⟨k1, kvs, ep, k2, k3⟩ := h6 z hz; ⟨k1, kvs, ep, x _ _ k2 rfl, k3⟩⟩

/-- a generator's waking, told from its own side -/
theorem KG.del {C : Led} {L' : Addr} {m : List (Str × Value)} (h : C L' = some (.ns m)) : KG C (Mine.del C L') := fun b c e hp => by
  unfold Mine.del; rw [if_neg]; exact e
  rintro rfl; rw [h] at e; cases e; cases hp
theorem KG.put {C C' : Led} {L' : Addr} {m m' : List (Str × Value)} (h : C L' = some (.ns m)) (k : KG (Mine.del C L') C') : KG C (Mine.upd C' L' (.ns m')) := fun b c e hp => by
  have hb : b ≠ L' := by rintro rfl; rw [h] at e; cases e; cases hp
  rw [upd_ne hb]; refine k _ _ ?_ hp
  unfold Mine.del; rw [if_neg hb]; exact e

def degOf (σ : PS) (k : Int) : Int := (σ.nbrs k).length + if k ∈ σ.nbrs k then 1 else 0
structure DegB (C : Led) (a : GA) (v d : Addr) (ak : List (Int × Value)) (ea : Nat) (dv ev : Option Value) (gk : List (Str × Value)) (σ : PS) : Prop where
  v : C v = some (.obj (instObj 154 d))
  d : C d = some (.sm (degF a.ad) 4 false)
  ad : C a.ad = some (.di .adj ak ea)
  g : Gr C a dv ev gk σ
theorem DegB.kg {C C' : Led} {a : GA} {v d : Addr} {ak : List (Int × Value)} {ea : Nat} {dv ev : Option Value} {gk : List (Str × Value)} {σ : PS} (B : DegB C a v d ak ea dv ev gk σ) (k : KG C C') : DegB C' a v d ak ea dv ev gk σ :=
  ⟨k _ _ B.v rfl, k _ _ B.d rfl, k _ _ B.ad rfl, B.g.kg k⟩

theorem Gr.kc {C C' : Led} {a : GA} {dv ev : Option Value} {gk : List (Str × Value)} {σ : PS} (H : Gr C a dv ev gk σ) (k : KC C C') : Gr C' a dv ev gk σ := by
  refine ⟨k.1 _ _ H.x trivial, k.1 _ _ H.dx trivial, H.gr.imp fun _ e => k.1 _ _ e trivial, ?_, ⟨let ⟨ps, e⟩ := H.tb.1; k.2 _ ps e, let ⟨ps, e⟩ := H.tb.2; k.2 _ ps e⟩, ?_⟩
  · obtain ⟨nk, ep, h1, h2, h3⟩ := H.nd
    exact ⟨nk, ep, k.1 _ _ h1 trivial, h2, fun q hq => let ⟨b, e, ep', h⟩ := h3 q hq; ⟨b, e, ep', k.1 _ _ h trivial⟩⟩
  · obtain ⟨ak, ep, h1, h2, h3⟩ := H.ad
    refine ⟨ak, ep, k.1 _ _ h1 trivial, h2, fun q hq => ?_⟩
    obtain ⟨b, e, r, ep', h4, h5, h6⟩ := h3 q hq
    exact ⟨b, e, r, ep', k.1 _ _ h4 trivial, h5, fun z hz => let ⟨k1, kvs, ep, k2, k3⟩ := h6 z hz; ⟨k1, kvs, ep, k.1 _ _ k2 trivial, k3⟩⟩
theorem DegB.kc {C C' : Led} {a : GA} {v d : Addr} {ak : List (Int × Value)} {ea : Nat} {dv ev : Option Value} {gk : List (Str × Value)} {σ : PS} (B : DegB C a v d ak ea dv ev gk σ) (k : KC C C') : DegB C' a v d ak ea dv ev gk σ :=
  ⟨k.1 _ _ B.v trivial, k.1 _ _ B.d trivial, k.1 _ _ B.ad trivial, B.g.kc k⟩
/-- what stands of DegreeView.__iter__ between two items -/
def DegC (L' : Addr) (a : GA) (v d : Addr) (ak : List (Int × Value)) (ea : Nat) (dv ev : Option Value) (gk : List (Str × Value)) (σ : PS) (i : Nat) (it : Addr) (C : Led) (_ : Array GenState) : Prop :=
  ∃ m, C L' = some (.ns m) ∧ m.lookup (Str.ofString "self") = some (.ref v) ∧ C it = some (.kit a.ad i ak.length ea) ∧ DegB C a v d ak ea dv ev gk σ
theorem DegC.stb {L' : Addr} {a : GA} {v d : Addr} {ak : List (Int × Value)} {ea : Nat} {dv ev : Option Value} {gk : List (Str × Value)} {σ : PS} {i : Nat} {it : Addr} {gv : List Nat} : Stb gv (DegC L' a v d ak ea dv ev gk σ i it) :=
  fun _ _ _ _ k _ ⟨m, h1, h2, h3, h4⟩ => ⟨m, k.1 _ _ h1 trivial, h2, k.1 _ _ h3 trivial, h4.kc k⟩
def DegP (σ : PS) (i : Nat) (v : Value) (C : Led) : Prop := ∃ T k t u, v = .ref T ∧ σ.an[i]? = some k ∧ C T = some (.tup [.int k t, .int (degOf σ k) u])

example : hd.heap_39 = hd.heap_39 ∧ PySem.Challenge.rw_ez0179_01 = PySem.Challenge.rw_ez0179_01 := by k_fill; exact ⟨rfl, rfl⟩
section
variable {p : Program} {loose : List Str} {mg mb : Str → Option Value}
  {w : World} {g : Heap} {L : Addr} {m : List (Str × Value)} {F : List (Addr × List (Str × Value))} {C : Led} {G : Array GenState} {O : OsState} {s : Shared} {A : Around} {E Q : Value → Shared → Prop} {a : GA}
  {dv ev : Option Value} {gk : List (Str × Value)} {σ : PS} {env : Env}

/-- (n, len(nbrs) + (n in nbrs)) -/
theorem r_degTup {n : Int} {t : Tok} {b : Addr} {r : List (Int × Value)} {er : Nat} {tg : Tag} {x y : Str} {q7 q8 q9 q10 q11 q12 q13 q14 q15 : Pos} {k0 : Nat}
    (S : St w g L m F C G O s) (D : Wd (hd.heap_39 w.params) p loose mg mb g) (hn : m.lookup x = some (.int n t)) (hb : m.lookup y = some (.ref b)) (hr : C b = some (.di tg r er)) (hz : r.length ≤ 6)
    (hk : env.scope.kind = .function) (hL : env.locals = L) (hx : Loc env x) (hy : Loc env y) (hlen : env.kindOf "len" = some .globalImplicit) (hg : env.globals = mainGlobals) (hbi : env.builtins = builtinsNs)
    (he1 : eval (.Call (.Name "len" q8) [.Name y q9] [] q10) env = (do callWith q10 (← eval (.Name "len" q8) env) [] (backTo q10 (starEach [.Name y q9] env)) (backToKw q10 (keywordEach [] env))))
    (h : ∀ T s' u, C T = none → St w g L m F (upd C T (.tup [.int n t, .int ((r.length : Int) + if n ∈ r.map (·.1) then 1 else 0) u])) G O s' → Q (.ref T) s') :
    wpAny (model PR w) A (eval (.Tuple [.Name x q7, .BinOp (.Call (.Name "len" q8) [.Name y q9] [] q10) .Add (.Compare (.Name x q11) [.In] [.Name y q12] q13) q14] k0 q15) env) Q E s := by
  refine r_tup ?_
  refine wpAny_items_cons (he := rfl) (r_loc S hn ?_ hk hx.1 hx.2 hL)
  refine wpAny_items_cons (he := rfl) ?_
  refine wpAny_BinOp (r_bcall1 S D (nb_len w) bi_len (by decide) (r_loc S hb (r_lenI S hr (by omega) fun u s1 S1 => ?_) hk hy.1 hy.2 hL) rfl he1 hk hlen (by decide) hg hbi)
  refine wpAny_Compare1 (r_loc S1 hn (r_loc S1 hb (r_inI S1 hr fun s2 S2 => ?_) hk hy.1 hy.2 hL) hk hx.1 hx.2 hL)
  refine PySem.add_int_bool ?_
  refine wpAny_items_nil ⟨Nat.le_of_ble_eq_true rfl, g, L, m, F, C, G, O, S2.toks _, fun T s3 hT S3 => h T s3 s2.toks hT ?_⟩
  have e : (if (valueAt r n).isSome = true then (1 : Int) else 0) = if n ∈ r.map (·.1) then 1 else 0 := by
    rw [valueAt_isSome]
    by_cases h : n ∈ r.map (·.1)
    · rw [if_pos h, if_pos (decide_eq_true h)]
    · rw [if_neg h, if_neg (by rw [decide_eq_false h]; exact Bool.false_ne_true)]
  rw [e] at S3
  exact S3
end
end Mine
end
section -- S7
open PySem PySem.W PySem.Calls PyProof.Rows
open Sem (wp)
namespace Mine
example : hd.heap_39 = hd.heap_39 ∧ PySem.Challenge.rw_ez0179_01 = PySem.Challenge.rw_ez0179_01 := by k_fill; exact ⟨rfl, rfl⟩
section
variable {p : Program} {loose : List Str} {mg mb : Str → Option Value}
  {w : World} {g : Heap} {O : OsState} {A : Around} {a : GA}
  {dv ev : Option Value} {gk : List (Str × Value)} {σ : PS} {env : Env}

theorem deg_loop {gi : Nat} {L' it v d : Addr} {ak : List (Int × Value)} {ea : Nat} {fb : List Stmt} {pp : Pos} {kk : Result → Sem PySem.Fin} {q1 q2 q3 q4 q5 q6 q7 q8 q9 q10 q11 q12 q13 q14 q15 q16 q17 q18 : Pos} {k0 : Nat}
    (hh : A.handled = none) (hroom : A.depth + 8 < recursionLimit) (D : Wd (hd.heap_39 w.params) p loose mg mb g) (W : σ.WF) (hak : ak.map (·.1) = σ.an) (hab : g.objs.size ≤ L')
    (hk : env.scope.kind = .function) (hL : env.locals = L') (hx : Loc env "n") (hy : Loc env "nbrs") (hs : Loc env "self") (hlen : env.kindOf "len" = some .globalImplicit) (hg : env.globals = mainGlobals) (hbi : env.builtins = builtinsNs)
    (hco : env.scope.isCoroutine = false) (hi : interactive env = false)
    (sw : swapsWith (.Subscript (.Attribute (.Name "self" q2) "_succ" q3) (.Name "n" q4) q5) (some (.Name "nbrs" q1)) q6.line env = pure false)
    (he1 : eval (.Call (.Name "len" q8) [.Name "nbrs" q9] [] q10) env = (do callWith q10 (← eval (.Name "len" q8) env) [] (backTo q10 (starEach [.Name "nbrs" q9] env)) (backToKw q10 (keywordEach [] env))))
    (hkk : ∀ Post s, Post (.ret (.ok (.ret .none))) s → SegP (model PR w) A Post (.func fb env) (kk (.ok .next)) [] s) :
    ∀ k i, i + k = ak.length → ∀ L m F C₀ G₀ s₀ C G s mm m0, St w g L m F C₀ G₀ O s₀ → C₀ L' = some (.ns m0) → St w g L' mm ((L, m) :: F) C G O s → mm.lookup (Str.ofString "self") = some (.ref v) →
      C it = some (.kit a.ad i ak.length ea) → DegB C a v d ak ea dv ev gk σ → KG (Mine.del C₀ L') C → GRx [] G₀ G →
      SegP (model PR w) A (RPost w A g gi O [] (DegP σ) L m F C₀ G₀ k i)
        (.forLoop (.Name "n" q18) (.ref it) [.Assign [.Name "nbrs" q1] (.Subscript (.Attribute (.Name "self" q2) "_succ" q3) (.Name "n" q4) q5) q6,
          .Expr (.Yield (some (.Tuple [.Name "n" q7, .BinOp (.Call (.Name "len" q8) [.Name "nbrs" q9] [] q10) .Add (.Compare (.Name "n" q11) [.In] [.Name "nbrs" q12] q13) q14] k0 q15)) q16) q17] [] env)
        ((model PR w).den (.forLoop (.Name "n" q18) (.ref it) [.Assign [.Name "nbrs" q1] (.Subscript (.Attribute (.Name "self" q2) "_succ" q3) (.Name "n" q4) q5) q6,
          .Expr (.Yield (some (.Tuple [.Name "n" q7, .BinOp (.Call (.Name "len" q8) [.Name "nbrs" q9] [] q10) .Add (.Compare (.Name "n" q11) [.In] [.Name "nbrs" q12] q13) q14] k0 q15)) q16) q17] [] env))
        [.ret kk none false [] (.func fb env) pp []] s := by
  intro k
  induction k with
  | zero =>
    intro i hik L m F C₀ G₀ s₀ C G s mm m0 S₀ h0 S hself hit B hKG hR
    obtain rfl : i = ak.length := by omega
    refine sp_forLoop ?_
    refine (iter_keysI (w := w) (t := .Name (Str.ofString "n") q18) .nm).done hh (by show A.depth + 1 + 0 + 0 < _; omega) S ⟨hit, B.ad⟩ fun C' G' s' S' K' B' => ?_
    exact sp_noElse (hkk _ _ ⟨⟨_, rfl, .inr rfl⟩, _, G', S₀.sleep S', KG.put h0 (hKG.trans (KG.but hit rfl K')), hR.trans B'.grx⟩)
  | succ k ih =>
    intro i hik L m F C₀ G₀ s₀ C G s mm m0 S₀ h0 S hself hit B hKG hR
    have hlt : i < ak.length := by omega
    refine sp_forLoop ?_
    refine (iter_keysI (w := w) (t := .Name (Str.ofString "n") q18) .nm).next (Q := fun r s₁ => match r with
      | none => SegP (model PR w) A _ _ (.pure (.again (.block [] env))) _ s₁
      | some v => wpAny (model PR w) (A.over _ _) (assign _ env v) (fun _ s₂ => ∀ H, SegP (model PR w) A _ _ ((execs _ env).wrap _ H id id) _ s₂) (fun _ _ => False) s₁) hh (by show A.depth + 1 + 0 + 0 < _; omega) S ⟨hit, B.ad⟩ hlt fun vv C1 G1 s1 S1 K1 B1 hI1 hP1 => ?_
    obtain ⟨n, u, t, hn, rfl⟩ := hP1
    obtain rfl : G1 = G := B1
    have KG1 : KG C C1 := KG.but hit rfl K1
    have Bb := B.kg KG1
    refine r_asN S1 (fun s2 S2 => ?_) hk hx.1 hL
    intro H
    obtain ⟨b, r, er, hin, hb, hr1, hr2⟩ := Bb.g.rowOf Bb.ad (n := n) (by rw [← hak]; exact List.mem_of_getElem? (by rw [List.getElem?_map, hn]; rfl))
    have hnod : (ak.map (·.1)).Nodup := S1.nodupI Bb.ad
    refine sp_execs_cons (sp_st (wpAny_Assign_Name (hs := sw) ?_))
    refine Subscript_ (r_nattr S2 D hself Bb.v Bb.d (ok_154s w) rfl rfl (fun s3 S3 => r_loc S3 rfl ?_ hk hx.1 hx.2 hL) hk hs.1 (by decide) hL)
    refine r_subI S3 Bb.ad (valueAt_of_mem hnod hin) fun s4 S4 => ?_
    refine r_store S4 (fun s5 S5 => ?_) hk hy.1 hL
    refine sp_execs_cons (sp_Yield rfl rfl rfl ?_ hco hi)
    have hz : r.length ≤ 6 := by have := W.lenN n; rw [← hr1, List.length_map] at this; exact this
    refine r_degTup S5 D rfl rfl hb hz hk hL hx hy hlen hg hbi he1 fun T s6 tu hT S6 => ?_
    intro l kf pf hres hq
    have X6 := Ext.upd (c := .tup [.int n t, .int ((r.length : Int) + if n ∈ r.map (·.1) then 1 else 0) tu]) hT
    have hTL : T ≠ L' := fun e => by
      obtain ⟨⟨n1, _⟩, _⟩ := S6.off T _ (upd_same ..)
      exact n1 e
    have hdg : (r.length : Int) + (if n ∈ r.map (·.1) then 1 else 0) = degOf σ n := by unfold degOf; rw [← hr1, List.length_map]
    have hitL : it ≠ L' := fun e => (S1.off it _ hI1.1).1.1 e
    refine ⟨hq, .ref T, ⟨_, _, _, _, _, _, rfl⟩, _, G1, S₀.sleep S6, KG.put h0 ((hKG.trans KG1).trans X6.kg), hR, ⟨T, n, t, tu, rfl, ?_, ?_⟩, DegC L' a v d ak ea dv ev gk σ (i + 1) it, DegC.stb, ⟨_, upd_same .., ?_, ?_, ?_⟩, ?_⟩
    · rw [← hak, List.getElem?_map, hn]; rfl
    · rw [upd_ne hTL, upd_same, hdg]
    · exact hself
    · rw [upd_ne hitL]; exact X6 _ _ hI1.1
    · have B6 := Bb.kg X6.kg
      exact B6.kg fun b c e hp => by
        rw [upd_ne]; exact e
        rintro rfl; exact absurd rfl (S6.off _ _ e).1.1
    · refine rdy_of fun L2 m2 F2 C2 G2 s7 S7 ⟨m1, c1, c2, c3, c4⟩ hrun => ?_
      refine hres _ _ (sp_execs_nil (sp_again rfl ?_))
      have SW := S7.wake c1 hab
      refine ih (i + 1) (by omega) L2 m2 F2 C2 G2 s7 _ G2 s7 m1 m1 S7 c1 SW c2 ?_ (c4.kg (KG.del c1)) (.refl _) (.refl _ _)
      unfold Mine.del
      rw [if_neg hitL]; exact c3
end
end Mine
end
section -- S8
open PySem PySem.W PySem.Calls PyProof.Rows
open Sem (wp)
namespace Mine
example : hd.heap_39 = hd.heap_39 ∧ PySem.Challenge.rw_ez0179_01 = PySem.Challenge.rw_ez0179_01 := by k_fill; exact ⟨rfl, rfl⟩
theorem it_154 (w : World) : findIn (hd.heap_39 w.params) (.ref 154) "__iter__" = some (some (.ref 151)) := by kernel_rfl
theorem fn_151 (w : World) : isFn (hd.heap_39 w.params) (.ref 151) = true := by kernel_rfl
/-- the generators stand; there may be more -/
def GG (G G' : Array GenState) : Prop := (∀ (j : Nat) (x : GenState), G[j]? = some x → G'[j]? = some x) ∧ ((∀ x ∈ G, x.bare = true) → ∀ x ∈ G', x.bare = true)
theorem GG.refl (G : Array GenState) : GG G G := ⟨fun _ _ h => h, fun h => h⟩
theorem GG.trans {A B C : Array GenState} (x : GG A B) (y : GG B C) : GG A C := ⟨fun j z h => y.1 j z (x.1 j z h), fun h => y.2 (x.2 h)⟩
theorem GG.push (G : Array GenState) {x : GenState} (hx : x.bare = true) : GG G (G.push x) := by
  refine ⟨fun j z h => ?_, fun h y hy => ?_⟩
  · have hlt : j < G.size := by
      rcases Nat.lt_or_ge j G.size with h' | h'
      · exact h'
      · rw [Array.getElem?_eq_none h'] at h; cases h
    rw [Array.getElem?_push_lt hlt, ← h, Array.getElem?_eq_getElem hlt]
  · rcases Array.mem_push.mp hy with hy | rfl
    · exact h y hy
    · exact hx
theorem GB.gg {G G' : Array GenState} (x : GB G G') : GG G G' := by rw [show G' = G from x]; exact .refl _
section
variable {p : Program} {loose : List Str} {mg mb : Str → Option Value}
  {w : World} {g : Heap} {L : Addr} {m : List (Str × Value)} {F : List (Addr × List (Str × Value))} {C : Led} {G : Array GenState} {O : OsState} {s : Shared} {A : Around} {E Q : Value → Shared → Prop} {a : GA}
  {dv ev : Option Value} {gk : List (Str × Value)} {σ : PS} {env : Env}

/-- iter(graph.degree()) -/
theorem deg_iter {v : Addr} (S : St w g L m F C G O s) (D : Wd (hd.heap_39 w.params) p loose mg mb g) (hroom : A.depth + 8 < recursionLimit) (H : Gr C a dv ev gk σ) (W : σ.WF) (V : DegV C a v)
    (h : ∀ I gi s' C' G', St w g L m F C' G' O s' → Ext C C' → C I = none → G[gi]? = none → GG G G' → (∀ A' : Around, A'.handled = none → A'.depth + 9 < recursionLimit → GenI w A' g gi O [] (DegP σ) I σ.an.length 0 C' G') → Q (.ref I) s') :
    wpAny (model PR w) A (pyIter (.ref v)) Q E s := by
  obtain ⟨d, h1, h2⟩ := V
  obtain ⟨o, I, _⟩ := inst_of S h1 h2
  obtain ⟨m₀, F₀⟩ := S.fr
  obtain ⟨ak, ea, had, hak, _⟩ := H.ad
  have hlen : ak.length = σ.an.length := by rw [← hak, List.length_map]
  refine owit_iter F₀ D.X I (it_154 w) (fn_151 w) ?_
  refine wpAny_call ?_
  refine' r_genfnC (binds := [(Str.ofString "self", .ref v)]) S D ?ho ?hcd ?room ?hb ?ok ?_ ?c1 ?c2 ?c3
  case ho => k_is
  case hcd => k_is
  case room => omega
  case hb => exact .of_eq rfl
  case ok => exact .of (by kernel_rfl)
  case c1 => rfl
  case c2 => rfl
  case c3 => rfl
  intro L' Cc it s1 N hL' hLc hit hne hab S1
  obtain ⟨hw, hwC⟩ := N.get "weight" (L' + 1) rfl
  show OwitIt _ _ _ _ _ _
  unfold OwitIt
  refine wpAny_specialOf (T := "generator") (Heap.IsGen.typeIs (S1.sat it _ (upd_same ..))) slot_gen_next.lookup ?_
  have hit1 : Mine.upd Cc L' (.ns [((Str.ofString "self", .ref v) : Str × Value)]) it = none := by rw [upd_ne (Ne.symm hne)]; exact hit
  have X1 : Ext C _ := N.ext.trans (Ext.upd (c := .ns [((Str.ofString "self", .ref v) : Str × Value)]) hLc)
  have X2 := X1.trans (Ext.upd (c := .gen G.size) hit1)
  have hitC : C it = none := by
    cases q : C it with
    | none => rfl
    | some c => rw [N.ext _ _ q] at hit; cases hit
  have hwL : L' + 1 ≠ it := by rintro rfl; rw [hit] at hw; cases hw
  have cw1 : Mine.upd (Mine.upd Cc L' (.ns [((Str.ofString "self", .ref v) : Str × Value)])) it (.gen G.size) (L' + 1) = some (.cv none) := by rw [upd_ne hwL, upd_ne (Nat.succ_ne_self _)]; exact hw
  have S1 := S1.recell (c' := .pcv none) cw1 (show Sat w _ _ (.cv none) from S1.sat _ _ cw1)
  have X2 : Ext C (Mine.upd (Mine.upd (Mine.upd Cc L' (.ns [((Str.ofString "self", .ref v) : Str × Value)])) it (.gen G.size)) (L' + 1) (.pcv none)) := fun b c e => by
    rw [upd_ne (by rintro rfl; rw [hwC] at e; cases e)]; exact X2 b c e
  refine h it G.size s1 _ _ S1 X2 hitC (Array.getElem?_eq_none (Nat.le_refl _)) (GG.push G rfl) fun A' hh' hd' => ?_
  refine ⟨by rw [upd_ne (Ne.symm hwL)]; exact upd_same .., fun C G => C L' = some (.ns [((Str.ofString "self", .ref v) : Str × Value)]) ∧ C (L' + 1) = some (.pcv none) ∧ DegB C a v d ak ea dv ev gk σ, _, fun C C' _ _ k _ ⟨e1, e2, e3⟩ => ⟨k.1 _ _ e1 trivial, k.1 _ _ e2 trivial, e3.kc k⟩,
    ⟨by rw [upd_ne (Ne.symm (Nat.succ_ne_self _)), upd_ne hne]; exact upd_same .., upd_same .., X2 _ _ h1, X2 _ _ h2, X2 _ _ had, H.ext X2⟩, Array.getElem?_push_size .., ?_⟩
  refine rdy_of fun L2 m2 F2 C2 G2 s2 S2 ⟨c1, cw, B⟩ hrun => ?_
  have SW := S2.wake c1 hab
  have BW := B.kg (KG.del c1)
  have cwW : Mine.del C2 L' (L' + 1) = some (.pcv none) := by unfold Mine.del; rw [if_neg (Nat.succ_ne_self _)]; exact cw
  have SW := SW.recell (c' := .cv none) cwW (show Sat w _ _ (.pcv none) from SW.sat _ _ cwW)
  have K0 : KG (Mine.del C2 L') (Mine.upd (Mine.del C2 L') (L' + 1) (.cv none)) := KG.upd cwW rfl
  have B0 := BW.kg K0
  refine sp_func fun Hh => ?_
  refine sp_execs_cons (sp_st (wpAny_Assign_Name (hs := rfl) (r_nattr SW D rfl B0.v B0.d (ok_154w w) rfl rfl fun s3 S3 => r_storec S3 rfl (upd_same ..) fun s4 S4 => ?_)))
  rw [upd_upd] at S4
  have KW : KG (Mine.del C2 L') (Mine.upd (Mine.del C2 L') (L' + 1) (.cv (some .none))) := KG.upd cwW rfl
  refine sp_execs_cons (sp_If (wpAny_isTrue_Compare1 (r_cell S4 rfl (upd_same ..) (wpAny_Constant_none (is_none (wpAny_truthy_bool ?_))))))
  have B4 := BW.kg KW
  refine sp_execs_cons (sp_For (hs := fun _ => rfl) (r_nattr S4 D rfl B4.v B4.d (ok_154n w) rfl rfl fun s5 S5 => r_iterD S5 B4.ad fun itk s6 hik S6 => ?_))
  intro pp kx
  have X6 := Ext.upd (c := .kit a.ad 0 ak.length ea) hik
  rw [Nat.sub_zero, ← hlen]
  refine deg_loop (A := A'.in1) hh' (by show A'.depth + 8 < _; omega) D W hak hab rfl rfl ⟨rfl, rfl⟩ ⟨rfl, rfl⟩ ⟨rfl, rfl⟩ rfl rfl rfl rfl rfl rfl rfl ?_ ak.length 0 (Nat.zero_add _) L2 m2 F2 C2 G2 s2 _ G2 s6 _ _ S2 c1 S6 rfl (upd_same ..) (B4.kg X6.kg) (KW.trans X6.kg) (.refl _ _)
  intro Post s7 h7
  exact sp_end (.ok (.ret .none)) h7
end
end Mine
end
section -- S12
open PySem PySem.W PySem.Calls PyProof.Rows
open Sem (wp)
namespace Mine
/-- what a call keeps of its caller's -/
def KPG (C C' : Led) : Prop := ∀ b c, C b = some c → Plain c → pk c = false → C' b = some c
theorem KPG.refl (C : Led) : KPG C C := fun _ _ e _ _ => e
theorem KPG.trans {A B C : Led} (x : KPG A B) (y : KPG B C) : KPG A C := fun b c e h k => y b c (x b c e h k) h k
theorem KeepsP.pg {C C' : Led} (x : KeepsP C C') : KPG C C' := fun b c e h _ => x b c e h
theorem KG.pg {C C' : Led} (x : KG C C') : KPG C C' := fun b c e _ h => x b c e h
theorem Ext.pg {C C' : Led} (x : Ext C C') : KPG C C' := fun b c e _ _ => x b c e
def Vok (C : Led) (a : GA) (dv ev : Option Value) : Prop := (∀ v, dv = some v → ∃ b, v = .ref b ∧ DegV C a b) ∧ ∀ v, ev = some v → ∃ b, v = .ref b ∧ EdgV C a b
theorem DegV.pg {C C' : Led} {a : GA} {v : Addr} (x : DegV C a v) (k : KPG C C') : DegV C' a v := let ⟨d, h1, h2⟩ := x; ⟨d, k _ _ h1 trivial rfl, k _ _ h2 rfl rfl⟩
theorem EdgV.pg {C C' : Led} {a : GA} {v : Addr} (x : EdgV C a v) (k : KPG C C') : EdgV C' a v := let ⟨d, h1, h2⟩ := x; ⟨d, k _ _ h1 trivial rfl, k _ _ h2 rfl rfl⟩
theorem Vok.pg {C C' : Led} {a : GA} {dv ev : Option Value} (x : Vok C a dv ev) (k : KPG C C') : Vok C' a dv ev :=
  ⟨fun v e => let ⟨b, h, y⟩ := x.1 v e; ⟨b, h, y.pg k⟩, fun v e => let ⟨b, h, y⟩ := x.2 v e; ⟨b, h, y.pg k⟩⟩

example : hd.heap_39 = hd.heap_39 ∧ PySem.Challenge.rw_ez0179_01 = PySem.Challenge.rw_ez0179_01 := by k_fill; exact ⟨rfl, rfl⟩
theorem nb_sum (w : World) : nsIn (hd.heap_39 w.params) mainGlobals "sum" = some none := by kernel_rfl
theorem bi_sum : bootBuiltins "sum" = some (.builtin "sum") := by kernel_rfl
theorem hd_605 (w : World) : codeHdIn (hd.heap_39 w.params) 605 601 = true := by kernel_rfl
theorem hd_234 (w : World) : codeHdIn (hd.heap_39 w.params) 234 230 = true := by kernel_rfl
theorem ty_554 (w : World) : (some (Value.ref 554)).all (fun a => (typeIn (hd.heap_39 w.params) a).any fun t => t != .type "function" && t != .type "method_descriptor" && t != .type "wrapper_descriptor") = true := by kernel_rfl
theorem ty_529 (w : World) : (some (Value.ref 529)).all (fun a => (typeIn (hd.heap_39 w.params) a).any fun t => t != .type "function" && t != .type "method_descriptor" && t != .type "wrapper_descriptor") = true := by kernel_rfl
section
variable {p : Program} {loose : List Str} {mg mb : Str → Option Value} {nf : Bool}
  {w : World} {g : Heap} {L : Addr} {m : List (Str × Value)} {F : List (Addr × List (Str × Value))} {C : Led} {G : Array GenState} {O : OsState} {s : Shared} {A : Around} {E Q : Value → Shared → Prop} {a : GA}
  {dv ev : Option Value} {gk : List (Str × Value)} {σ : PS} {env : Env}

/-- graph.degree, the first time or again -/
theorem degree_any {expr : Bool} (S : St w g L m F C G O s) (D : Wd (hd.heap_39 w.params) p loose mg mb g) (hh : A.handled = none) (hroom : A.depth + 16 < recursionLimit) (H : Gr C a dv ev gk σ) (V : Vok C a dv ev) (hnf : nf = true ∨ dv.isSome = true ∨ ev.isSome = true)
    (h : ∀ v s' C', St w g L m F C' G O s' → Gr C' a (some (.ref v)) ev gk σ → KPG C C' → Vok C' a (some (.ref v)) ev → DegV C' a v → Q (.ref v) s') : wpB nf (model PR w) A (getAttr (.ref a.x) "degree" expr) Q s := by
  cases dv with
  | none =>
    refine degree_first S D hh hroom H (by cases ev <;> simp) (hnf.imp id fun h => h.elim (fun h => by cases h) id) fun v s' C' S' H' K' V' => ?_
    exact h v s' C' S' H' K'.pg ⟨fun u e => by cases e; exact ⟨v, rfl, V'⟩, (V.pg K'.pg).2⟩ V'
  | some v0 =>
    obtain ⟨b, rfl, Vb⟩ := V.1 _ rfl
    exact wpB_any (r_attr S D H.x H.dx (ok_degree w) rfl rfl fun s' S' => h b s' C S' H (.refl _) V Vb)
theorem edges_any {expr : Bool} (S : St w g L m F C G O s) (D : Wd (hd.heap_39 w.params) p loose mg mb g) (hh : A.handled = none) (hroom : A.depth + 16 < recursionLimit) (H : Gr C a dv ev gk σ) (V : Vok C a dv ev) (hnf : nf = true ∨ dv.isSome = true ∨ ev.isSome = true)
    (h : ∀ v s' C', St w g L m F C' G O s' → Gr C' a dv (some (.ref v)) gk σ → KPG C C' → Vok C' a dv (some (.ref v)) → EdgV C' a v → Q (.ref v) s') : wpB nf (model PR w) A (getAttr (.ref a.x) "edges" expr) Q s := by
  cases ev with
  | none =>
    refine edges_first S D hh hroom H (by cases dv <;> simp) (hnf.imp id fun h => h.elim id (fun h => by cases h)) fun v s' C' S' H' K' V' => ?_
    exact h v s' C' S' H' K'.pg ⟨(V.pg K'.pg).1, fun u e => by cases e; exact ⟨v, rfl, V'⟩⟩ V'
  | some v0 =>
    obtain ⟨b, rfl, Vb⟩ := V.2 _ rfl
    exact wpB_any (r_attr S D H.x H.dx (ok_edges w) rfl rfl fun s' S' => h b s' C S' H (.refl _) V Vb)

def degAt (σ : PS) (i : Nat) : Int := match σ.an[i]? with | some k => degOf σ k | none => 0
def degSum (σ : PS) : Int := preSum (degAt σ) σ.an.length
theorem degAt_le (W : σ.WF) (i : Nat) : 0 ≤ degAt σ i ∧ degAt σ i ≤ 7 := by
  unfold degAt
  cases σ.an[i]? with
  | none => exact ⟨Int.le_refl _, by show (0 : Int) ≤ 7; decide⟩
  | some k =>
    have := W.lenN k
    dsimp only
    unfold degOf
    constructor <;> split <;> omega
theorem no_pylong2 (x : Int) : ¬ Builtin.divisionGoesByPylong x 2 = true := by
  unfold Builtin.divisionGoesByPylong
  rw [Bool.and_eq_true]
  rintro ⟨h, _⟩
  exact absurd h (by decide)
end
end Mine
end
section -- S13
open PySem PySem.W PySem.Calls PyProof.Rows
open Sem (wp)
namespace Mine
example : hd.heap_39 = hd.heap_39 ∧ PySem.Challenge.rw_ez0179_01 = PySem.Challenge.rw_ez0179_01 := by k_fill; exact ⟨rfl, rfl⟩
section
variable {p : Program} {loose : List Str} {mg mb : Str → Option Value} {nf : Bool}
  {w : World} {g : Heap} {L : Addr} {m : List (Str × Value)} {F : List (Addr × List (Str × Value))} {C : Led} {G : Array GenState} {O : OsState} {s : Shared} {A : Around} {E Q : Value → Shared → Prop} {a : GA}
  {dv ev : Option Value} {gk : List (Str × Value)} {σ : PS} {env : Env}

theorem lt_of_get {G : Array GenState} {j : Nat} {x : GenState} (h : G[j]? = some x) : j < G.size := by
  rcases Nat.lt_or_ge j G.size with h' | h'
  · exact h'
  · rw [Array.getElem?_eq_none h'] at h; cases h
theorem get_push {G : Array GenState} {j : Nat} {x : GenState} (h : j < G.size) : (G.push x)[j]? = G[j]? := by
  rw [Array.getElem?_push_lt h, Array.getElem?_eq_getElem h]
/-- graph.size() -/
theorem size_spec (S : St w g L m F C G O s) (D : Wd (hd.heap_39 w.params) p loose mg mb g) (BM : BMd mg g) (hh : A.handled = none) (hroom : A.depth + 24 < recursionLimit) (H : Gr C a dv ev gk σ) (W : σ.WF) (V : Vok C a dv ev) (hnf : nf = true ∨ dv.isSome = true ∨ ev.isSome = true)
    (h : ∀ v t s' C' G', St w g L m F C' G' O s' → GG G G' → Gr C' a (some (.ref v)) ev gk σ → KPG C C' → Vok C' a (some (.ref v)) ev → Q (.int ((degSum σ).fdiv 2) t) s') : wpB nf (model PR w) A (call (.ref 606) [.ref a.x]) Q s := by
  refine' b_enter (binds := [(Str.ofString "self", .ref a.x), (Str.ofString "weight", .none)]) S D ?ho ?hcd ?room ?hb ?hl ?_ ?c1 ?c2 ?c3 ?c4
  case ho => k_is
  case hcd => k_is
  case room => omega
  case hb => exact binds_K (D.X.keeps S.keep) rfl (by k_is) rfl rfl rfl
  case hl => exact locs rfl
  case c1 => rfl
  case c2 => rfl
  case c3 => rfl
  case c4 => decide
  intro L1 s1 S1
  refine wpB_execs_cons (wpB_Assign_Name (hs := rfl) (b_Call (r_bi S1 D (nb_sum w) bi_sum (by decide) ?_)))
  refine b_callBuiltin1 (b_genS (L := L1) (m := [(Str.ofString "weight", .none), (Str.ofString "self", .ref a.x)]) (F := (L, m) :: F) (O := O) BM D.T.nolimit (codeHd_of_K D.X (hd_605 w)) rfl rfl (by decide) (by decide) rfl (by show A.depth + 1 < _; omega) rfl rfl ?_)
  refine b_MethodCall (r_loc S1 rfl ?_)
  obtain ⟨o, I, hlk⟩ := inst_of S1 H.x H.dx
  refine b_method_usual (D.X.keeps S1.keep) I (plainGet_of (pl_617 w "degree")).1 (plainGet_of (pl_617 w "degree")).2 (f_degree w) (ty_554 w) ?_
  refine degree_any S1 D hh (by show A.depth + 1 + 16 < _; omega) H V hnf fun v s2 C2 S2 H2 K2 V2 VD => ?_
  obtain ⟨dd, hv1, hv2⟩ := VD
  obtain ⟨ov, Iv, _⟩ := inst_of S2 hv1 hv2
  refine wpB_any (kco_callWith_of (K := hd.heap_39 w.params) (C := 154) (od := some ov) rfl rfl (evalArgs_kw2_nil rfl (kwAll_cons (r_loc S2 rfl (kwAll_nil ⟨⟨D.X.keeps S2.keep, Iv⟩, ?_⟩)))))
  refine call_102 S2 D (by show A.depth + 1 + 8 < _; omega) ⟨dd, hv1, hv2⟩ fun s3 S3 => ?_
  refine deg_iter S3 D (by show A.depth + 1 + 8 < _; omega) H2 W ⟨dd, hv1, hv2⟩ fun Ii gi s4 C4 G4 S4 X4 hIi hgi GG4 hGen => ?_
  have H4 := H2.ext X4
  obtain ⟨⟨ps0, tb0⟩, ⟨ps, tb⟩⟩ := H4.tb
  refine ⟨C4, G4, ps, S4, tb, fun Lg I s5 ps' code hLg hI hne hab S5 => wpB_any ?_⟩
  -- the sum
  have hgi4 : gi < G4.size ∧ gi ≠ G4.size := by
    obtain ⟨_, _, _, _, _, e, _⟩ := hGen (A.in1.in1) hh (by show A.depth + 9 < _; omega)
    exact ⟨lt_of_get e, Nat.ne_of_lt (lt_of_get e)⟩
  have cI := upd_same (Mine.upd (Mine.upd C4 601 (.tab ps')) Lg (.ns [((Str.ofString ".0", .ref Ii) : Str × Value)])) I (.gen G4.size)
  have hLg1 : Mine.upd C4 601 (.tab ps') Lg = none := by
    rw [upd_ne (by rintro rfl; rw [hLg] at tb; cases tb)]; exact hLg
  have hI1 : Mine.upd (Mine.upd C4 601 (.tab ps')) Lg (.ns [((Str.ofString ".0", .ref Ii) : Str × Value)]) I = none := by
    rw [upd_ne (Ne.symm hne), upd_ne (by rintro rfl; rw [hI] at tb; cases tb)]; exact hI
  refine r_sum (g := g) (L := L1) (m := [(Str.ofString "weight", .none), (Str.ofString "self", .ref a.x)]) (F := (L, m) :: F) (O := O) (n := σ.an.length) (gv := [G4.size, gi]) (P := fun i y C => ∃ t, y = .int (degAt σ i) t) (degAt σ) (fun i v C h => h) (fits_of (degAt_le W) (by have := W.len; rw [W.an]; omega)) ?_
  refine wpAny_pyIter_gen (S5.sat I _ cI) ?_
  refine ⟨I, _, _, _, rfl, S5, iter_gen hh (by show A.depth + 1 < _; omega) D.T.nolimit .nm (by simp; exact Ne.symm hgi4.2), ?_, ?_, fun C6 G6 s6 t S6 K6 R6 => ?_⟩
  · intro i C C' G G' k hg x
    exact x.keep k hg
  · refine gx_gen (gv := [gi]) (C₁ := Mine.upd C4 601 (.tab ps')) (G₁ := G4) (Bs := fun _ => True) (L' := Lg) (iter_gen (P := DegP σ) (gi := gi) (gv := []) (I := Ii) (n := σ.an.length) (t := _) (by exact hh) (by show A.depth + 1 + 0 + 1 < _; omega) D.T.nolimit .tu (by simp)) (fun A' {L m F C G s} Q E S i0 hq => wpAny_pyIter_gen (S.sat Ii _ i0.1) hq) (fun _ _ _ _ _ k => k) (fun _ _ x => x) (fun i C C' G G' k hg x => x.keep k hg) (fun _ _ _ _ => trivial) (fun _ _ _ _ => trivial) hab rfl ?_ (fun _ _ _ _ _ h => h) cI
      (by rw [upd_ne hne]; exact upd_same ..) hLg1 ((hGen _ (by exact hh) (by show A.depth + 1 + 0 + 1 + 9 < _; omega)).keep (KC.updTab tb) fun _ _ => rfl) trivial ?_ ((Ext.upd hLg1).kc.trans (Ext.upd hI1).kc) (Array.getElem?_push_size ..)
    · intro i v m F C G s E S hI ⟨T, k, t, u, hv, hk, hT⟩ _
      subst hv
      refine r_asP S (by exact hh) hT (fun s' S' => r_loc S' rfl ⟨_, C, S', .refl _, u, ?_⟩)
      unfold degAt; rw [hk]
    · intro j hj
      rw [List.mem_singleton] at hj; subst hj
      exact get_push hgi4.1
  · have gg : GG G G6 := by
      refine ⟨fun j x e => ?_, fun hb => R6.2 ((GG.push G4 rfl).2 (GG4.2 hb))⟩
      have e4 := GG4.1 j x e
      have hj4 := lt_of_get e4
      have : j ∉ [G4.size, gi] := by
        intro hm
        rcases List.mem_cons.mp hm with rfl | hm
        · exact Nat.lt_irrefl _ hj4
        · rw [List.mem_singleton] at hm; subst hm; rw [hgi] at e; cases e
      rw [R6.1 j this, get_push hj4]; exact e4
    have kk : KPG C C6 := (((K2.trans X4.pg).trans (KeepsP.upd tb (by intro q; exact q)).pg).trans ((Ext.upd hLg1).pg.trans (Ext.upd hI1).pg)).trans K6.pg
    have H6 : Gr C6 a (some (.ref v)) ev gk σ := ((H4.kc (KC.updTab tb)).ext ((Ext.upd hLg1).trans (Ext.upd hI1))).kg K6
    refine r_store S6 fun s7 S7 => ?_
    refine wpB_execs_cons (wpB_any (wpAny_Return_some (wpAny_IfExp (wpAny_isTrue_Compare1 (r_loc S7 rfl (wpAny_Constant_none (is_none (wpAny_truthy_bool ?_))))))))
    refine wpAny_BinOp (r_loc S7 rfl (r_int S7 fun t2 s8 S8 => ?_))
    refine PySem.AutoIntOps.floordiv_1 (by decide) (no_pylong2 _) ?_
    exact h v _ _ C6 G6 ((S.pop S8).toks _) gg H6 kk (V2.pg ((X4.pg.trans (KeepsP.upd tb (by intro q; exact q)).pg).trans (((Ext.upd hLg1).pg.trans (Ext.upd hI1).pg).trans K6.pg))) 
end
end Mine
end
section -- S14
open PySem PySem.W PySem.Calls PyProof.Rows
open Sem (wp)
namespace Mine
example : hd.heap_39 = hd.heap_39 ∧ PySem.Challenge.rw_ez0179_01 = PySem.Challenge.rw_ez0179_01 := by k_fill; exact ⟨rfl, rfl⟩
theorem nb_int (w : World) : nsIn (hd.heap_39 w.params) mainGlobals "int" = some none := by kernel_rfl
theorem bi_int : bootBuiltins "int" = some (.type "int") := by kernel_rfl
theorem m_size (w : World) : findIn (hd.heap_39 w.params) (.ref 617) "size" = some (some (.ref 606)) := by kernel_rfl
theorem fn_606 (w : World) : isFn (hd.heap_39 w.params) (.ref 606) = true := by kernel_rfl
theorem kp_606 (w : World) : keepIn (hd.heap_39 w.params) (.ref 606) = true := by kernel_rfl
theorem ml_252 (w : World) : findIn (hd.heap_39 w.params) (.ref 252) "__len__" = some (some (.ref 235)) := by kernel_rfl
theorem fn_235 (w : World) : isFn (hd.heap_39 w.params) (.ref 235) = true := by kernel_rfl
theorem mn_252 (w : World) : findIn (hd.heap_39 w.params) (.ref 252) "_nodes_nbrs" = some (some (.ref 177)) := by kernel_rfl
theorem fn_177 (w : World) : isFn (hd.heap_39 w.params) (.ref 177) = true := by kernel_rfl
theorem kp_177 (w : World) : keepIn (hd.heap_39 w.params) (.ref 177) = true := by kernel_rfl
theorem pl_252 (w : World) (n : Str) : plainGet (hd.heap_39 w.params) 252 n = true := by kernel_rfl
section
variable {p : Program} {loose : List Str} {mg mb : Str → Option Value} {nf : Bool}
  {w : World} {g : Heap} {L : Addr} {m : List (Str × Value)} {F : List (Addr × List (Str × Value))} {C : Led} {G : Array GenState} {O : OsState} {s : Shared} {A : Around} {E Q : Value → Shared → Prop} {a : GA}
  {dv ev : Option Value} {gk : List (Str × Value)} {σ : PS} {env : Env}

/-- graph.number_of_edges() -/
theorem number_spec (S : St w g L m F C G O s) (D : Wd (hd.heap_39 w.params) p loose mg mb g) (BM : BMd mg g) (hh : A.handled = none) (hroom : A.depth + 32 < recursionLimit) (H : Gr C a dv ev gk σ) (W : σ.WF) (V : Vok C a dv ev) (hc : dv.isSome = true ∨ ev.isSome = true)
    (h : ∀ v t s' C' G', St w g L m F C' G' O s' → GG G G' → Gr C' a (some (.ref v)) ev gk σ → KPG C C' → Vok C' a (some (.ref v)) ev → Q (.int ((degSum σ).fdiv 2) t) s') : wpAny (model PR w) A (call (.ref 614) [.ref a.x]) Q E s := by
  refine wpAny_call ?_
  refine' r_enter (binds := [(Str.ofString "self", .ref a.x), (Str.ofString "u", .none), (Str.ofString "v", .none)]) S D ?ho ?hcd ?room ?hb ?hl ?_ ?c1 ?c2 ?c3 ?c4
  case ho => k_is
  case hcd => k_is
  case room => omega
  case hb => exact binds_K (D.X.keeps S.keep) rfl (by k_is) rfl rfl rfl
  case hl => exact locs rfl
  case c1 => rfl
  case c2 => rfl
  case c3 => rfl
  case c4 => decide
  intro L1 s1 S1
  refine wpAny_execs_cons (wpAny_If (wpAny_isTrue_Compare1 (r_loc S1 rfl (wpAny_Constant_none (is_none (wpAny_truthy_bool ?_))))))
  refine wpAny_execs_cons (wpAny_Return_some (r_tcall1 S1 D (nb_int w) bi_int (by decide) ?_))
  refine r_mcall0 S1 D rfl H.x H.dx (pl_617 w _) (m_size w) (fn_606 w) (kp_606 w) rfl (wpB_to ?_)
  refine size_spec S1 D BM hh (by show A.depth + 1 + 24 < _; omega) H W V (.inr hc) fun v t s2 C2 G2 S2 g2 H2 K2 V2 => ?_
  exact PySem.call_int_int (h v t s2 C2 G2 (S.pop S2) g2 H2 K2 V2)

/-- self._nodes_nbrs() -/
theorem call_177 {v : Addr} (S : St w g L m F C G O s) (D : Wd (hd.heap_39 w.params) p loose mg mb g) (hroom : A.depth < recursionLimit) (V : EdgV C a v) {tg : Tag} {kvs : List (Int × Value)} {ep : Nat} (had : C a.ad = some (.di tg kvs ep))
    (h : ∀ u s', C u = none → St w g L m F (upd C u (.obj (itemsView a.ad))) G O s' → Q (.ref u) s') : wpAny (model PR w) A (call (.ref 177) [.ref v]) Q E s := by
  obtain ⟨d, h1, h2⟩ := V
  refine wpAny_call ?_
  refine' r_enter (binds := [(Str.ofString "self", .ref v)]) S D ?ho ?hcd ?room ?hb ?hl ?_ ?c1 ?c2 ?c3 ?c4
  case ho => k_is
  case hcd => k_is
  case room => omega
  case hb => exact .of_eq rfl
  case hl => exact locs rfl
  case c1 => rfl
  case c2 => rfl
  case c3 => rfl
  case c4 => decide
  intro L1 s1 S1
  refine wpAny_execs_cons (wpAny_Return_some (MethodCall_ ?_))
  refine r_nattr S1 D rfl h1 h2 (ok_252 w) rfl rfl fun s2 S2 => ?_
  refine r_methD S2 had (.inl ⟨_, _, _, rfl⟩) PySem.F.slot_dict_items ty_items ?_
  refine PyProof.Rows.callWith_method0 ?_
  exact r_itemsI S2 had fun u s3 hu S3 => h u s3 hu (S.pop S3)
/-- len(nbrs) + (n in nbrs) -/
theorem r_degVal {n : Int} {t : Tok} {b : Addr} {r : List (Int × Value)} {er : Nat} {tg : Tag} {x y : Str} {q8 q9 q10 q11 q12 q13 q14 : Pos}
    (S : St w g L m F C G O s) (D : Wd (hd.heap_39 w.params) p loose mg mb g) (hn : m.lookup x = some (.int n t)) (hb : m.lookup y = some (.ref b)) (hr : C b = some (.di tg r er)) (hz : r.length ≤ 6)
    (hk : env.scope.kind = .function) (hL : env.locals = L) (hx : Loc env x) (hy : Loc env y) (hlen : env.kindOf "len" = some .globalImplicit) (hg : env.globals = mainGlobals) (hbi : env.builtins = builtinsNs)
    (he1 : eval (.Call (.Name "len" q8) [.Name y q9] [] q10) env = (do callWith q10 (← eval (.Name "len" q8) env) [] (backTo q10 (starEach [.Name y q9] env)) (backToKw q10 (keywordEach [] env))))
    (h : ∀ s' u, St w g L m F C G O s' → Q (.int ((r.length : Int) + if n ∈ r.map (·.1) then 1 else 0) u) s') :
    wpAny (model PR w) A (eval (.BinOp (.Call (.Name "len" q8) [.Name y q9] [] q10) .Add (.Compare (.Name x q11) [.In] [.Name y q12] q13) q14) env) Q E s := by
  refine wpAny_BinOp (r_bcall1 S D (nb_len w) bi_len (by decide) (r_loc S hb (r_lenI S hr (by omega) fun u s1 S1 => ?_) hk hy.1 hy.2 hL) rfl he1 hk hlen (by decide) hg hbi)
  refine wpAny_Compare1 (r_loc S1 hn (r_loc S1 hb (r_inI S1 hr fun s2 S2 => ?_) hk hy.1 hy.2 hL) hk hx.1 hx.2 hL)
  refine PySem.add_int_bool ?_
  have e : (if (valueAt r n).isSome = true then (1 : Int) else 0) = if n ∈ r.map (·.1) then 1 else 0 := by
    rw [valueAt_isSome]
    by_cases h : n ∈ r.map (·.1)
    · rw [if_pos h, if_pos (decide_eq_true h)]
    · rw [if_neg h, if_neg (by rw [decide_eq_false h]; exact Bool.false_ne_true)]
  rw [e]
  exact h _ _ (S2.toks _)

/-- len(graph.edges) -/
theorem edges_len {v : Addr} (S : St w g L m F C G O s) (D : Wd (hd.heap_39 w.params) p loose mg mb g) (BM : BMd mg g) (hh : A.handled = none) (hroom : A.depth + 24 < recursionLimit) (H : Gr C a dv ev gk σ) (W : σ.WF) (V : EdgV C a v)
    (h : ∀ t s' C' G', St w g L m F C' G' O s' → GG G G' → Gr C' a dv ev gk σ → KPG C C' → Q (.int ((degSum σ).fdiv 2) t) s') : wpAny (model PR w) A (call (.builtin "len") [.ref v]) Q E s := by
  obtain ⟨d, h1, h2⟩ := id V
  obtain ⟨o, I, _⟩ := inst_of S h1 h2
  obtain ⟨m₀, F₀⟩ := S.fr
  refine len_K F₀ D.X I (ml_252 w) (fn_235 w) ?_
  refine wpAny_call ?_
  refine' r_enter (binds := [(Str.ofString "self", .ref v)]) S D ?ho ?hcd ?room ?hb ?hl ?_ ?c1 ?c2 ?c3 ?c4
  case ho => k_is
  case hcd => k_is
  case room => show A.depth < _; omega
  case hb => exact .of_eq rfl
  case hl => exact locs rfl
  case c1 => rfl
  case c2 => rfl
  case c3 => rfl
  case c4 => decide
  intro L1 s1 S1
  obtain ⟨ak, ea, had, hak, hrows⟩ := id H.ad
  have hlen : ak.length = σ.an.length := by rw [← hak, List.length_map]
  refine wpAny_execs_cons (wpAny_Assign_Name (hs := rfl) (wpB_to ?_))
  refine b_genS (nf := false) (L := L1) (m := [(Str.ofString "self", .ref v)]) (F := (L, m) :: F) (O := O) BM D.T.nolimit (codeHd_of_K D.X (hd_234 w)) rfl rfl (by decide) (by decide) rfl (by show A.depth + 1 < _; omega) rfl rfl (wpB_any ?_)
  refine r_mcall0 S1 D rfl h1 h2 (pl_252 w _) (mn_252 w) (fn_177 w) (kp_177 w) rfl ?_
  refine call_177 S1 D (by show A.depth + 1 < _; omega) V had fun u s2 hu S2 => ?_
  have X2 := Ext.upd (c := .obj (itemsView a.ad)) hu
  refine r_iterI S2 (upd_same ..) (X2 _ _ had) fun Ii s3 hIi S3 => ?_
  have X3 := X2.trans (Ext.upd (c := .iit a.ad 0 ak.length ea) hIi)
  have cIi := upd_same (Mine.upd C u (.obj (itemsView a.ad))) Ii (.iit a.ad 0 ak.length ea)
  generalize Mine.upd (Mine.upd C u (.obj (itemsView a.ad))) Ii (.iit a.ad 0 ak.length ea) = C4 at S3 X3 cIi
  have H4 := H.ext X3
  obtain ⟨⟨ps, tb⟩, _⟩ := H4.tb
  refine ⟨C4, G, ps, S3, tb, fun Lg I s5 ps' code hLg hI hne hab S5 => ?_⟩
  have cI := upd_same (Mine.upd (Mine.upd C4 230 (.tab ps')) Lg (.ns [((Str.ofString ".0", .ref Ii) : Str × Value)])) I (.gen G.size)
  have hLg1 : Mine.upd C4 230 (.tab ps') Lg = none := by
    rw [upd_ne (by rintro rfl; rw [hLg] at tb; cases tb)]; exact hLg
  have hI1 : Mine.upd (Mine.upd C4 230 (.tab ps')) Lg (.ns [((Str.ofString ".0", .ref Ii) : Str × Value)]) I = none := by
    rw [upd_ne (Ne.symm hne), upd_ne (by rintro rfl; rw [hI] at tb; cases tb)]; exact hI
  refine r_store S5 fun s6 S6 => ?_
  refine wpAny_execs_cons (wpAny_Return_some (wpAny_BinOp (r_bcall1 S6 D (nb_sum w) bi_sum (by decide) (r_loc S6 rfl ?_))))
  refine r_sum (g := g) (L := L1) (m := [(Str.ofString "num_nbrs", .ref I), (Str.ofString "self", .ref v)]) (F := (L, m) :: F) (O := O) (n := σ.an.length) (gv := [G.size]) (P := fun i y C => ∃ t, y = .int (degAt σ i) t) (degAt σ) (fun i v C h => h) (fits_of (degAt_le W) (by have := W.len; rw [W.an]; omega)) ?_
  refine wpAny_pyIter_gen (S6.sat I _ cI) ?_
  refine ⟨I, _, _, _, rfl, S6, iter_gen hh (by show A.depth + 1 < _; omega) D.T.nolimit .nm (by simp), ?_, ?_, fun C7 G7 s7 t S7 K7 R7 => ?_⟩
  · intro i C C' G G' k hg x
    exact x.keep k hg
  · refine gx_gen (gv := []) (C₁ := Mine.upd C4 230 (.tab ps')) (G₁ := G) (Bs := fun C => Gr C a dv ev gk σ) (L' := Lg) (I := fun i C _ => C Ii = some (.iit a.ad i ak.length ea) ∧ C a.ad = some (.di .adj ak ea)) (by rw [← hlen]; exact (iter_itemsI (w := w)).at (by exact hh) (by show A.depth + 1 + 0 + 1 + 0 < _; omega))
      (fun A' {L m F C G s} Q E S i0 hq => (iter_itemsI (w := w) (elts := []) (k := 0) (p := ⟨0, 0, 0, 0⟩)).self S i0 hq) (fun i C C' G hI k => KG.but hI.1 rfl k) (fun G G' x => GB.grx x) (fun i C C' G G' k hg x => ⟨k.1 _ _ x.1 trivial, k.1 _ _ x.2 trivial⟩) (fun C C' k x => x.kg k) (fun C C' k x => x.kc k) hab rfl ?_ (fun _ _ _ _ _ h => h) cI
      (by rw [upd_ne hne]; exact upd_same ..) hLg1 ⟨(KC.updTab tb).1 _ _ cIi trivial, (KC.updTab tb).1 _ _ (X3 _ _ had) trivial⟩ (H4.kc (KC.updTab tb)) (fun j hj => by cases hj) ((Ext.upd hLg1).kc.trans (Ext.upd hI1).kc) (Array.getElem?_push_size ..)
    intro i y m F C G s E S hI hP Hb
    obtain ⟨T, k, u, t, hk, hv, hT⟩ := hP
    subst hv
    obtain ⟨ak', ea', had', _, hrows'⟩ := Hb.ad
    rw [hI.2] at had'; cases had'
    obtain ⟨b, hbu, r, er, hb, hr1, _⟩ := hrows' _ (List.mem_of_getElem? hk)
    dsimp only at hbu hb hr1
    subst hbu
    refine r_asP S (by exact hh) hT (fun s' S' => ?_)
    have hz : r.length ≤ 6 := by have := W.lenN k; rw [← hr1, List.length_map] at this; exact this
    refine r_degVal S' D rfl rfl hb hz rfl rfl ⟨rfl, rfl⟩ ⟨rfl, rfl⟩ rfl rfl rfl rfl fun s'' u' S'' => ⟨_, C, S'', .refl _, u', ?_⟩
    have han : σ.an[i]? = some k := by rw [← hak, List.getElem?_map, hk]; rfl
    unfold degAt degOf
    rw [han]
    dsimp only
    rw [← hr1, List.length_map]
  · have gg : GG G G7 := by
      refine ⟨fun j x e => ?_, fun hb => R7.2 ((GG.push G rfl).2 hb)⟩
      have hj4 := lt_of_get e
      rw [R7.1 j (by simp; omega), get_push hj4]; exact e
    have kk : KPG C C7 := ((X3.pg.trans (KeepsP.upd tb (by intro q; exact q)).pg).trans ((Ext.upd hLg1).pg.trans (Ext.upd hI1).pg)).trans K7.pg
    have H7 : Gr C7 a dv ev gk σ := ((H4.kc (KC.updTab tb)).ext ((Ext.upd hLg1).trans (Ext.upd hI1))).kg K7
    refine r_int S7 fun t2 s8 S8 => ?_
    refine PySem.AutoIntOps.floordiv_1 (by decide) (no_pylong2 _) ?_
    have hb := preSum_le (degAt_le W) σ.an.length
    have hw := W.len
    rw [← W.an] at hw
    have e : (degSum σ).fdiv 2 = degSum σ / 2 := Int.fdiv_eq_ediv_of_nonneg _ (by decide)
    have hd : 0 ≤ degSum σ ∧ degSum σ ≤ 42 := ⟨hb.1, by have := hb.2; unfold degSum; omega⟩
    refine ⟨⟨by show (0 : Int) ≤ (degSum σ).fdiv 2; omega, by show (degSum σ).fdiv 2 < _; omega⟩, ?_⟩
    exact h _ _ C7 G7 (((S.pop S8).toks _).toks _) gg H7 kk
end
end Mine
end
section -- S15
open PySem PySem.W PySem.Calls PyProof.Rows
open Sem (wp)
namespace Mine
/-- an iterator over a list of the generator's own -/
theorem iter_pl {w : World} {t : PySem.Expr} {it l : Addr} {vs : List Value} (ht : TgOk t) : IterOk w 0 t it vs.length (KeepsBut it) (fun i C _ => C it = some (.lit l i) ∧ C l = some (.pl vs)) (fun i v _ => vs[i]? = some v) where
  next := fun {A g L m F C G O s Q E i} _ _ S hI hi h => by
    obtain ⟨h1, h2⟩ := hI
    have hx : vs.toArray[i]? = some vs[i] := by simp [hi]
    refine wpAny_pyNext_list_item (S.sat it _ h1) (show s.heap.IsList l vs.toArray from S.sat l _ h2) hx fun h' hit hs => ?_
    obtain ⟨o, ho, hc, hd⟩ := id hit
    refine go_plain ht ho hc hd (by decide) ?_
    refine h _ (upd C it (.lit l (i + 1))) G _ (S.put (s' := { s with heap := h' }) h1 hs hit S.gens S.os) KeepsBut.upd (.refl _) ⟨upd_same .., ?_⟩ (by simp [hi])
    rw [upd_ne (ne_of_cells h2 h1 (by intro q; cases q))]; exact h2
  done := fun {A g L m F C G O s Q E} hh _ S hI h => by
    obtain ⟨h1, h2⟩ := hI
    exact wpAny_pyNext_list_end hh (S.sat it _ h1) (show s.heap.IsList l vs.toArray from S.sat l _ h2) (by simp) fun h' hx => h _ _ _ (S.lose (tk := s.toks) h1 hx) KeepsBut.del (.refl _)
  self := fun {A g L m F C G O s Q E i} S hI h => wpAny_pyIter_listiter (S.sat it _ hI.1) h

/-- the edges as EdgeView tells them: from the j-th node on -/
def restE (σ : PS) : List Int → List Int → List (Int × Int)
  | _, [] => []
  | seen, n :: r => (((σ.nbrs n).filter fun k => k ∉ seen).map fun k => (n, k)) ++ restE σ (seen ++ [n]) r
def pairsE (σ : PS) : List (Int × Int) := restE σ [] σ.an
def EdgP (σ : PS) (i : Nat) (v : Value) (C : Led) : Prop := ∃ T u k t1 t2, v = .ref T ∧ (pairsE σ)[i]? = some (u, k) ∧ C T = some (.tup [.int u t1, .int k t2])

/-- what the generator of the edges knows at any time -/
structure EdgB (C : Led) (a : GA) (ak : List (Int × Value)) (ea : Nat) (dv ev : Option Value) (gk : List (Str × Value)) (σ : PS) (sd it1 : Addr) (j : Nat) (sn : List Int) : Prop where
  ad : C a.ad = some (.di .adj ak ea)
  g : Gr C a dv ev gk σ
  sd : ∃ sk es, C sd = some (.di (.attr 99) sk es) ∧ sk.map (·.1) = sn
  it : C it1 = some (.iit a.ad j ak.length ea)
theorem EdgB.kc {C C' : Led} {a : GA} {ak : List (Int × Value)} {ea : Nat} {dv ev : Option Value} {gk : List (Str × Value)} {σ : PS} {sd it1 : Addr} {j : Nat} {sn : List Int} (B : EdgB C a ak ea dv ev gk σ sd it1 j sn) (k : KC C C') : EdgB C' a ak ea dv ev gk σ sd it1 j sn :=
  ⟨k.1 _ _ B.ad trivial, B.g.kc k, let ⟨sk, es, h1, h2⟩ := B.sd; ⟨sk, es, k.1 _ _ h1 trivial, h2⟩, k.1 _ _ B.it trivial⟩
section
variable {C C' : Led} {a : GA} {ak : List (Int × Value)} {ea : Nat} {dv ev : Option Value} {gk : List (Str × Value)} {σ : PS} {sd it1 it2 : Addr} {j : Nat} {sn : List Int}
theorem EdgB.ext (B : EdgB C a ak ea dv ev gk σ sd it1 j sn) (x : Ext C C') : EdgB C' a ak ea dv ev gk σ sd it1 j sn := B.kc x.kc
theorem EdgB.butL {l : Addr} {q : Nat} (B : EdgB C a ak ea dv ev gk σ sd it1 j sn) (hit : C it2 = some (.lit l q)) (k : KeepsBut it2 C C') : EdgB C' a ak ea dv ev gk σ sd it1 j sn :=
  ⟨k _ _ (ne_of_cells B.ad hit (by intro q; cases q)) B.ad, B.g.kg (KG.but hit rfl k), let ⟨sk, es, h1, h2⟩ := B.sd; ⟨sk, es, k _ _ (ne_of_cells h1 hit (by intro q; cases q)) h1, h2⟩, k _ _ (ne_of_cells B.it hit (by intro q; cases q)) B.it⟩
theorem EdgB.push {n : Int} {v : Value} {sk : List (Int × Value)} {es e' : Nat} (B : EdgB C a ak ea dv ev gk σ sd it1 j sn) (h1 : C sd = some (.di (.attr 99) sk es)) (h2 : sk.map (·.1) = sn) (hn : n ∉ sn) :
    EdgB (upd C sd (.di (.attr 99) (stored sk n v) e')) a ak ea dv ev gk σ sd it1 j (sn ++ [n]) :=
  ⟨by rw [upd_ne (ne_of_cells B.ad h1 (by intro q; cases q))]; exact B.ad, B.g.kg (KG.upd h1 rfl), ⟨_, e', upd_same .., by rw [keys_stored_new (by rw [h2]; exact hn), List.map_append, h2]; rfl⟩,
    by rw [upd_ne (ne_of_cells B.it h1 (by intro q; cases q))]; exact B.it⟩
end
/-- what stands between two edges -/
def EdgC (L' : Addr) (a : GA) (ak : List (Int × Value)) (ea : Nat) (dv ev : Option Value) (gk : List (Str × Value)) (σ : PS) (sd it1 it2 l : Addr) (j : Nat) (sn : List Int) (n : Int) (vs : List Value) (q : Nat) (C : Led) (_ : Array GenState) : Prop :=
  ∃ m t, C L' = some (.ns m) ∧ m.lookup (Str.ofString "seen") = some (.ref sd) ∧ m.lookup (Str.ofString "n") = some (.int n t) ∧ EdgB C a ak ea dv ev gk σ sd it1 j sn ∧ C it2 = some (.lit l q) ∧ C l = some (.pl vs)
theorem EdgC.stb {gv : List Nat} {L' : Addr} {a : GA} {ak : List (Int × Value)} {ea : Nat} {dv ev : Option Value} {gk : List (Str × Value)} {σ : PS} {sd it1 it2 l : Addr} {j : Nat} {sn : List Int} {n : Int} {vs : List Value} {q : Nat} :
    Stb gv (EdgC L' a ak ea dv ev gk σ sd it1 it2 l j sn n vs q) :=
  fun _ _ _ _ k _ ⟨m, t, h1, h2, h3, h4, h5, h6⟩ => ⟨m, t, k.1 _ _ h1 trivial, h2, h3, h4.kc k, k.1 _ _ h5 trivial, k.1 _ _ h6 trivial⟩
end Mine
end
section -- S16
open PySem PySem.W PySem.Calls PyProof.Rows
open Sem (wp)
namespace Mine
theorem ints_length : ∀ {vs : List Value} {ns : List Int}, IntsAre vs ns → vs.length = ns.length
  | _, _, .nil => rfl
  | _, _, .cons _ _ h => congrArg (· + 1) (ints_length h)
theorem ints_get : ∀ {vs : List Value} {ns : List Int}, IntsAre vs ns → ∀ {i : Nat} {v : Value}, vs[i]? = some v → ∃ n t, v = .int n t ∧ ns[i]? = some n
  | _, _, .nil, i, v, h => by simp at h
  | _, _, .cons n t hr, 0, v, h => ⟨n, t, (Option.some.inj (by simpa using h)).symm, by simp⟩
  | _, _, .cons n t hr, i + 1, v, h => by simpa using ints_get hr (i := i) (v := v) (by simpa using h)
abbrev eIB (q1 q2 q3 q4 q5 q6 q7 q8 q9 : Pos) (k0 : Nat) : List Stmt :=
  [.If (.Compare (.Name "nbr" q1) [.NotIn] [.Name "seen" q2] q3) [.Expr (.Yield (some (.Tuple [.Name "n" q4, .Name "nbr" q5] k0 q6)) q7) q8] [] q9]
abbrev eSt (q15 q16 q17 q18 q19 : Pos) (k1 : Nat) : Stmt := .Assign [.Subscript (.Name "seen" q15) (.Name "n" q16) q17] (.Constant (.int 1) k1 q18) q19
section
variable {p : Program} {loose : List Str} {mg mb : Str → Option Value}
  {w : World} {g : Heap} {O : OsState} {A : Around} {a : GA}
  {dv ev : Option Value} {gk : List (Str × Value)} {σ : PS} {env : Env}

theorem edg_inn {gi : Nat} {L' it1 it2 l sd : Addr} {ak : List (Int × Value)} {ea : Nat} {fb : List Stmt} {oc : Code} {p1 p2 : Pos} {kin kout : Result → Sem PySem.Fin} {j : Nat} {sn ns : List Int} {n : Int} {vs : List Value} {R' : List (Int × Int)} {kQ : Flow → Sem PySem.Fin}
    {q1 q2 q3 q4 q5 q6 q7 q8 q9 q10 q15 q16 q17 q18 q19 : Pos} {k0 k1 : Nat}
    (hh : A.handled = none) (hroom : A.depth + 8 < recursionLimit) (hab : g.objs.size ≤ L') (hns : IntsAre vs ns) (hsn : sn.length ≤ 6) (hn : n ∉ sn)
    (hk : env.scope.kind = .function) (hL : env.locals = L') (hx : Loc env "n") (hy : Loc env "nbr") (hs : Loc env "seen")
    (hco : env.scope.isCoroutine = false) (hi : interactive env = false)
    (sw : swapsWith (.Constant (.int 1) k1 q18) (some (.Subscript (.Name "seen" q15) (.Name "n" q16) q17)) q19.line env = pure false)
    (hoc : frameCount [(oc, p1)] = 0) (hocm : ∀ c : Code, (A.over c [.ret kin none false [] oc p1 [], .ret kout none false [] (.func fb env) p2 []]).depth = A.depth + 1 + c.weight)
    (hkQ : kQ .next = .pure (.again oc)) (hq : oc.quiet = true)
    (hkin : ∀ Post s, (∀ H, SegP (model PR w) A Post oc ((execs [eSt q15 q16 q17 q18 q19 k1] env).wrap kQ H id id) [.ret kout none false [] (.func fb env) p2 []] s) → SegP (model PR w) A Post oc (kin (.ok .next)) [.ret kout none false [] (.func fb env) p2 []] s)
    (OUTn : ∀ i, (pairsE σ).drop i = R' → i + R'.length = (pairsE σ).length → ∀ L m F C₀ G₀ s₀ C G s mm m0, St w g L m F C₀ G₀ O s₀ → C₀ L' = some (.ns m0) → St w g L' mm ((L, m) :: F) C G O s → mm.lookup (Str.ofString "seen") = some (.ref sd) → mm.lookup (Str.ofString "self") = mm.lookup (Str.ofString "self") →
      EdgB C a ak ea dv ev gk σ sd it1 (j + 1) (sn ++ [n]) → KG (Mine.del C₀ L') C → GRx [] G₀ G →
      SegP (model PR w) A (RPost w A g gi O [] (EdgP σ) L m F C₀ G₀ R'.length i) oc ((model PR w).den oc) [.ret kout none false [] (.func fb env) p2 []] s) :
    ∀ d q, q + d = vs.length → ∀ i, (pairsE σ).drop i = (((ns.drop q).filter fun k => k ∉ sn).map fun k => (n, k)) ++ R' → i + ((((ns.drop q).filter fun k => k ∉ sn).map fun k => (n, k)) ++ R').length = (pairsE σ).length →
      ∀ L m F C₀ G₀ s₀ C G s mm m0 t, St w g L m F C₀ G₀ O s₀ → C₀ L' = some (.ns m0) → St w g L' mm ((L, m) :: F) C G O s → mm.lookup (Str.ofString "seen") = some (.ref sd) → mm.lookup (Str.ofString "n") = some (.int n t) →
      EdgB C a ak ea dv ev gk σ sd it1 (j + 1) sn → C it2 = some (.lit l q) → C l = some (.pl vs) → KG (Mine.del C₀ L') C → GRx [] G₀ G →
      SegP (model PR w) A (RPost w A g gi O [] (EdgP σ) L m F C₀ G₀ ((((ns.drop q).filter fun k => k ∉ sn).map fun k => (n, k)) ++ R').length i) (.forLoop (.Name "nbr" q10) (.ref it2) (eIB q1 q2 q3 q4 q5 q6 q7 q8 q9 k0) [] env)
        ((model PR w).den (.forLoop (.Name "nbr" q10) (.ref it2) (eIB q1 q2 q3 q4 q5 q6 q7 q8 q9 k0) [] env))
        [.ret kin none false [] oc p1 [], .ret kout none false [] (.func fb env) p2 []] s := by
  have hlen : vs.length = ns.length := ints_length hns
  intro d
  induction d with
  | zero =>
    intro q hqd i hR hN L m F C₀ G₀ s₀ C G s mm m0 t S₀ h0 S hseen hnn B hit hl hKG hGR
    obtain rfl : q = vs.length := by omega
    have hnil : ns.drop vs.length = [] := List.drop_of_length_le (by omega)
    rw [hnil] at hR hN ⊢
    simp only [List.filter_nil, List.map_nil, List.nil_append] at hR hN ⊢
    refine sp_forLoop ?_
    refine (iter_pl (w := w) (t := .Name (Str.ofString "nbr") q10) .nm).done hh (by rw [hocm]; show A.depth + 1 + 0 + 0 < _; omega) S ⟨hit, hl⟩ fun C' G' s' S' K' B' => ?_
    refine sp_noElse (hkin _ _ fun H => ?_)
    obtain rfl : G' = G := B'
    have KG1 := KG.but hit rfl K'
    have B1 := B.butL hit K'
    obtain ⟨sk, es, c1, c2⟩ := B1.sd
    have hz : sk.length ≤ 1000 := by rw [← c2, List.length_map] at hsn; omega
    refine sp_execs_cons (sp_st (wpAny_Assign_Subscript (hs := sw) (r_int S' fun tv s2 S2 => r_loc S2 hseen (r_loc S2 hnn (r_setI S2 c1 hz fun e' s3 S3 => ?_) hk hx.1 hx.2 hL) hk hs.1 hs.2 hL)))
    show SegP (model PR w) A _ oc (kQ .next) _ _
    rw [hkQ]
    refine sp_again hq ?_
    have KG2 : KG C' (Mine.upd C' sd (.di (.attr 99) (stored sk n (.int 1 tv)) e')) := KG.upd c1 rfl
    refine OUTn i hR hN L m F C₀ G₀ s₀ _ G' s3 mm m0 S₀ h0 S3 hseen rfl ?_ ((hKG.trans KG1).trans KG2) hGR
    exact B1.push c1 c2 hn
  | succ d ih =>
    intro q hqd i hR hN L m F C₀ G₀ s₀ C G s mm m0 t S₀ h0 S hseen hnn B hit hl hKG hGR
    have hlt : q < vs.length := by omega
    refine sp_forLoop ?_
    refine (iter_pl (w := w) (t := .Name (Str.ofString "nbr") q10) .nm).next (Q := fun r s₁ => match r with
      | none => SegP (model PR w) A _ _ (.pure (.again (.block [] env))) _ s₁
      | some v => wpAny (model PR w) (A.over _ _) (assign _ env v) (fun _ s₂ => ∀ H, SegP (model PR w) A _ _ ((execs _ env).wrap _ H id id) _ s₂) (fun _ _ => False) s₁) hh (by rw [hocm]; show A.depth + 1 + 0 + 0 < _; omega) S ⟨hit, hl⟩ hlt fun vv C1 G1 s1 S1 K1 B1 hI1 hP1 => ?_
    obtain rfl : G1 = G := B1
    obtain ⟨k, tk, rfl, hnk⟩ := ints_get hns hP1
    have KG1 := KG.but hit rfl K1
    have Bb := B.butL hit K1
    have hdrop : ns.drop q = k :: ns.drop (q + 1) := by
      obtain ⟨h1, h2⟩ := List.getElem?_eq_some_iff.mp hnk
      rw [List.drop_eq_getElem_cons h1, h2]
    obtain ⟨sk, es, c1, c2⟩ := Bb.sd
    refine r_asN S1 (fun s2 S2 => ?_) hk hy.1 hL
    intro H
    refine sp_execs_cons (sp_If (wpAny_isTrue_Compare1 (r_loc S2 rfl (r_loc S2 hseen (r_notinI S2 c1 fun s3 S3 => wpAny_truthy_bool ?_) hk hs.1 hs.2 hL) hk hy.1 hy.2 hL)))
    have hmm : ((Str.ofString "nbr", Value.int k tk) :: mm).lookup (Str.ofString "seen") = some (.ref sd) := hseen
    have hmn : ((Str.ofString "nbr", Value.int k tk) :: mm).lookup (Str.ofString "n") = some (.int n t) := hnn
    by_cases hks : k ∈ sn
    · have e1 : (!(valueAt sk k).isSome) = false := by rw [valueAt_isSome, c2, decide_eq_true hks]; rfl
      rw [e1, if_neg Bool.false_ne_true]
      have e2 : ((ns.drop q).filter fun k => k ∉ sn) = (ns.drop (q + 1)).filter fun k => k ∉ sn := by
        rw [hdrop, List.filter_cons_of_neg (by simp [hks])]
      rw [e2] at hR hN ⊢
      refine sp_execs_nil (sp_execs_nil (sp_again rfl ?_))
      exact ih (q + 1) (by omega) i hR hN L m F C₀ G₀ s₀ C1 G1 s3 _ m0 t S₀ h0 S3 hmm hmn Bb hI1.1 hI1.2 (hKG.trans KG1) hGR
    · have e1 : (!(valueAt sk k).isSome) = true := by rw [valueAt_isSome, c2, decide_eq_false hks]; rfl
      rw [e1, if_pos rfl]
      have e2 : (((ns.drop q).filter fun k => k ∉ sn).map fun k => (n, k)) ++ R' = (n, k) :: ((((ns.drop (q + 1)).filter fun k => k ∉ sn).map fun k => (n, k)) ++ R') := by
        rw [hdrop, List.filter_cons_of_pos (by simp [hks])]; rfl
      rw [e2] at hR hN ⊢
      generalize hR2 : ((((ns.drop (q + 1)).filter fun k => k ∉ sn).map fun k => (n, k)) ++ R') = R2 at hR hN ⊢
      have hget : (pairsE σ)[i]? = some (n, k) := by
        have := congrArg (fun l => l[0]?) hR
        simpa using this
      have hR3 : (pairsE σ).drop (i + 1) = R2 := by
        rw [← List.drop_drop, hR]; rfl
      refine sp_execs_cons (sp_Yield rfl rfl rfl ?_ hco hi)
      refine r_tup (wpAny_items_cons (he := rfl) (r_loc S3 hmn (wpAny_items_cons (he := rfl) (r_loc S3 rfl (wpAny_items_nil ⟨Nat.le_of_ble_eq_true rfl, g, L', _, _, C1, G1, O, S3, fun T s4 hT S4 => ?_⟩) hk hy.1 hy.2 hL)) hk hx.1 hx.2 hL))
      intro lv kf pf hres hqt
      have X4 := Ext.upd (c := .tup [.int n t, .int k tk]) hT
      have hTL : T ≠ L' := (S4.off T _ (upd_same ..)).1.1
      have hL4 : upd C1 T (.tup [.int n t, .int k tk]) L' = none := by
        cases q : upd C1 T (.tup [.int n t, .int k tk]) L' with
        | none => rfl
        | some c => exact absurd rfl (S4.off _ _ q).1.1
      have X5 := X4.trans (Ext.upd (c := .ns ((Str.ofString "nbr", Value.int k tk) :: mm)) hL4)
      refine ⟨hqt, .ref T, ⟨_, _, _, _, _, _, rfl⟩, _, G1, S₀.sleep S4, KG.put h0 ((hKG.trans KG1).trans X4.kg), hGR, ⟨T, n, k, t, tk, rfl, hget, by rw [upd_ne hTL, upd_same]⟩, EdgC L' a ak ea dv ev gk σ sd it1 it2 l (j + 1) sn n vs (q + 1), EdgC.stb,
        ⟨_, t, upd_same .., hmm, hmn, Bb.ext X5, X5 _ _ hI1.1, X5 _ _ hI1.2⟩, ?_⟩
      refine rdy_of fun L2 m2 F2 C2 G2 s7 S7 ⟨m1, t1, d1, d2, d3, d4, d5, d6⟩ hrun => ?_
      refine hres _ _ (sp_execs_nil (sp_execs_nil (sp_again rfl ?_)))
      have SW := S7.wake d1 hab
      have off : ∀ b c, C2 b = some c → (∀ m, c ≠ .ns m) → Mine.del C2 L' b = some c := fun b c e hc => by
        unfold Mine.del; rw [if_neg (by rintro rfl; rw [d1] at e; cases e; exact hc _ rfl)]; exact e
      subst hR2
      refine ih (q + 1) (by omega) (i + 1) hR3 (by simp only [List.length_cons] at hN; omega) L2 m2 F2 C2 G2 s7 _ G2 s7 m1 m1 t1 S7 d1 SW d2 d3 ?_ (off _ _ d5 (by intro m q; cases q)) (off _ _ d6 (by intro m q; cases q)) (.refl _) (.refl _ _)
      exact ⟨off _ _ d4.ad (by intro m q; cases q), d4.g.kg (KG.del d1), let ⟨sk, es, h1, h2⟩ := d4.sd; ⟨sk, es, off _ _ h1 (by intro m q; cases q), h2⟩, off _ _ d4.it (by intro m q; cases q)⟩
end
end Mine
end
section -- S17
open PySem PySem.W PySem.Calls PyProof.Rows
open Sem (wp)
namespace Mine
example : hd.heap_39 = hd.heap_39 ∧ PySem.Challenge.rw_ez0179_01 = PySem.Challenge.rw_ez0179_01 := by k_fill; exact ⟨rfl, rfl⟩
abbrev eOB (q1 q2 q3 q4 q5 q6 q7 q8 q9 q10 q11 q12 q13 q14 q15 q16 q17 q18 q19 : Pos) (k0 k1 : Nat) : List Stmt :=
  [.For (.Name "nbr" q10) (.Call (.Name "list" q11) [.Name "nbrs" q12] [] q13) (eIB q1 q2 q3 q4 q5 q6 q7 q8 q9 k0) [] q14, eSt q15 q16 q17 q18 q19 k1]
section
variable {p : Program} {loose : List Str} {mg mb : Str → Option Value}
  {w : World} {g : Heap} {O : OsState} {A : Around} {a : GA}
  {dv ev : Option Value} {gk : List (Str × Value)} {σ : PS} {env : Env}

theorem edg_out {gi : Nat} {L' it1 sd : Addr} {ak : List (Int × Value)} {ea : Nat} {fb : List Stmt} {p2 : Pos} {kout : Result → Sem PySem.Fin}
    {q1 q2 q3 q4 q5 q6 q7 q8 q9 q10 q11 q12 q13 q14 q15 q16 q17 q18 q19 q20 q21 q22 : Pos} {k0 k1 k2 : Nat}
    (hh : A.handled = none) (hroom : A.depth + 8 < recursionLimit) (D : Wd (hd.heap_39 w.params) p loose mg mb g) (W : σ.WF) (hak : ak.map (·.1) = σ.an) (hab : g.objs.size ≤ L')
    (hk : env.scope.kind = .function) (hL : env.locals = L') (hx : Loc env "n") (hy : Loc env "nbr") (hz : Loc env "nbrs") (hs : Loc env "seen") (hli : env.kindOf "list" = some .globalImplicit) (hg : env.globals = mainGlobals) (hbi : env.builtins = builtinsNs)
    (hco : env.scope.isCoroutine = false) (hi : interactive env = false)
    (sw : swapsWith (.Constant (.int 1) k1 q18) (some (.Subscript (.Name "seen" q15) (.Name "n" q16) q17)) q19.line env = pure false)
    (he1 : eval (.Call (.Name "list" q11) [.Name "nbrs" q12] [] q13) env = (do callWith q13 (← eval (.Name "list" q11) env) [] (backTo q13 (starEach [.Name "nbrs" q12] env)) (backToKw q13 (keywordEach [] env))))
    (hfold : ∀ x, foldedSetIterable (.Call (.Name "list" q11) [.Name "nbrs" q12] [] q13) env x = pure x)
    (hkk : ∀ Post s, Post (.ret (.ok (.ret .none))) s → SegP (model PR w) A Post (.func fb env) (kout (.ok .next)) [] s) :
    ∀ d j, j + d = ak.length → ∀ i, (pairsE σ).drop i = restE σ (σ.an.take j) (σ.an.drop j) → i + (restE σ (σ.an.take j) (σ.an.drop j)).length = (pairsE σ).length →
      ∀ L m F C₀ G₀ s₀ C G s mm m0, St w g L m F C₀ G₀ O s₀ → C₀ L' = some (.ns m0) → St w g L' mm ((L, m) :: F) C G O s → mm.lookup (Str.ofString "seen") = some (.ref sd) →
      EdgB C a ak ea dv ev gk σ sd it1 j (σ.an.take j) → KG (Mine.del C₀ L') C → GRx [] G₀ G →
      SegP (model PR w) A (RPost w A g gi O [] (EdgP σ) L m F C₀ G₀ (restE σ (σ.an.take j) (σ.an.drop j)).length i)
        (.forLoop (.Tuple [.Name "n" q20, .Name "nbrs" q21] k2 q22) (.ref it1) (eOB q1 q2 q3 q4 q5 q6 q7 q8 q9 q10 q11 q12 q13 q14 q15 q16 q17 q18 q19 k0 k1) [] env)
        ((model PR w).den (.forLoop (.Tuple [.Name "n" q20, .Name "nbrs" q21] k2 q22) (.ref it1) (eOB q1 q2 q3 q4 q5 q6 q7 q8 q9 q10 q11 q12 q13 q14 q15 q16 q17 q18 q19 k0 k1) [] env))
        [.ret kout none false [] (.func fb env) p2 []] s := by
  have hlen : ak.length = σ.an.length := by rw [← hak, List.length_map]
  have hl6 : σ.an.length ≤ 6 := by have := W.len; rw [W.an]; exact this
  intro d
  induction d with
  | zero =>
    intro j hjd i hR hN L m F C₀ G₀ s₀ C G s mm m0 S₀ h0 S hseen B hKG hGR
    obtain rfl : j = ak.length := by omega
    have hnil : σ.an.drop ak.length = [] := List.drop_of_length_le (by omega)
    rw [hnil]
    refine sp_forLoop ?_
    refine (iter_itemsI (w := w) (elts := [.Name "n" q20, .Name "nbrs" q21]) (k := k2) (p := q22)).done hh (by show A.depth + 1 + 0 + 0 < _; omega) S ⟨B.it, B.ad⟩ fun C' G' s' S' K' B' => ?_
    exact sp_noElse (hkk _ _ ⟨⟨_, rfl, .inr rfl⟩, _, G', S₀.sleep S', KG.put h0 (hKG.trans (KG.but B.it rfl K')), hGR.trans B'.grx⟩)
  | succ d ih =>
    intro j hjd i hR hN L m F C₀ G₀ s₀ C G s mm m0 S₀ h0 S hseen B hKG hGR
    have hlt : j < ak.length := by omega
    refine sp_forLoop ?_
    refine (iter_itemsI (w := w) (elts := [.Name "n" q20, .Name "nbrs" q21]) (k := k2) (p := q22)).next (Q := fun r s₁ => match r with
      | none => SegP (model PR w) A _ _ (.pure (.again (.block [] env))) _ s₁
      | some v => wpAny (model PR w) (A.over _ _) (assign _ env v) (fun _ s₂ => ∀ H, SegP (model PR w) A _ _ ((execs _ env).wrap _ H id id) _ s₂) (fun _ _ => False) s₁) hh (by show A.depth + 1 + 0 + 0 < _; omega) S ⟨B.it, B.ad⟩ hlt fun vv C1 G1 s1 S1 K1 B1 hI1 hP1 => ?_
    obtain rfl : G1 = G := B1
    obtain ⟨T, n, u, t, hkj, rfl, hT⟩ := hP1
    have KG1 : KG C C1 := KG.but B.it rfl K1
    have g1 := B.g.kg KG1
    obtain ⟨ak', ea', had', _, hrows'⟩ := id g1.ad
    rw [hI1.2] at had'; cases had'
    obtain ⟨b, hbu, r, er, hb, hr1, _⟩ := hrows' _ (List.mem_of_getElem? hkj)
    dsimp only at hbu hb hr1
    subst hbu
    have hrz : r.length ≤ 6 := by have := W.lenN n; rw [← hr1, List.length_map] at this; exact this
    have hanj : σ.an[j]? = some n := by rw [← hak, List.getElem?_map, hkj]; rfl
    have hanl : j < σ.an.length := by omega
    have hane : σ.an[j] = n := by rw [List.getElem?_eq_getElem hanl] at hanj; exact Option.some.inj hanj
    have hdrop : σ.an.drop j = n :: σ.an.drop (j + 1) := by rw [List.drop_eq_getElem_cons hanl, hane]
    have htake : σ.an.take (j + 1) = σ.an.take j ++ [n] := by rw [List.take_add_one, hanj]; rfl
    have hnn : n ∉ σ.an.take j := by
      intro hm
      have hnd : σ.an.Nodup := by rw [W.an]; exact W.nd
      have := (List.take_append_drop j σ.an).symm ▸ hnd
      rw [hdrop] at this
      exact (List.nodup_append.mp this).2.2 n hm n (.head _) rfl
    have hre : restE σ (σ.an.take j) (σ.an.drop j) = (((σ.nbrs n).filter fun k => k ∉ σ.an.take j).map fun k => (n, k)) ++ restE σ (σ.an.take (j + 1)) (σ.an.drop (j + 1)) := by
      rw [hdrop, htake]; rfl
    rw [hre] at hR hN ⊢
    refine r_asP S1 hh hT (fun s2 S2 => ?_) hk hx.1 hz.1 hL
    intro H
    have hms : ((Str.ofString "nbrs", Value.ref b) :: (Str.ofString "n", Value.int n t) :: mm).lookup (Str.ofString "seen") = some (.ref sd) := hseen
    refine sp_execs_cons (sp_For (hs := hfold) (r_tcall1 S2 D (nb_list w) bi_list (by decide) (r_loc S2 rfl (r_listD hh (by show A.depth + 1 + 0 < _; omega) S2 hb (by omega) fun l s3 C3 G3 vs hl S3 hG3 X3 hl3 hints => ?_) hk hz.1 (by decide) hL) rfl he1 hk hli (by decide) hg hbi))
    obtain rfl : G3 = G1 := hG3
    refine r_iterL S3 hl3 fun it2 s4 hit S4 => ?_
    intro pp kx
    rw [hr1] at hints
    have X4 := X3.trans (Ext.upd (c := .lit l 0) hit)
    have hl4 : upd C3 it2 (.lit l 0) l = some (.lst vs) := upd_old hl3 hit
    have S5 := S4.recell (c' := .pl vs) hl4 (show Sat w _ _ (.lst vs) from S4.sat _ _ hl4)
    have X5 : Ext C1 (upd (upd C3 it2 (.lit l 0)) l (.pl vs)) := fun b c e => by
      rw [upd_ne (by rintro rfl; rw [hl] at e; cases e)]; exact X4 b c e
    have Bj : EdgB C1 a ak ea dv ev gk σ sd it1 (j + 1) (σ.an.take j) :=
      ⟨hI1.2, g1, let ⟨sk, es, h1, h2⟩ := B.sd; ⟨sk, es, K1 _ _ (ne_of_cells h1 B.it (by intro q; cases q)) h1, h2⟩, hI1.1⟩
    have hitl : it2 ≠ l := by rintro rfl; rw [hit] at hl3; cases hl3
    refine edg_inn (sn := σ.an.take j) (ns := σ.nbrs n) (kQ := fun f => match f with
            | .next | .cont => .pure (.again _)
            | .brk => .pure (.done .next)
            | .ret v => .pure (.done (.ret v))) hh hroom hab hints (by rw [List.length_take]; omega) hnn hk hL hx hy hs hco hi sw rfl (fun c => rfl) rfl rfl (fun Post s h => h _) ?_ vs.length 0 (Nat.zero_add _) i hR hN L m F C₀ G₀ s₀ _ _ s4 _ m0 t S₀ h0 S5 hms rfl (Bj.ext X5) (by rw [upd_ne hitl]; exact upd_same ..) (upd_same ..) ((hKG.trans KG1).trans X5.kg) hGR
    intro i' hR' hN' L2 m2 F2 C20 G20 s20 C2 G2 s2' mm2 m20 T0 T1 T2 T3 _ T4 T5 T6
    exact ih (j + 1) (by omega) i' hR' hN' L2 m2 F2 C20 G20 s20 C2 G2 s2' mm2 m20 T0 T1 T2 T3 (by rw [htake]; exact T4) T5 T6
end
end Mine
end
section -- S18
open PySem PySem.W PySem.Calls PyProof.Rows
open Sem (wp)
namespace Mine
example : hd.heap_39 = hd.heap_39 ∧ PySem.Challenge.rw_ez0179_01 = PySem.Challenge.rw_ez0179_01 := by k_fill; exact ⟨rfl, rfl⟩
theorem it_252 (w : World) : findIn (hd.heap_39 w.params) (.ref 252) "__iter__" = some (some (.ref 242)) := by kernel_rfl
theorem fn_242 (w : World) : isFn (hd.heap_39 w.params) (.ref 242) = true := by kernel_rfl
section
variable {p : Program} {loose : List Str} {mg mb : Str → Option Value}
  {w : World} {g : Heap} {L : Addr} {m : List (Str × Value)} {F : List (Addr × List (Str × Value))} {C : Led} {G : Array GenState} {O : OsState} {s : Shared} {A : Around} {E Q : Value → Shared → Prop} {a : GA}
  {dv ev : Option Value} {gk : List (Str × Value)} {σ : PS} {env : Env}

/-- iter(graph.edges) -/
theorem edg_iter {v : Addr} (S : St w g L m F C G O s) (D : Wd (hd.heap_39 w.params) p loose mg mb g) (hroom : A.depth + 8 < recursionLimit) (H : Gr C a dv ev gk σ) (W : σ.WF) (V : EdgV C a v)
    (h : ∀ I gi s' C' G', St w g L m F C' G' O s' → Ext C C' → C I = none → G[gi]? = none → GG G G' → (∀ A' : Around, A'.handled = none → A'.depth + 9 < recursionLimit → GenI w A' g gi O [] (EdgP σ) I (pairsE σ).length 0 C' G') → Q (.ref I) s') :
    wpAny (model PR w) A (pyIter (.ref v)) Q E s := by
  obtain ⟨d, h1, h2⟩ := id V
  obtain ⟨o, I, _⟩ := inst_of S h1 h2
  obtain ⟨m₀, F₀⟩ := S.fr
  obtain ⟨ak, ea, had, hak, _⟩ := id H.ad
  have hlen : ak.length = σ.an.length := by rw [← hak, List.length_map]
  refine owit_iter F₀ D.X I (it_252 w) (fn_242 w) ?_
  refine wpAny_call ?_
  refine' r_genfn (binds := [(Str.ofString "self", .ref v)]) S D ?ho ?hcd ?room ?hb ?hl ?_ ?c1 ?c2 ?c3 ?c4
  case ho => k_is
  case hcd => k_is
  case room => omega
  case hb => exact .of_eq rfl
  case hl => exact locs rfl
  case c1 => rfl
  case c2 => rfl
  case c3 => rfl
  case c4 => decide
  intro L' it s1 hL' hit hne hab S1
  show OwitIt _ _ _ _ _ _
  unfold OwitIt
  refine wpAny_specialOf (T := "generator") (Heap.IsGen.typeIs (S1.sat it _ (upd_same ..))) slot_gen_next.lookup ?_
  have hit1 : Mine.upd C L' (.ns [((Str.ofString "self", .ref v) : Str × Value)]) it = none := by rw [upd_ne (Ne.symm hne)]; exact hit
  have X1 : Ext C _ := Ext.upd (c := .ns [((Str.ofString "self", .ref v) : Str × Value)]) hL'
  have X2 := X1.trans (Ext.upd (c := .gen G.size) hit1)
  refine h it G.size s1 _ _ S1 X2 hit (Array.getElem?_eq_none (Nat.le_refl _)) (GG.push G rfl) fun A' hh' hd' => ?_
  refine ⟨upd_same .., fun C G => C L' = some (.ns [((Str.ofString "self", .ref v) : Str × Value)]) ∧ C v = some (.obj (instObj 252 d)) ∧ C d = some (.sm (edgF a.ad) 1 false) ∧ C a.ad = some (.di .adj ak ea) ∧ Gr C a dv ev gk σ, _, fun C C' _ _ k _ ⟨e1, e2, e3, e4, e5⟩ => ⟨k.1 _ _ e1 trivial, k.1 _ _ e2 trivial, k.1 _ _ e3 trivial, k.1 _ _ e4 trivial, e5.kc k⟩,
    ⟨by rw [upd_ne hne]; exact upd_same .., X2 _ _ h1, X2 _ _ h2, X2 _ _ had, H.ext X2⟩, Array.getElem?_push_size .., ?_⟩
  rw [Nat.sub_zero]
  refine rdy_of fun L2 m2 F2 C2 G2 s2 S2 ⟨c1, c2, c3, c4, c5⟩ hrun => ?_
  have SW := S2.wake c1 hab
  have KW := KG.del c1
  refine sp_func fun Hh => ?_
  refine sp_execs_cons (sp_st (wpAny_Assign_Name (hs := rfl) (r_newdi (.attr 99) SW fun sd s3 hsd S3 => r_store S3 fun s4 S4 => ?_)))
  have X3 := Ext.upd (c := .di (.attr 99) [] 0) hsd
  have w2 := X3 _ _ (KW _ _ c2 rfl)
  have w3 := X3 _ _ (KW _ _ c3 rfl)
  have w4 := X3 _ _ (KW _ _ c4 rfl)
  have wsd := upd_same (Mine.del C2 L') sd (.di (.attr 99) [] 0)
  refine sp_execs_cons (sp_For (hs := fun _ => rfl) ?_)
  refine r_mcall0 S4 D rfl w2 w3 (pl_252 w _) (mn_252 w) (fn_177 w) (kp_177 w) rfl ?_
  refine call_177 S4 D (by show A'.depth + 1 < _; omega) ⟨d, w2, w3⟩ w4 fun u s5 hu S5 => ?_
  have X5 := X3.trans (Ext.upd (c := .obj (itemsView a.ad)) hu)
  refine r_iterI S5 (upd_same ..) (X5 _ _ (KW _ _ c4 rfl)) fun it1 s6 hi1 S6 => ?_
  intro pp kx
  have X6 := X5.trans (Ext.upd (c := .iit a.ad 0 ak.length ea) hi1)
  refine edg_out (A := A'.in1) (σ := σ) (a := a) (ea := ea) (dv := dv) (ev := ev) (gk := gk) hh' (by show A'.depth + 8 < _; omega) D W hak hab rfl rfl ⟨rfl, rfl⟩ ⟨rfl, rfl⟩ ⟨rfl, rfl⟩ ⟨rfl, rfl⟩ rfl rfl rfl rfl rfl rfl rfl (fun _ => rfl) ?_ ak.length 0 (Nat.zero_add _) 0 rfl (Nat.zero_add _) L2 m2 F2 C2 G2 s2 _ G2 s6 _ _ S2 c1 S6 rfl ?_ X6.kg (.refl _ _)
  · intro Post s7 h7
    exact sp_end (.ok (.ret .none)) h7
  · refine ⟨X6 _ _ (KW _ _ c4 rfl), (c5.kg KW).ext X6, ⟨[], 0, ?_, rfl⟩, upd_same ..⟩
    exact (upd_old (upd_old wsd hu) hi1)
end
end Mine
end
section -- P1
open PySem PySem.W PySem.Calls PyProof.Rows
namespace Mine

/-! A game tree of questions, answered by a rule. -/
def krun {α : Type} (f : Nat → Nat → Bool) : KasT α → α
  | .ret a => a
  | .ask i j k => krun f (k (f i j))
theorem krun_bind {α β : Type} (f : Nat → Nat → Bool) (g : α → KasT β) : ∀ t : KasT α, krun f (t.bind g) = krun f (g (krun f t))
  | .ret _ => rfl
  | .ask i j k => krun_bind f g (k (f i j))
theorem krun_if {α : Type} (f : Nat → Nat → Bool) {c : Prop} [Decidable c] (a b : KasT α) : krun f (if c then a else b) = if c then krun f a else krun f b := by
  by_cases h : c
  · rw [if_pos h, if_pos h]
  · rw [if_neg h, if_neg h]
/-- every question of the tree is about places below n -/
def KPost {α : Type} (n : Nat) (P : α → Prop) : KasT α → Prop
  | .ret a => P a
  | .ask i j k => i < n ∧ j < n ∧ ∀ b, KPost n P (k b)
theorem KPost.bind {α β : Type} {n : Nat} {P : α → Prop} {P' : β → Prop} {g : α → KasT β} (hg : ∀ a, P a → KPost n P' (g a)) : ∀ {t : KasT α}, KPost n P t → KPost n P' (t.bind g)
  | .ret a, h => hg a h
  | .ask _ _ _, h => ⟨h.1, h.2.1, fun b => KPost.bind hg (h.2.2 b)⟩
theorem KPost.ite {α : Type} {n : Nat} {P : α → Prop} {c : Prop} [Decidable c] {a b : KasT α} (ha : KPost n P a) (hb : KPost n P b) : KPost n P (if c then a else b) := by
  by_cases h : c
  · rw [if_pos h]; exact ha
  · rw [if_neg h]; exact hb
def AllIn (n : Nat) (p : Array Nat) : Prop := 0 < n ∧ ∀ x ∈ p, x < n
theorem AllIn.at {n : Nat} {p : Array Nat} (h : AllIn n p) (i : Nat) : p.getD i 0 < n := by
  rw [Array.getD_eq_getD_getElem?]
  cases e : p[i]? with
  | none => exact h.1
  | some x => exact h.2 x (Array.mem_of_getElem? e)
theorem AllIn.perm {n : Nat} {p q : Array Nat} (h : AllIn n p) (x : q.Perm p) : AllIn n q := ⟨h.1, fun y hy => h.2 y (x.mem_iff.mp hy)⟩
theorem AllIn.rev {n : Nat} {p : Array Nat} (h : AllIn n p) (i j : Nat) : AllIn n (kas_rev p i j) := h.perm (mirror_perm ..)
theorem post_asc {n : Nat} : ∀ (f : Nat) (p : Array Nat) (m : Nat), AllIn n p → KPost n (fun _ => True) (kas_asc p f m)
  | 0, _, _, _ => trivial
  | f + 1, p, m, h => ⟨h.at _, h.at _, fun _ => KPost.ite trivial (post_asc f p (m + 1) h)⟩
theorem post_desc {n : Nat} : ∀ (f : Nat) (p : Array Nat) (m q : Nat), AllIn n p → KPost n (fun r => AllIn n r.1) (kas_desc f p m q)
  | 0, _, _, _, h => h
  | f + 1, p, m, q, h => ⟨h.at _, h.at _, fun _ => KPost.ite (KPost.ite (post_desc f _ _ _ (h.rev _ _)) (post_desc f _ _ _ h)) ⟨h.at _, h.at _, fun _ => KPost.ite h (post_desc f _ _ _ h)⟩⟩
theorem KPost.ret {α : Type} {n : Nat} {P : α → Prop} {a : α} (h : P a) : KPost n P (.ret a) := h
theorem KPost.ask {α : Type} {n : Nat} {P : α → Prop} {i j : Nat} {k : Bool → KasT α} (h1 : i < n) (h2 : j < n) (h : ∀ b, KPost n P (k b)) : KPost n P (.ask i j k) := ⟨h1, h2, h⟩
theorem post_tail3 {n a b : Nat} {p : Array Nat} (h : AllIn n p) : KPost n (fun r => AllIn n r.2) (kas_tail3 a b p) := by
  unfold kas_tail3
  exact KPost.bind (fun _ _ => KPost.ret (P := fun r : Nat × Array Nat => AllIn n r.2) (h.rev _ _)) (post_asc _ _ _ (h.rev _ _))
theorem post_descPart {n a b : Nat} {p : Array Nat} (h : AllIn n p) : KPost n (fun r => AllIn n r.2) (kas_descPart a b p) := by
  unfold kas_descPart
  exact KPost.bind (fun r hr => KPost.ite (post_tail3 (AllIn.rev hr _ _)) (post_tail3 hr)) (post_desc _ _ _ _ h)
theorem post_count {n b : Nat} {p : Array Nat} (h : AllIn n p) : KPost n (fun r => AllIn n r.2) (kas_count b p) := by
  unfold kas_count
  refine KPost.bind (P := fun _ => True) (fun m _ => ?_) (post_asc _ _ _ h)
  refine KPost.ite (KPost.ret (P := fun r : Nat × Array Nat => AllIn n r.2) h) (KPost.ite (KPost.ask (h.at _) (h.at _) fun _ => KPost.ite (KPost.ret (P := fun r : Nat × Array Nat => AllIn n r.2) h) (post_descPart (h.rev _ _))) (post_descPart h))
theorem post_place {n : Nat} {p : Array Nat} {k : Nat} (h : AllIn n p) : ∀ (f l r : Nat), KPost n (fun _ => True) (kas_place p k f l r)
  | 0, _, _ => trivial
  | f + 1, l, r => KPost.ite trivial ⟨h.at _, h.at _, fun _ => KPost.ite (post_place h f _ _) (post_place h f _ _)⟩
theorem post_bin {n : Nat} : ∀ (f : Nat) (p : Array Nat) (k : Nat), AllIn n p → KPost n (fun q => AllIn n q) (kas_bin f p k)
  | 0, _, _, h => h
  | f + 1, p, k, h => KPost.bind (t := kas_place p k k 0 k) (fun _ _ => post_bin f _ _ (h.perm (bubble_perm ..))) (post_place h _ _ _)
theorem post_sort {n : Nat} (hn : 0 < n) : KPost n (fun q => AllIn n q) (kas_sort n) := by
  unfold kas_sort
  exact KPost.bind (fun r hr => KPost.ite (post_bin _ _ _ hr) (KPost.ret hr)) (post_count (n := n) (p := List.toArray (List.range n)) ⟨hn, fun x hx => by simpa using hx⟩)
theorem kasWp_run {α : Type} {n : Nat} {cmp : Nat → Nat → (Bool → Shared → Prop) → Shared → Prop} {f : Nat → Nat → Bool} {Q : α → Shared → Prop} {P : α → Prop} {s : Shared} (hc : ∀ i j C, i < n → j < n → C (f i j) s → cmp i j C s) :
    ∀ (t : KasT α), KPost n P t → Q (krun f t) s → t.kasWp cmp Q s
  | .ret _, _, h => h
  | .ask i j k, hp, h => hc i j _ hp.1 hp.2.1 (kasWp_run hc (k (f i j)) (hp.2.2 _) h)

section
variable (key : Nat → Int) (n : Nat)
def AtK (p : Array Nat) (i : Nat) : Int := key (p.getD i 0)
def lessK (i j : Nat) : Bool := decide (key i < key j)
def UpK (p : Array Nat) (m : Nat) : Prop := ∀ i, i + 1 < m → AtK key p i < AtK key p (i + 1)
def DownK (p : Array Nat) (m : Nat) : Prop := ∀ i, i + 1 < m → AtK key p (i + 1) < AtK key p i
variable {key : Nat → Int} {n : Nat}

theorem UpK.lt {p : Array Nat} {m : Nat} (h : UpK key p m) : ∀ {j i : Nat}, i < j → j < m → AtK key p i < AtK key p j
  | 0, _, hij, _ => absurd hij (Nat.not_lt_zero _)
  | j + 1, i, hij, hj => by
    rcases Nat.lt_or_ge i j with h1 | h1
    · exact Int.lt_trans (UpK.lt h h1 (by omega)) (h j hj)
    · have : i = j := by omega
      subst this; exact h i hj
theorem DownK.lt {p : Array Nat} {m : Nat} (h : DownK key p m) : ∀ {j i : Nat}, i < j → j < m → AtK key p j < AtK key p i
  | 0, _, hij, _ => absurd hij (Nat.not_lt_zero _)
  | j + 1, i, hij, hj => by
    rcases Nat.lt_or_ge i j with h1 | h1
    · exact Int.lt_trans (h j hj) (DownK.lt h h1 (by omega))
    · have : i = j := by omega
      subst this; exact h i hj

/-- the keys of the places are apart -/
def ApartK (key : Nat → Int) (n : Nat) (p : Array Nat) : Prop := p.size = n ∧ ∀ i j, i < n → j < n → AtK key p i = AtK key p j → i = j

theorem atK_get {p q : Array Nat} {i j : Nat} (h : p[i]? = q[j]?) : AtK key p i = AtK key q j := by
  unfold AtK
  rw [Array.getD_eq_getD_getElem?, Array.getD_eq_getD_getElem?, h]
theorem at_rev {p : Array Nat} {m : Nat} (hm : m ≤ p.size) (i : Nat) : AtK key (kas_rev p 0 m) i = if i < m then AtK key p (m - 1 - i) else AtK key p i := by
  have e := getElem?_mirror_all (i := 0) hm i
  simp only [Nat.zero_le, true_and, Nat.zero_add] at e
  by_cases h : i < m
  · rw [if_pos h] at e ⊢; exact atK_get e
  · rw [if_neg h] at e ⊢; exact atK_get e
theorem ApartK.perm {p q : Array Nat} (h : ApartK key n p) (hs : q.size = p.size) (g : Nat → Nat) (hg : ∀ i, i < n → g i < n) (hi : ∀ i j, i < n → j < n → g i = g j → i = j) (e : ∀ i, i < n → AtK key q i = AtK key p (g i)) : ApartK key n q :=
  ⟨hs.trans h.1, fun i j h1 h2 x => hi i j h1 h2 (h.2 _ _ (hg i h1) (hg j h2) (by rw [← e i h1, ← e j h2]; exact x))⟩
theorem ApartK.rev {p : Array Nat} {m : Nat} (h : ApartK key n p) (hm : m ≤ n) : ApartK key n (kas_rev p 0 m) :=
  h.perm (mirror_size ..) (fun i => if i < m then m - 1 - i else i) (fun i hi => by show (if i < m then m - 1 - i else i) < n; split <;> omega)
    (fun i j _ _ e => by
      have e' : (if i < m then m - 1 - i else i) = if j < m then m - 1 - j else j := e
      split at e' <;> split at e' <;> omega)
    (fun i _ => by rw [at_rev (by rw [h.1]; exact hm)]; split <;> rfl)

theorem run_asc : ∀ (f : Nat) (p : Array Nat) (m : Nat), 1 ≤ m → UpK key p m → ApartK key n p → m + f ≤ n →
    m ≤ krun (lessK key) (kas_asc p f m) ∧ krun (lessK key) (kas_asc p f m) ≤ m + f ∧ UpK key p (krun (lessK key) (kas_asc p f m)) ∧
      (krun (lessK key) (kas_asc p f m) < m + f → AtK key p (krun (lessK key) (kas_asc p f m)) < AtK key p (krun (lessK key) (kas_asc p f m) - 1))
  | 0, p, m, _, hu, _, _ => ⟨Nat.le_refl _, Nat.le_refl _, hu, fun h => absurd h (Nat.lt_irrefl _)⟩
  | f + 1, p, m, h1, hu, ha, hn => by
    have e : krun (lessK key) (kas_asc p (f + 1) m) = krun (lessK key) (if lessK key (p.getD m 0) (p.getD (m - 1) 0) = true then .ret m else kas_asc p f (m + 1)) := rfl
    rw [e]
    by_cases hc : lessK key (p.getD m 0) (p.getD (m - 1) 0) = true
    · rw [if_pos hc]
      exact ⟨Nat.le_refl _, Nat.le_add_right _ _, hu, fun _ => of_decide_eq_true hc⟩
    · rw [if_neg hc]
      have hle : AtK key p (m - 1) ≤ AtK key p m := Int.not_lt.mp fun q => hc (decide_eq_true q)
      have hne : AtK key p (m - 1) ≠ AtK key p m := fun q => by have := ha.2 _ _ (by omega) (by omega) q; omega
      have hu' : UpK key p (m + 1) := fun i hi => by
        rcases Nat.lt_or_ge (i + 1) m with h2 | h2
        · exact hu i h2
        · have : i = m - 1 := by omega
          subst this
          rw [show m - 1 + 1 = m by omega]
          omega
      have ih := run_asc f p (m + 1) (by omega) hu' ha (by omega)
      exact ⟨by omega, by omega, ih.2.2.1, fun q => ih.2.2.2 (by omega)⟩

theorem run_desc : ∀ (f : Nat) (p : Array Nat) (m : Nat), 1 ≤ m → DownK key p m → ApartK key n p → m + f ≤ n →
    ∃ m', krun (lessK key) (kas_desc f p m 0) = (p, m', 0) ∧ m ≤ m' ∧ m' ≤ m + f ∧ DownK key p m'
  | 0, p, m, _, hd, _, _ => ⟨m, rfl, Nat.le_refl _, Nat.le_refl _, hd⟩
  | f + 1, p, m, h1, hd, ha, hn => by
    have e : krun (lessK key) (kas_desc (f + 1) p m 0) = krun (lessK key) (if lessK key (p.getD m 0) (p.getD (m - 1) 0) = true then (if 0 > 0 then kas_desc f (kas_rev p (m - (0 + 1)) m) (m + 1) 0 else kas_desc f p (m + 1) 0)
        else .ask (p.getD (m - 1) 0) (p.getD m 0) fun d => if d = true then .ret (p, m, 0) else kas_desc f p (m + 1) (0 + 1)) := rfl
    rw [e]
    by_cases hc : lessK key (p.getD m 0) (p.getD (m - 1) 0) = true
    · rw [if_pos hc, if_neg (Nat.lt_irrefl 0)]
      have hd' : DownK key p (m + 1) := fun i hi => by
        rcases Nat.lt_or_ge (i + 1) m with h2 | h2
        · exact hd i h2
        · have : i = m - 1 := by omega
          subst this
          rw [show m - 1 + 1 = m by omega]
          exact of_decide_eq_true hc
      obtain ⟨m', a1, a2, a3, a4⟩ := run_desc f p (m + 1) (by omega) hd' ha (by omega)
      exact ⟨m', a1, by omega, by omega, a4⟩
    · rw [if_neg hc]
      have hle : AtK key p (m - 1) ≤ AtK key p m := Int.not_lt.mp fun q => hc (decide_eq_true q)
      have hne : AtK key p (m - 1) ≠ AtK key p m := fun q => by have := ha.2 _ _ (by omega) (by omega) q; omega
      have h2 : lessK key (p.getD (m - 1) 0) (p.getD m 0) = true := decide_eq_true (by show AtK key p (m - 1) < AtK key p m; omega)
      show ∃ m', krun (lessK key) (if lessK key (p.getD (m - 1) 0) (p.getD m 0) = true then .ret (p, m, 0) else kas_desc f p (m + 1) (0 + 1)) = _ ∧ _
      rw [if_pos h2]
      exact ⟨m, rfl, Nat.le_refl _, by omega, hd⟩

theorem run_count {p : Array Nat} (h2 : 1 ≤ n) (ha : ApartK key n p) : ∃ m q, krun (lessK key) (kas_count n p) = (m, q) ∧ 1 ≤ m ∧ m ≤ n ∧ UpK key q m ∧ ApartK key n q ∧ q.Perm p := by
  unfold kas_count
  rw [krun_bind]
  have asc := run_asc (n - 1) p 1 (Nat.le_refl _) (fun i hi => absurd hi (by omega)) ha (by omega)
  generalize krun (lessK key) (kas_asc p (n - 1) 1) = m at asc
  obtain ⟨a1, a2, a3, a4⟩ := asc
  by_cases hm : m = n
  · rw [if_pos (by simpa using hm)]
    exact ⟨m, p, rfl, a1, by omega, a3, ha, Array.Perm.refl _⟩
  · rw [if_neg (by simpa using hm)]
    by_cases hm1 : m > 1
    · rw [if_pos hm1]
      have h0 : lessK key (p.getD 0 0) (p.getD (m - 1) 0) = true := decide_eq_true (a3.lt (by omega) (by omega))
      show ∃ m' q, krun (lessK key) (if lessK key (p.getD 0 0) (p.getD (m - 1) 0) = true then .ret (m, p) else _) = _ ∧ _
      rw [if_pos h0]
      exact ⟨m, p, rfl, a1, by omega, a3, ha, Array.Perm.refl _⟩
    · rw [if_neg hm1]
      have e1 : m = 1 := by omega
      subst e1
      have a5 := a4 (by omega)
      unfold kas_descPart
      rw [krun_bind]
      obtain ⟨m', b1, b2, b3, b4⟩ := run_desc (key := key) (n := n) (n - (1 + 1)) p (1 + 1) (by omega) (fun i hi => by
        have : i = 0 := by omega
        subst this; exact a5) ha (by omega)
      rw [b1]
      show ∃ m q, krun (lessK key) (if 0 > 0 then _ else kas_tail3 m' n p) = _ ∧ _
      rw [if_neg (Nat.lt_irrefl 0)]
      unfold kas_tail3
      rw [krun_bind]
      have hr : ApartK key n (kas_rev p 0 m') := ha.rev (by omega)
      have hu : UpK key (kas_rev p 0 m') m' := fun i hi => by
        rw [at_rev (by rw [ha.1]; omega), at_rev (by rw [ha.1]; omega), if_pos (by omega), if_pos hi]
        exact b4.lt (by omega) (by omega)
      have c := run_asc (n - m') _ m' (by omega) hu hr (by omega)
      exact ⟨_, _, rfl, by omega, by omega, c.2.2.1, hr, mirror_perm ..⟩

theorem run_place {p : Array Nat} {k : Nat} (hk : k < n) (hu : UpK key p k) (ha : ApartK key n p) : ∀ (f l r : Nat), l ≤ r → r ≤ k → r - l ≤ f → (∀ i, i < l → AtK key p i < AtK key p k) → (∀ i, r ≤ i → i < k → AtK key p k < AtK key p i) →
    krun (lessK key) (kas_place p k f l r) ≤ k ∧ (∀ i, i < krun (lessK key) (kas_place p k f l r) → AtK key p i < AtK key p k) ∧ ∀ i, krun (lessK key) (kas_place p k f l r) ≤ i → i < k → AtK key p k < AtK key p i
  | 0, l, r, h1, h2, h3, h4, h5 => by
    show l ≤ k ∧ (∀ i, i < l → _) ∧ ∀ i, l ≤ i → _
    exact ⟨by omega, h4, fun i a b => h5 i (by omega) b⟩
  | f + 1, l, r, h1, h2, h3, h4, h5 => by
    have e : kas_place p k (f + 1) l r = if l ≥ r then .ret l else .ask (p.getD k 0) (p.getD ((l + r) / 2) 0) fun c => if c = true then kas_place p k f l ((l + r) / 2) else kas_place p k f ((l + r) / 2 + 1) r := rfl
    rw [e]
    by_cases hlr : l ≥ r
    · rw [if_pos hlr]
      show l ≤ k ∧ (∀ i, i < l → _) ∧ ∀ i, l ≤ i → _
      exact ⟨by omega, h4, fun i a b => h5 i (by omega) b⟩
    · rw [if_neg hlr]
      show krun (lessK key) (if lessK key (p.getD k 0) (p.getD ((l + r) / 2) 0) = true then kas_place p k f l ((l + r) / 2) else kas_place p k f ((l + r) / 2 + 1) r) ≤ k ∧ (∀ i, i < krun (lessK key) (if lessK key (p.getD k 0) (p.getD ((l + r) / 2) 0) = true then kas_place p k f l ((l + r) / 2) else kas_place p k f ((l + r) / 2 + 1) r) → _) ∧
        ∀ i, krun (lessK key) (if lessK key (p.getD k 0) (p.getD ((l + r) / 2) 0) = true then kas_place p k f l ((l + r) / 2) else kas_place p k f ((l + r) / 2 + 1) r) ≤ i → _
      by_cases hc : lessK key (p.getD k 0) (p.getD ((l + r) / 2) 0) = true
      · rw [if_pos hc]
        have hlt : AtK key p k < AtK key p ((l + r) / 2) := of_decide_eq_true hc
        refine run_place hk hu ha f l _ (by omega) (by omega) (by omega) h4 fun i a b => ?_
        rcases Nat.lt_or_ge ((l + r) / 2) i with h | h
        · exact Int.lt_trans hlt (hu.lt h b)
        · have : i = (l + r) / 2 := by omega
          subst this; exact hlt
      · rw [if_neg hc]
        have hle : AtK key p ((l + r) / 2) ≤ AtK key p k := Int.not_lt.mp fun q => hc (decide_eq_true q)
        have hne : AtK key p ((l + r) / 2) ≠ AtK key p k := fun q => by have := ha.2 _ _ (by omega) (by omega) q; omega
        refine run_place hk hu ha f _ r (by omega) (by omega) (by omega) (fun i a => ?_) h5
        rcases Nat.lt_or_ge i ((l + r) / 2) with h | h
        · exact Int.lt_trans (hu.lt h (by omega)) (by omega)
        · have : i = (l + r) / 2 := by omega
          subst this; omega

theorem at_bubble {p : Array Nat} {k d : Nat} (hk : k < p.size) (hd : d ≤ k) (i : Nat) : AtK key (bubble p k d) i = if i = k - d then AtK key p k else if k - d < i ∧ i ≤ k then AtK key p (i - 1) else AtK key p i := by
  have e := getElem?_bubble hk d hd i
  by_cases h1 : i = k - d
  · rw [if_pos h1] at e ⊢; exact atK_get e
  · rw [if_neg h1] at e ⊢
    by_cases h2 : k - d < i ∧ i ≤ k
    · rw [if_pos h2] at e ⊢; exact atK_get e
    · rw [if_neg h2] at e ⊢; exact atK_get e
theorem ApartK.bubble {p : Array Nat} {k d : Nat} (h : ApartK key n p) (hk : k < n) (hd : d ≤ k) : ApartK key n (bubble p k d) :=
  h.perm (bubble_size ..) (fun i => if i = k - d then k else if k - d < i ∧ i ≤ k then i - 1 else i) (fun i hi => by show (if i = k - d then k else if k - d < i ∧ i ≤ k then i - 1 else i) < n; split <;> (try split) <;> omega)
    (fun i j _ _ e => by
      have e' : (if i = k - d then k else if k - d < i ∧ i ≤ k then i - 1 else i) = if j = k - d then k else if k - d < j ∧ j ≤ k then j - 1 else j := e
      repeat' split at e'
      all_goals omega)
    (fun i _ => by rw [at_bubble (by rw [h.1]; exact hk) hd]; repeat' split
                   all_goals rfl)

theorem run_bin : ∀ (f : Nat) (p : Array Nat) (k : Nat), UpK key p k → ApartK key n p → k + f = n →
    UpK key (krun (lessK key) (kas_bin f p k)) n ∧ ApartK key n (krun (lessK key) (kas_bin f p k)) ∧ (krun (lessK key) (kas_bin f p k)).Perm p
  | 0, p, k, hu, ha, hn => by
    have e : k = n := by omega
    subst e
    exact ⟨hu, ha, Array.Perm.refl _⟩
  | f + 1, p, k, hu, ha, hn => by
    have e : kas_bin (f + 1) p k = (kas_place p k k 0 k).bind fun l => kas_bin f (bubble p k (k - l)) (k + 1) := rfl
    rw [e, krun_bind]
    obtain ⟨b1, b2, b3⟩ := run_place (key := key) (by omega : k < n) hu ha k 0 k (Nat.zero_le _) (Nat.le_refl _) (by omega) (fun i h => absurd h (Nat.not_lt_zero _)) fun i a b => absurd a (by omega)
    generalize krun (lessK key) (kas_place p k k 0 k) = l at b1 b2 b3
    have hu' : UpK key (bubble p k (k - l)) (k + 1) := fun i hi => by
      rw [at_bubble (by rw [ha.1]; omega) (by omega), at_bubble (by rw [ha.1]; omega) (by omega), show k - (k - l) = l by omega]
      by_cases h1 : i = l
      · rw [if_pos h1, if_neg (by omega), if_pos (by omega)]
        exact b3 _ (by omega) (by omega)
      · rw [if_neg h1]
        by_cases h2 : l < i
        · rw [if_pos (by omega), if_neg (by omega), if_pos (by omega)]
          have := hu (i - 1) (by omega)
          rw [show i - 1 + 1 = i by omega] at this
          rw [show i + 1 - 1 = i by omega]
          exact this
        · rw [if_neg (by omega)]
          by_cases h3 : i + 1 = l
          · rw [if_pos h3]; exact b2 i (by omega)
          · rw [if_neg h3, if_neg (by omega)]; exact hu i (by omega)
    obtain ⟨c1, c2, c3⟩ := run_bin f _ (k + 1) hu' (ha.bubble (by omega) (by omega)) (by omega)
    exact ⟨c1, c2, c3.trans (bubble_perm ..)⟩

theorem run_sort (hn : 1 ≤ n) (hk : ∀ i j, i < n → j < n → key i = key j → i = j) : UpK key (krun (lessK key) (kas_sort n)) n ∧ (krun (lessK key) (kas_sort n)).Perm (List.toArray (List.range n)) := by
  have ha : ApartK key n (List.toArray (List.range n)) := ⟨by simp, fun i j hi hj e => hk i j hi hj (by
    have g : ∀ i, i < n → AtK key (List.toArray (List.range n)) i = key i := fun i hi => by unfold AtK; rw [Array.getD_eq_getD_getElem?]; simp [hi]
    rw [g i hi, g j hj] at e; exact e)⟩
  unfold kas_sort
  rw [krun_bind]
  obtain ⟨m, q, a1, a2, a3, a4, a5, a6⟩ := run_count (key := key) hn ha
  rw [a1]
  show UpK key (krun (lessK key) (if m < n then kas_bin (n - max m 1) q (max m 1) else .ret q)) n ∧ (krun (lessK key) (if m < n then kas_bin (n - max m 1) q (max m 1) else .ret q)).Perm _
  have e : max m 1 = m := by omega
  rw [e]
  by_cases hm : m < n
  · rw [if_pos hm]
    obtain ⟨c1, c2, c3⟩ := run_bin (key := key) (n - m) q m a4 a5 (by omega)
    exact ⟨c1, c3.trans a6⟩
  · rw [if_neg hm]
    have : m = n := by omega
    subst this
    exact ⟨a4, a6⟩
end
end Mine
end
section -- Y1
open PySem PySem.W PySem.Calls PyProof.Rows
namespace Mine
section
variable {w : World} {g : Heap} {L : Addr} {m : List (Str × Value)} {F : List (Addr × List (Str × Value))} {C : Led} {G : Array GenState} {O : OsState} {s : Shared} {A : Around} {E Q : Value → Shared → Prop}
/-- sorted(v), when what v holds has been gathered: the shell -/
theorem r_sortedShell {v : Value} (hc : wpAny (model PR w) A.in1 (collect v) (fun vs s1 => vs.length < 64 ∧ St w g L m F C G O s1 ∧ ∀ D s2, C D = none → s2.heap.get? D = some (seqObj "list" vs.toArray 0) → St w g L m F (upd C D (.lst vs)) G O s2 →
      wpAny (model PR w) A.in1.in1 (Builtin.«list.sort» ⟨[.ref D], []⟩) (fun r s3 => r = .done (.ret .none) ∧ Q (.ref D) s3) (fun _ _ => False) s2) E s) : wpAny (model PR w) A (call (.builtin "sorted") [v]) Q E s := by
  refine Calls.call_function_entry kind_sorted plain_sorted entry_sorted (args_sorted1 _) ?_
  unfold Builtin.«sorted»
  refine wpAny_bind (m := checkCount "sorted" 1 1 _) (wpAny_pure ?_)
  refine wpAny_bind (wpAny_mono hc (fun vs s1 hx => ?_) fun _ _ e => e)
  obtain ⟨h64, S1, k⟩ := hx
  refine wpAny_bind (wpAny_newList ?_ (by rw [sizeLine_eq]; omega))
  have ho : (s1.heap.push (seqObj "list" vs.toArray 0)).get? s1.heap.objs.size = some (seqObj "list" vs.toArray 0) := Heap.get?_push_size _ rfl
  refine wpAny_bind (wpAny_holding (wpAny_call_entry slot_list_sort ⟨_, ho, rfl⟩ entry_list_sort (wpAny_mono (k s1.heap.objs.size { s1 with heap := s1.heap.push (seqObj "list" vs.toArray 0) } S1.free ho (S1.push (o := seqObj "list" vs.toArray 0) (t := s1.toks) ⟨_, ho, rfl, 0, rfl⟩)) (fun r s3 hr => ?_) fun _ _ e => e.elim) (args_list_sort _)))
  obtain ⟨rfl, hq⟩ := hr
  exact ⟨_, rfl, wpAny_pure ⟨_, rfl, hq⟩⟩
/-- .. of ints -/
theorem r_sortedI {v : Value} {ns : List Int} (h64 : ns.length < 64) (hc : wpAny (model PR w) A.in1 (collect v) (fun vs s1 => IntsAre vs ns ∧ St w g L m F C G O s1) E s)
    (h : ∀ D vs' ns' s', C D = none → St w g L m F (upd C D (.lst vs')) G O s' → IntsAre vs' ns' → ns'.Perm ns → ns'.Pairwise (· ≤ ·) → Q (.ref D) s') : wpAny (model PR w) A (call (.builtin "sorted") [v]) Q E s := by
  refine r_sortedShell (g := g) (L := L) (m := m) (F := F) (C := C) (G := G) (O := O) (wpAny_mono hc (fun vs s1 hx => ?_) fun _ _ e => e)
  obtain ⟨hi, S1⟩ := hx
  have hl := IntsAre.length hi
  refine ⟨by omega, S1, fun D s2 hD ho S2 => ?_⟩
  refine list_sort_tree ho hi (by omega) fun out ns' a1 a2 a3 => ⟨rfl, ?_⟩
  obtain ⟨e, he⟩ := sortedHeap_at (out := out) ho
  have S3 := S2.putX (a := D) (c := .lst out.toList) (s' := { s2 with heap := sortedHeap s2.heap D vs out }) (upd_same ..) (fun b o hb q => by
    show (sortedHeap s2.heap D vs out).get? b = some o
    rw [sortedHeap_old hb (Heap.lt_size q)]; exact q) ⟨_, he, rfl, e, by simp⟩ S2.gens S2.os
  have e2 : upd (upd C D (.lst vs)) D (.lst out.toList) = upd C D (.lst out.toList) := by
    funext b
    unfold upd
    by_cases hb : b = D
    · rw [if_pos hb, if_pos hb]
    · rw [if_neg hb, if_neg hb, if_neg hb]
  rw [e2] at S3
  exact h D out.toList ns' _ hD S3 a1 a2 a3
theorem upd_twice (C : Led) (D : Addr) (c c' : Cell) : upd (upd C D c) D c' = upd C D c' := by
  funext b
  unfold upd
  by_cases hb : b = D
  · rw [if_pos hb, if_pos hb]
  · rw [if_neg hb, if_neg hb, if_neg hb]
/-- .. of things with a key of their own, all keys apart -/
theorem r_sortedK {v : Value} {xs : List Value} (key : Value → Int) (T : String) (hT1 : (Value.type T != Value.type "tuple") = true) (h64 : xs.length < 64) (hap : ∀ i j, i < xs.length → j < xs.length → key (xs.getD i .none) = key (xs.getD j .none) → i = j)
    (hty : ∀ C' s', St w g L m F C' G O s' → Ext C C' → ∀ x ∈ xs, ∃ a, x = .ref a ∧ s'.TypeIs x T)
    (hlt : ∀ C' s', St w g L m F C' G O s' → Ext C C' → ∀ x ∈ xs, ∀ y ∈ xs, ∀ (Q' : Bool → Shared → Prop), Q' (decide (key x < key y)) s' → wpAny (model PR w) A.in1.in1 (keyLt' oneType' x y) Q' (fun _ _ => False) s')
    (hc : wpAny (model PR w) A.in1 (collect v) (fun vs s1 => vs = xs ∧ St w g L m F C G O s1) E s)
    (h : ∀ D vs' s', C D = none → St w g L m F (upd C D (.lst vs')) G O s' → vs'.Perm xs → vs'.Pairwise (fun a b => key a < key b) → Q (.ref D) s') : wpAny (model PR w) A (call (.builtin "sorted") [v]) Q E s := by
  refine r_sortedShell (g := g) (L := L) (m := m) (F := F) (C := C) (G := G) (O := O) (wpAny_mono hc (fun vs s1 hx => ?_) fun _ _ e => e)
  obtain ⟨rfl, S1⟩ := hx
  refine ⟨h64, S1, fun D s2 hD ho S2 => ?_⟩
  obtain ⟨m₀, F2, hm⟩ := S2.pack
  have hDc := S2.off D _ (upd_same ..)
  have hexp : Ext C (upd C D (.lst [])) := Ext.upd hD
  by_cases h2 : vs.length < 2
  · have hD' : D < s2.heap.objs.size := Heap.lt_size ho
    obtain ⟨e1, ho1⟩ : ∃ e1, (s2.heap.update D (Obj.mapSeq fun _ => (#[] : Array Value))).get? D = some (seqObj "list" #[] e1) := ⟨_, get?_update_seq ho fun _ => #[]⟩
    have hz : vs.toArray.size = vs.length := List.size_toArray ..
    have ho6 : (((s2.heap.update D (Obj.mapSeq fun _ => (#[] : Array Value))).push (seqObj "tuple" vs.toArray 0)).push (seqObj "list" #[] 0)).get? D = some (seqObj "list" #[] e1) := Heap.get?_push_of_some _ (Heap.get?_push_of_some _ ho1)
    rw [list_sort_plain]
    refine wpAny_bind (listItems_at ho rfl ?_)
    refine wpAny_bind (listUpdate_at ho rfl ?_ (by rw [hz, sizeLine_eq]; omega) (Nat.zero_le _))
    refine wpAny_bind (seqEpoch_at ho1 rfl ?_)
    refine wpAny_bind (wpAny_newTuple ?_ (by show vs.length ≤ _; rw [sizeLine_eq]; omega))
    refine wpAny_bind (wpAny_newList ?_ (Nat.zero_le _))
    refine wpAny_holding ?_
    show wpAny _ _ _ _ _ { s2 with heap := ((s2.heap.update D (Obj.mapSeq fun _ => (#[] : Array Value))).push (seqObj "tuple" vs.toArray 0)).push (seqObj "list" #[] 0) }
    dsimp only
    rw [if_pos (by rw [hz]; exact h2), if_pos (by rw [hz]; exact h2)]
    refine wpAny_bind (wpAny_pure ?_)
    rw [StateT.run_pure]
    refine wpAny_bind (wpAny_pure ?_)
    dsimp only
    have hout : (arrOf (SortSt.mk' general' (vs.toArray.zip vs.toArray) #[] 7 none)).map (·.2) = vs.toArray := by
      apply Array.toList_inj.mp
      show ((vs.toArray.zip vs.toArray).map (·.2)).toList = vs
      rw [Array.toList_map, Array.toList_zip]
      exact List.map_snd_zip (Nat.le_refl _)
    rw [hout]
    refine wpAny_bind (seqEpoch_at ho6 rfl ?_)
    refine wpAny_bind (listUpdate_at ho6 rfl ?_ (Nat.zero_le _) (by rw [hz, sizeLine_eq]; omega))
    simp only [bne_self_eq_false, Bool.false_eq_true, if_false]
    refine wpAny_pure ⟨rfl, ?_⟩
    obtain ⟨c2, hc2⟩ : ∃ c2, ((((s2.heap.update D (Obj.mapSeq fun _ => (#[] : Array Value))).push (seqObj "tuple" vs.toArray 0)).push (seqObj "list" #[] 0)).update D (Obj.mapSeq fun _ => vs.toArray)).get? D = some (seqObj "list" vs.toArray c2) := ⟨_, get?_update_seq ho6 fun _ => vs.toArray⟩
    have S3 := S2.putX (a := D) (c := .lst vs) (s' := { s2 with heap := (((s2.heap.update D (Obj.mapSeq fun _ => (#[] : Array Value))).push (seqObj "tuple" vs.toArray 0)).push (seqObj "list" #[] 0)).update D (Obj.mapSeq fun _ => vs.toArray) }) (upd_same ..) (fun b o hb q => by
      show ((((s2.heap.update D (Obj.mapSeq fun _ => (#[] : Array Value))).push (seqObj "tuple" vs.toArray 0)).push (seqObj "list" #[] 0)).update D (Obj.mapSeq fun _ => vs.toArray)).get? b = some o
      rw [Heap.get?_update_ne _ _ _ _ hb]
      exact Heap.get?_push_of_some _ (Heap.get?_push_of_some _ (by rw [Heap.get?_update_ne _ _ _ _ hb]; exact q))) ⟨_, hc2, rfl, c2, rfl⟩ S2.gens S2.os
    rw [upd_twice] at S3
    refine h D vs _ hD S3 (List.Perm.refl _) ?_
    match vs, h2 with
    | [], _ => exact List.Pairwise.nil
    | [x], _ => exact List.pairwise_singleton _ _
  · have hN : News g L s2.heap ((allNews g s2.heap L).filter (fun p => decide (p.1 ≠ D))) := fun p hp => allNews_ok p (List.mem_filter.mp hp).1
    have back : ∀ (h' : Heap) (vs' : List Value) (c : Nat), Fr g L h' m₀ → News g L h' ((D, seqObj "list" vs'.toArray c) :: (allNews g s2.heap L).filter (fun p => decide (p.1 ≠ D))) → St w g L m F (upd C D (.lst vs')) G O { s2 with heap := h' } := fun h' vs' c F' N' => by
      have S3 := S2.putN (a := D) (c := .lst vs') (s' := { s2 with heap := h' }) (upd_same ..) ⟨m₀, F'.ns, hm⟩ (fun b o hb hL q => by
        cases hg : g.get? b with
        | some o' =>
          have e1 := S2.keep b o' hg
          rw [q] at e1; cases e1
          exact F'.keep b o hg
        | none => exact (N' (b, o) (.tail _ (List.mem_filter.mpr ⟨mem_allNews.mpr ⟨hL, hg, q⟩, by simpa using hb⟩))).1) ⟨_, (N' _ (.head _)).1, rfl, c, rfl⟩ S2.gens S2.os
      rw [upd_twice] at S3
      exact S3
    refine kas_list_sort (m := m₀) (T := .type T) (news := (allNews g s2.heap L).filter (fun p => decide (p.1 ≠ D))) F2 hN ho hDc.1.1 hDc.2.1 (fun p hp => by simpa using (List.mem_filter.mp hp).2) (by omega) h64 ?_ ?_ ?_ ?_
    · intro e1 h' F' N' x hx
      have S3 := back h' [] e1 F' N'
      obtain ⟨a, rfl, o, ho, hcl⟩ := hty _ _ S3 hexp x hx
      exact fun A' Q' E' s' k q => wpAny_typeOf (T := T) ⟨o, k _ _ ho, hcl⟩ q
    · exact hT1
    · exact beq_self_eq_true _
    · intro e1 h' F' N'
      have S3 := back h' [] e1 F' N'
      refine kasWp_run (n := vs.length) (f := lessK fun i => key (vs.getD i .none)) (P := fun q => AllIn vs.length q) (fun i j Cc hi hj hcc => ?_) _ (post_sort (by omega)) ?_
      · have gx : ∀ i, i < vs.length → vs.getD i .none ∈ vs := fun i hi => by
          rw [List.getD_eq_getElem?_getD, List.getElem?_eq_getElem hi]; exact List.getElem_mem hi
        exact hlt _ _ S3 hexp _ (gx i hi) _ (gx j hj) Cc hcc
      · obtain ⟨u1, u2⟩ := run_sort (key := fun i => key (vs.getD i .none)) (n := vs.length) (by omega) hap
        generalize krun (lessK fun i => key (vs.getD i .none)) (kas_sort vs.length) = q at u1 u2
        refine KasFin.intro (F := F') (N := N') (U := .head (fun p hp => by simpa using (List.mem_filter.mp hp).2)) fun h3 c F3 N3 => ⟨rfl, ?_⟩
        have S4 := back h3 _ c F3 N3
        have hq : q.size = vs.length := by rw [u2.size_eq]; simp
        refine h D _ _ hD S4 ?_ ?_
        · have e1 : (List.range vs.length).map (fun i => vs.getD i Value.none) = vs := by
            apply List.ext_getElem?
            intro i
            rw [List.getElem?_map]
            rcases Nat.lt_or_ge i vs.length with hi | hi
            · rw [List.getElem?_range hi]
              show some (vs.getD i Value.none) = _
              rw [List.getD_eq_getElem?_getD, List.getElem?_eq_getElem hi]; rfl
            · rw [List.getElem?_eq_none (by simpa using hi), List.getElem?_eq_none hi]; rfl
          have e2 := (Array.perm_iff_toList_perm.mp u2).map fun i => vs.getD i Value.none
          rw [e1] at e2
          exact e2
        · rw [List.pairwise_iff_getElem]
          intro i j hi hj hij
          have hi' : i < q.size := by simpa using hi
          have hj' : j < q.size := by simpa using hj
          have hl := u1.lt hij (by omega)
          unfold AtK at hl
          simpa [Array.getD, hi', hj'] using hl
end
end Mine
end
section -- Y2
open PySem PySem.W PySem.Calls PyProof.Rows
namespace Mine
section
variable {w : World} {g : Heap} {L : Addr} {m : List (Str × Value)} {F : List (Addr × List (Str × Value))} {C : Led} {G : Array GenState} {O : OsState} {s : Shared} {A : Around} {E : Value → Shared → Prop} {env : Env}
/-- a list written by a comprehension, behind its iterator: J tells the list so far -/
theorem r_compD {elt target iter : PySem.Expr} {ifs : List PySem.Expr} {scope : Scope} {cl : List (Str × Addr)} {pos : Pos} {it : Addr} {n : Nat} {KP : Led → Led → Prop} {GR : Array GenState → Array GenState → Prop} {I : Nat → Led → Array GenState → Prop} {P : Nat → Value → Led → Prop} {Q : Value → Shared → Prop} {use : Option (Value → Sem Unit)}
    (W : IterAt w A g O target it n KP GR I P) (J : Addr → Nat → Led → Array GenState → List Value → Prop) (hb : BlkOk scope env cl) (hn : n ≤ 1000)
    (S : St w g L m F C G O s) (hI : ∀ D, C D = none → I 0 (upd C D (.lst [])) G) (hJ : ∀ D, C D = none → J D 0 (upd C D (.lst [])) G [])
    (hK : ∀ D i C C' G ys, J D i C G ys → C D = some (.lst ys) → KP C C' → C' D = some (.lst ys))
    (step : ∀ D Lc i mc C G C' G' v s E' ys, i < n → C D = some (.lst ys) → I i C G → J D i C G ys → KP C C' → GR G G' → I (i + 1) C' G' → P i v C' → C' D = some (.lst ys) → St w g Lc mc ((L, m) :: F) C' G' O s →
      wpAny (model PR w) A (assign target (compEnvC scope cl Lc env) v) (fun _ s₂ =>
        wpAny (model PR w) A (forIn ifs true fun c r => if r = true then do let ok ← isTrue c (compEnvC scope cl Lc env) (eval c (compEnvC scope cl Lc env)); pure (ForInStep.yield ok) else pure (ForInStep.yield r)) (fun ok s₃ =>
          if ok = true then wpAny (model PR w) A (eval elt (compEnvC scope cl Lc env)) (fun x s₄ => ∃ mc' C'' G'', St w g Lc mc' ((L, m) :: F) C'' G'' O s₄ ∧ C'' D = some (.lst ys) ∧ I (i + 1) (upd C'' D (.lst (ys ++ [x]))) G'' ∧ J D (i + 1) (upd C'' D (.lst (ys ++ [x]))) G'' (ys ++ [x])) E' s₃
          else ∃ mc' C'' G'', St w g Lc mc' ((L, m) :: F) C'' G'' O s₃ ∧ C'' D = some (.lst ys) ∧ I (i + 1) C'' G'' ∧ J D (i + 1) C'' G'' ys) E' s₂) E' s)
    (fin : ∀ D Lc mc C G C' G' s ys, I n C G → J D n C G ys → KP C C' → GR G G' → C' D = some (.lst ys) → St w g Lc mc ((L, m) :: F) C' G' O s → compPost (model PR w) A E use Q (.ref D) Lc (.ok .next) s) :
    wpAny (model PR w) A (newList []) (fun acc s₃ => wpAny (model PR w) A (newFunctionEnv scope env.globals cl [] env.qual none .none (some env)) (fun cenv s₄ =>
      codeAny (model PR w) A (.compStart (.ListComp elt [⟨target, iter, ifs, 0⟩] scope pos) 0 (.ref it) acc { cenv with scope := relabel scope env }) (compPost (model PR w) A E use Q acc cenv.locals) s₄) E s₃) E s := by
  obtain ⟨hclos, hkind, hcell, hnames⟩ := hb
  refine wpAny_newObj_type (wpAny_newFunctionEnv hcell (by intro y hy; simp at hy) (fun h₁ hns₁ hsb₁ => ?_) hkind)
  have S0 : St w g L m F (upd C s.heap.objs.size (.lst [])) G O { s with heap := s.heap.push { cls := .type "list", data := .seq ([] : List Value).toArray } } := S.new (Nat.le_refl _) (fun _ _ e => Heap.get?_push_of_some _ e) ⟨_, Heap.get?_push_size _ rfl, rfl, 0, rfl⟩ S.gens S.os
  have S1 : ∀ tk, St w g (s.heap.push { cls := .type "list", data := .seq ([] : List Value).toArray }).objs.size [] ((L, m) :: F) (upd C s.heap.objs.size (.lst [])) G O { s with heap := h₁, toks := tk } := fun tk =>
    S0.into (Nat.le_refl _) (fun b o e => hsb₁.extBut b o (Nat.ne_of_lt (Heap.lt_size e)) (Heap.get?_push_of_some _ e)) ⟨_, hns₁, fun _ _ e => by cases e⟩ S.gens S.os
  have I1 := hI _ S.free
  have J1 := hJ _ S.free
  have D1 : upd C s.heap.objs.size (.lst []) s.heap.objs.size = some (.lst []) := upd_same ..
  generalize hC1 : upd C s.heap.objs.size (.lst []) = C1 at S1 I1 J1 D1
  have hX : sizeLine = sizeLine := rfl
  have loop : ∀ s₃ : Shared, St w g (s.heap.push { cls := .type "list", data := .seq ([] : List Value).toArray }).objs.size [] ((L, m) :: F) C1 G O s₃ →
      codeAny (model PR w) A (.compLoop (.ListComp elt [⟨target, iter, ifs, 0⟩] scope pos) 0 (.ref it) (.ref s.heap.objs.size) (compEnvC scope cl (s.heap.push { cls := .type "list", data := .seq ([] : List Value).toArray }).objs.size env))
        (compPost (model PR w) A E use Q (.ref s.heap.objs.size) (s.heap.push { cls := .type "list", data := .seq ([] : List Value).toArray }).objs.size) s₃ := by
    generalize (s.heap.push { cls := .type "list", data := .seq ([] : List Value).toArray }).objs.size = Lc
    generalize s.heap.objs.size = D at D1 J1
    intro s₃ S3
    refine codeAny_loop rfl (fun k s' => ∃ i mc C G ys, k = n + 1 - i ∧ i ≤ n ∧ ys.length ≤ i ∧ St w g Lc mc ((L, m) :: F) C G O s' ∧ I i C G ∧ J D i C G ys ∧ C D = some (.lst ys)) (fun k s' hk => ?_) (n + 1) ⟨0, [], C1, G, [], rfl, Nat.zero_le _, Nat.le_refl _, S3, I1, J1, D1⟩
    obtain ⟨i, mc, C2, G2, ys, rfl, hi, hy, S2, I2, J2, D2⟩ := hk
    show wpAny _ A ((compTurn (.ListComp elt [⟨target, iter, ifs, 0⟩] scope pos) 0 (.ref it) (.ref D) (compEnvC scope cl Lc env)).onRaise (fun x => do noteFrame x (compEnvC scope cl Lc env); theTreesLotGoes x)) _ _ s'
    refine wpAny_noted ?_
    rw [compTurn_list]
    refine wpAny_bind (wpAny_standAt (wpAny_bind ?_))
    by_cases hin : i = n
    · subst hin
      refine W.done S2 I2 fun C' G' s'' S' K' B' => wpAny_pure ?_
      exact fin D Lc mc C2 G2 C' G' _ ys I2 J2 K' B' (hK _ _ _ _ _ _ J2 D2 K') S'
    · have hlt : i < n := Nat.lt_of_le_of_ne hi hin
      have turn := W.next (E := notedBy (model PR w) A (compEnvC scope cl Lc env) fun e s' => compPost (model PR w) A E use Q (.ref D) Lc (.error e) s') (Q := fun r s₁ => match r with
        | none => False
        | some v => wpAny (model PR w) A (assign target (compEnvC scope cl Lc env) v) (fun _ s₂ =>
          wpAny (model PR w) A (forIn ifs true fun c r => if r = true then do let ok ← isTrue c (compEnvC scope cl Lc env) (eval c (compEnvC scope cl Lc env)); pure (ForInStep.yield ok) else pure (ForInStep.yield r)) (fun ok s₃ =>
            if ok = true then wpAny (model PR w) A (eval elt (compEnvC scope cl Lc env)) (fun x s₄ =>
              wpAny (model PR w) A (call (.builtin "list.append") [.ref D, x]) (fun _ s₅ => ∃ k', k' < n + 1 - i ∧ ∃ i mc C G ys, k' = n + 1 - i ∧ i ≤ n ∧ ys.length ≤ i ∧ St w g Lc mc ((L, m) :: F) C G O s₅ ∧ I i C G ∧ J D i C G ys ∧ C D = some (.lst ys)) (notedBy (model PR w) A (compEnvC scope cl Lc env) fun e s' => compPost (model PR w) A E use Q (.ref D) Lc (.error e) s') s₄) (notedBy (model PR w) A (compEnvC scope cl Lc env) fun e s' => compPost (model PR w) A E use Q (.ref D) Lc (.error e) s') s₃
            else ∃ k', k' < n + 1 - i ∧ ∃ i mc C G ys, k' = n + 1 - i ∧ i ≤ n ∧ ys.length ≤ i ∧ St w g Lc mc ((L, m) :: F) C G O s₃ ∧ I i C G ∧ J D i C G ys ∧ C D = some (.lst ys)) (notedBy (model PR w) A (compEnvC scope cl Lc env) fun e s' => compPost (model PR w) A E use Q (.ref D) Lc (.error e) s') s₂)
            (notedBy (model PR w) A (compEnvC scope cl Lc env) fun e s' => compPost (model PR w) A E use Q (.ref D) Lc (.error e) s') s₁) S2 I2 hlt
        fun v C' G' s₁ S' K' B' hI' hP => by
          refine wpAny_mono (step D Lc i mc C2 G2 C' G' v s₁ _ ys hlt D2 I2 J2 K' B' hI' hP (hK _ _ _ _ _ _ J2 D2 K') S') (fun _ s₂ h₂ => wpAny_mono h₂ (fun ok s₃ h₃ => ?_) fun _ _ e => e) fun _ _ e => e
          cases ok with
          | false =>
            rw [if_neg Bool.false_ne_true] at h₃ ⊢
            obtain ⟨mc', C'', G'', k1, k2, k3, k4⟩ := h₃
            exact ⟨n + 1 - (i + 1), by omega, i + 1, mc', C'', G'', ys, rfl, hlt, by omega, k1, k3, k4, k2⟩
          | true =>
            rw [if_pos rfl] at h₃ ⊢
            refine wpAny_mono h₃ (fun x s₄ h₄ => ?_) fun _ _ e => e
            obtain ⟨mc', C'', G'', k1, k2, k3, k4⟩ := h₄
            refine r_append k1 k2 (by omega) fun s₅ S5 => ?_
            exact ⟨n + 1 - (i + 1), by omega, i + 1, mc', _, G'', ys ++ [x], rfl, hlt, by simp; omega, S5, k3, k4, upd_same ..⟩
      refine wpAny_mono turn (fun r s₁ h₁ => ?_) fun _ _ e => e
      cases r with
      | none => exact h₁.elim
      | some v =>
        refine wpAny_bind (wpAny_mono h₁ (fun _ s₂ h₂ => wpAny_bind (wpAny_mono h₂ (fun _ s₃ h₃ => wpAny_bind (wpAny_mono h₃ (fun ok s₄ h₄ => ?_) fun _ _ e => e)) fun _ _ e => e)) fun _ _ e => e)
        cases ok with
        | false => exact wpAny_pure ⟨rfl, h₄⟩
        | true => exact wpAny_bind (wpAny_bind (wpAny_mono h₄ (fun x s₅ h₅ => wpAny_bind (wpAny_mono h₅ (fun _ s₆ h₆ => wpAny_pure (wpAny_pure ⟨rfl, h₆⟩)) fun _ _ h' => h')) fun _ _ h' => h'))
  exact codeAny_compStart_list (loop _ (S1 _)) (W.self (S1 _) I1 (loop _ (S1 _)))
theorem St.swap {L' : Addr} {m' : List (Str × Value)} {C₀ : Led} {G₀ : Array GenState} {m₀ : List (Str × Value)} {s₀ : Shared} (S₀ : St w g L' m₀ F C₀ G₀ O s₀) (S : St w g L m ((L', m') :: F) C G O s) : St w g L' m' ((L, m) :: F) C G O s := by
  have hp := S.frs (L', m') (.head _)
  refine ⟨hp.1, S.keep, hp.2.2.1, fun p hm => ?_, S.sat, fun a c e => ?_, hp.2.2.2, S.gens, S.os, S.ab.2 _ (.head _), fun p hm => ?_⟩
  · rcases List.mem_cons.mp hm with rfl | hm
    · exact ⟨S.ns, fun q => hp.2.1 q.symm, S.nl, S.hi⟩
    · have q := S.frs p (.tail _ hm)
      exact ⟨q.1, (S₀.frs p hm).2.1, q.2.2⟩
  · have q := S.off a c e
    refine ⟨⟨q.1.2 (L', m') (.head _), fun p hm => ?_⟩, q.2⟩
    rcases List.mem_cons.mp hm with rfl | hm
    · exact q.1.1
    · exact q.1.2 p (.tail _ hm)
  · rcases List.mem_cons.mp hm with rfl | hm
    · exact S.ab.1
    · exact S.ab.2 p (.tail _ hm)
theorem St.dropX {L' : Addr} {m' : List (Str × Value)} {s' : Shared} (S : St w g L m ((L', m') :: F) C G O s) (hs : Heap.SameBut L' s.heap s'.heap) (hF : ∀ p ∈ F, p.1 ≠ L') (hg : s'.gens = G) (ho : s'.os = O) : St w g L m F C G O s' := by
  have hp := S.frs (L', m') (.head _)
  have mv : ∀ b o, b ≠ L' → s.heap.get? b = some o → s'.heap.get? b = some o := fun b o hb e => (hs.2 b hb).trans e
  refine ⟨S.ns.move fun o q => mv L o (Ne.symm hp.2.1) q, fun b o e => mv b o (fun q => ?_) (S.keep b o e), S.nl, fun p hm => ⟨(S.frs p (.tail _ hm)).1.move fun o q => mv p.1 o (hF p hm) q, (S.frs p (.tail _ hm)).2⟩, fun a c e => (S.sat a c e).move fun o q => mv a o ((S.off a c e).1.2 (L', m') (.head _)) q,
    fun a c e => ⟨⟨(S.off a c e).1.1, fun p hm => (S.off a c e).1.2 p (.tail _ hm)⟩, (S.off a c e).2⟩, S.hi, hg, ho, S.ab.1, fun p hm => S.ab.2 p (.tail _ hm)⟩
  rw [q, hp.2.2.1] at e; cases e

/-- the ledger without the comprehension's own list and iterator -/
def hid (D it : Addr) (C : Led) : Led := fun b => if b = D ∨ b = it then none else C b
theorem hid_ne {D it b : Addr} {C : Led} (h1 : b ≠ D) (h2 : b ≠ it) : hid D it C b = C b := if_neg (by rintro (h | h); exact h1 h; exact h2 h)
theorem hid_ext {D it : Addr} {C : Led} : Ext (hid D it C) C := fun b c e => by
  unfold hid at e
  split at e
  · cases e
  · exact e
theorem hid_mono {D it : Addr} {C C' : Led} (h : ∀ b c, b ≠ D → b ≠ it → C b = some c → C' b = some c) : Ext (hid D it C) (hid D it C') := fun b c e => by
  unfold hid at e ⊢
  split at e
  · cases e
  · rename_i hn
    rw [if_neg hn]
    exact h b c (fun q => hn (.inl q)) (fun q => hn (.inr q)) e

/-- a list written by a comprehension over an iterator that stands anywhere; R tells the list so far by ledgers that only grow -/
theorem r_compG {elt target iter : PySem.Expr} {ifs : List PySem.Expr} {scope : Scope} {cl : List (Str × Addr)} {pos : Pos} {it : Addr} {n dd : Nat} {I : Nat → Led → Array GenState → Prop} {P : Nat → Value → Led → Prop} {Q : Value → Shared → Prop} {use : Option (Value → Sem Unit)} {Cb : Led} {c₀ : Cell}
    (W : IterOk w dd target it n (KeepsBut it) I P) (R : Nat → Led → List Value → Prop) (hb : BlkOk scope env cl) (hh : A.handled = none) (hd : A.depth + dd < recursionLimit) (hn : n ≤ 1000)
    (hit : Cb it = none) (S : St w g L m F (upd Cb it c₀) G O s) (hI0 : I 0 (upd Cb it c₀) G) (hIt : ∀ i C G, I i C G → ∃ c, C it = some c)
    (hIk : ∀ D i C C' G, D ≠ it → Cb D = none → I i C G → (∀ b c, b ≠ D → C b = some c → C' b = some c) → I i C' G)
    (hR0 : ∀ C, R 0 C []) (hRm : ∀ i C C' ys, R i C ys → Ext C C' → R i C' ys)
    (step : ∀ Lc i mc C' v s E' ys, i < n → Ext Cb C' → P i v C' → R i C' ys → St w g Lc mc ((L, m) :: F) C' G O s →
      wpAny (model PR w) A (assign target (compEnvC scope cl Lc env) v) (fun _ s₂ =>
        wpAny (model PR w) A (forIn ifs true fun c r => if r = true then do let ok ← isTrue c (compEnvC scope cl Lc env) (eval c (compEnvC scope cl Lc env)); pure (ForInStep.yield ok) else pure (ForInStep.yield r)) (fun ok s₃ =>
          if ok = true then wpAny (model PR w) A (eval elt (compEnvC scope cl Lc env)) (fun x s₄ => ∃ mc' C'', St w g Lc mc' ((L, m) :: F) C'' G O s₄ ∧ Ext C' C'' ∧ ∀ Cx, Ext Cb Cx → (∀ b c, C' b = none → C'' b = some c → Cx b = some c) → R i Cx ys → R (i + 1) Cx (ys ++ [x])) E' s₃
          else ∃ mc' C'', St w g Lc mc' ((L, m) :: F) C'' G O s₃ ∧ Ext C' C'' ∧ ∀ Cx, Ext Cb Cx → R i Cx ys → R (i + 1) Cx ys) E' s₂) E' s)
    (fin : ∀ D Lc mc C' s ys, Cb D = none → Ext Cb C' → R n C' ys → C' D = some (.lst ys) → St w g Lc mc ((L, m) :: F) C' G O s → compPost (model PR w) A E use Q (.ref D) Lc (.ok .next) s) :
    wpAny (model PR w) A (newList []) (fun acc s₃ => wpAny (model PR w) A (newFunctionEnv scope env.globals cl [] env.qual none .none (some env)) (fun cenv s₄ =>
      codeAny (model PR w) A (.compStart (.ListComp elt [⟨target, iter, ifs, 0⟩] scope pos) 0 (.ref it) acc { cenv with scope := relabel scope env }) (compPost (model PR w) A E use Q acc cenv.locals) s₄) E s₃) E s := by
  have hDb : ∀ D, upd Cb it c₀ D = none → D ≠ it ∧ Cb D = none := fun D e => by
    have hne : D ≠ it := by rintro rfl; rw [upd_same] at e; cases e
    rw [upd_ne hne] at e
    exact ⟨hne, e⟩
  have keepB : ∀ {C C'}, Ext Cb C → KeepsBut it C C' → Ext Cb C' := fun x k b c e => k b c (by rintro rfl; rw [hit] at e; cases e) (x b c e)
  refine r_compD (W.at hh hd) (fun D i C G' ys => G' = G ∧ Ext Cb C ∧ D ≠ it ∧ Cb D = none ∧ R i (hid D it C) ys) hb hn S ?_ ?_ ?_ ?_ ?_
  · intro D hD
    obtain ⟨h1, h2⟩ := hDb D hD
    exact hIk D 0 _ _ G h1 h2 hI0 fun b c hne e => by rw [upd_ne hne]; exact e
  · intro D hD
    obtain ⟨h1, h2⟩ := hDb D hD
    exact ⟨rfl, (Ext.upd hit).trans (Ext.upd hD), h1, h2, hR0 _⟩
  · intro D i C C' G ys hJ e k
    exact k D _ hJ.2.2.1 e
  · intro D Lc i mc C1 G1 C' G' v s1 E' ys hi hD hI hJ hK hG hI' hP hD' S1
    obtain ⟨rfl, x1, x2, x3, x4⟩ := hJ
    have hG : G' = G1 := hG
    subst hG
    have xb := keepB x1 hK
    obtain ⟨ci, hci⟩ := hIt _ _ _ hI'
    have r1 : R i (hid D it C') ys := hRm _ _ _ _ x4 (hid_mono fun b c _ hb e => hK b c hb e)
    have fit : ∀ C'', Ext C' C'' → Ext Cb (hid D it C'') := fun C'' e b c q => by
      rw [hid_ne (by rintro rfl; rw [x3] at q; cases q) (by rintro rfl; rw [hit] at q; cases q)]; exact e b c (xb b c q)
    refine wpAny_mono (step Lc i mc C' v s1 E' ys hi xb hP (hRm _ _ _ _ r1 hid_ext) S1) (fun _ s2 h2 => wpAny_mono h2 (fun ok s3 h3 => ?_) fun _ _ e => e) fun _ _ e => e
    cases ok with
    | false =>
      rw [if_neg Bool.false_ne_true] at h3 ⊢
      obtain ⟨mc', C'', k1, k2, k3⟩ := h3
      exact ⟨mc', C'', _, k1, k2 _ _ hD', hIk D _ _ _ _ x2 x3 hI' fun b c _ e => k2 b c e, rfl, xb.trans k2, x2, x3, k3 _ (fit _ k2) (hRm _ _ _ _ r1 (hid_mono fun b c _ _ e => k2 b c e))⟩
    | true =>
      rw [if_pos rfl] at h3 ⊢
      refine wpAny_mono h3 (fun x s4 h4 => ?_) fun _ _ e => e
      obtain ⟨mc', C'', k1, k2, k3⟩ := h4
      have eh : hid D it (upd C'' D (.lst (ys ++ [x]))) = hid D it C'' := by
        funext b
        unfold hid
        by_cases hb : b = D ∨ b = it
        · rw [if_pos hb, if_pos hb]
        · rw [if_neg hb, if_neg hb, upd_ne fun q => hb (.inl q)]
      refine ⟨mc', C'', _, k1, k2 _ _ hD', hIk D _ _ _ _ x2 x3 hI' fun b c hb e => by rw [upd_ne hb]; exact k2 b c e, rfl, fun b c e => ?_, x2, x3, ?_⟩
      · rw [upd_ne (by rintro rfl; rw [x3] at e; cases e)]; exact k2 b c (xb b c e)
      · rw [eh]
        refine k3 _ (fit _ k2) (fun b c e1 e2 => ?_) (hRm _ _ _ _ r1 (hid_mono fun b c _ _ e => k2 b c e))
        rw [hid_ne (by rintro rfl; rw [hD'] at e1; cases e1) (by rintro rfl; rw [hci] at e1; cases e1)]
        exact e2
  · intro D Lc mc C1 G1 C' G' s1 ys hI hJ hK hG hD' S1
    obtain ⟨rfl, x1, x2, x3, x4⟩ := hJ
    have hG : G' = G1 := hG
    subst hG
    exact fin D Lc mc C' s1 ys x3 (keepB x1 hK) (hRm _ _ _ _ (hRm _ _ _ _ x4 (hid_mono fun b c _ hb e => hK b c hb e)) hid_ext) hD' S1

/-- a list cell walked by a comprehension -/
theorem r_compL {elt target iter : PySem.Expr} {ifs : List PySem.Expr} {scope : Scope} {cl : List (Str × Addr)} {pos : Pos} {l : Addr} {vs : List Value} {Q : Value → Shared → Prop} {use : Option (Value → Sem Unit)}
    (ht : TgOk target) (R : Nat → Led → List Value → Prop) (hb : BlkOk scope env cl) (hh : A.handled = none) (hd : A.depth < recursionLimit) (hn : vs.length ≤ 1000)
    (hiter : wpAny (model PR w) A (eval iter env) (fun x s₁ => x = .ref l ∧ C l = some (.lst vs) ∧ St w g L m F C G O s₁) E s)
    (hR0 : ∀ C, R 0 C []) (hRm : ∀ i C C' ys, R i C ys → Ext C C' → R i C' ys)
    (step : ∀ Lc i mc C' v s E' ys, vs[i]? = some v → Ext C C' → R i C' ys → St w g Lc mc ((L, m) :: F) C' G O s →
      wpAny (model PR w) A (assign target (compEnvC scope cl Lc env) v) (fun _ s₂ =>
        wpAny (model PR w) A (forIn ifs true fun c r => if r = true then do let ok ← isTrue c (compEnvC scope cl Lc env) (eval c (compEnvC scope cl Lc env)); pure (ForInStep.yield ok) else pure (ForInStep.yield r)) (fun ok s₃ =>
          if ok = true then wpAny (model PR w) A (eval elt (compEnvC scope cl Lc env)) (fun x s₄ => ∃ mc' C'', St w g Lc mc' ((L, m) :: F) C'' G O s₄ ∧ Ext C' C'' ∧ ∀ Cx, Ext C Cx → (∀ b c, C' b = none → C'' b = some c → Cx b = some c) → R i Cx ys → R (i + 1) Cx (ys ++ [x])) E' s₃
          else ∃ mc' C'', St w g Lc mc' ((L, m) :: F) C'' G O s₃ ∧ Ext C' C'' ∧ ∀ Cx, Ext C Cx → R i Cx ys → R (i + 1) Cx ys) E' s₂) E' s)
    (fin : ∀ D Lc mc C' s ys, C D = none → Ext C C' → R vs.length C' ys → C' D = some (.lst ys) → St w g Lc mc ((L, m) :: F) C' G O s → compPost (model PR w) A E use Q (.ref D) Lc (.ok .next) s)
    (hs : ∀ x, foldedSetIterable iter env x = pure x := by intro _; rfl) :
    wpAny (model PR w) A (comprehension (.ListComp elt [⟨target, iter, ifs, 0⟩] scope pos) scope env (firstIterPos [⟨target, iter, ifs, 0⟩] pos) (newList []) false (eval iter env) use) Q E s := by
  refine wpAny_comprehension_free rfl hs hb.1 hb.2.1 hb.2.2.2 (wpAny_mono hiter (fun x s1 hx => ?_) fun _ _ e => e)
  obtain ⟨rfl, hl, S1⟩ := hx
  refine r_iterL S1 hl fun it s2 hit S2 => ?_
  refine r_compG (iter_list ht) R hb hh hd hn hit S2 ⟨upd_same .., upd_old hl hit⟩ (fun i C G h => ⟨_, h.1⟩) (fun D i C' C'' G h1 h2 h3 h4 => ⟨h4 _ _ h1.symm h3.1, h4 _ _ (by rintro rfl; rw [hl] at h2; cases h2) h3.2⟩) hR0 hRm
    (fun Lc i mc C' v s E' ys _ e hv r S => step Lc i mc C' v s E' ys hv e r S) fin
/-- the end of a comprehension whose list is the expression's value -/
theorem compPost_val {Q : Value → Shared → Prop} {D Lc : Addr} {mc : List (Str × Value)} {C₀ : Led} {G₀ : Array GenState} {s₀ : Shared} (S₀ : St w g L m F C₀ G₀ O s₀) (S : St w g Lc mc ((L, m) :: F) C G O s) (h : ∀ s', St w g L m F C G O s' → Q (.ref D) s') :
    compPost (model PR w) A E none Q (.ref D) Lc (.ok .next) s := by
  obtain ⟨m₁, hm₁, _⟩ := S.ns
  exact ⟨m₁, hm₁, fun h' hs' => h _ (S₀.popX (s' := { s with heap := h' }) S hs' S.gens S.os)⟩
/-- .. is put into a local -/
theorem compPost_as {x : Str} {px : Pos} {Q : Value → Shared → Prop} {D Lc : Addr} {mc : List (Str × Value)} {C₀ : Led} {G₀ : Array GenState} {s₀ : Shared} (S₀ : St w g L m F C₀ G₀ O s₀) (S : St w g Lc mc ((L, m) :: F) C G O s) (h : ∀ s', St w g L ((x, .ref D) :: m) F C G O s' → Q .none s')
    (hk : env.scope.kind = .function := by rfl) (hx : env.kindOf x = some .local := by rfl) (hL : env.locals = L := by rfl) :
    compPost (model PR w) A E (some (assign (.Name x px) env)) Q (.ref D) Lc (.ok .next) s := by
  show wpAny _ A (assign (.Name x px) env (.ref D)) _ _ _
  refine r_asN (St.swap S₀ S) (fun s1 S1 => ?_) hk hx hL
  obtain ⟨m₁, hm₁, _⟩ := (S1.frs (Lc, mc) (.head _)).1
  refine ⟨m₁, hm₁, fun h' hs' => h _ (S1.dropX (s' := { s1 with heap := h' }) hs' (fun p hp => ?_) S1.gens S1.os)⟩
  exact (S.frs p (.tail _ hp)).2.1
end
end Mine
end
section -- Y3
open PySem PySem.W PySem.Calls PyProof.Rows
namespace Mine
section
variable {w : World} {g : Heap} {L : Addr} {m : List (Str × Value)} {F : List (Addr × List (Str × Value))} {C : Led} {G : Array GenState} {O : OsState} {s : Shared} {A : Around} {E Q : Value → Shared → Prop} {env : Env}
/-- what is kept when all that stood is told anew -/
theorem St.ofNews {m₀ : Str → Option Value} {h' : Heap} {tk : Nat} (S : St w g L m F C G O s) (hm : ∀ x v, m.lookup x = some v → m₀ x = some v) (F' : Fr g L h' m₀) (N' : News g L h' (allNews g s.heap L)) : St w g L m F C G O { s with heap := h', toks := tk } :=
  S.grownN (s' := { s with heap := h', toks := tk }) ⟨m₀, F'.ns, hm⟩ (fun b o hb e => keep_of (P := fun _ => False) S.keep F' (fun p hp _ => (N' p hp).1) b o (fun q => q) hb e) S.gens S.os
theorem r_eqI {a b : Addr} {xs ys : List Value} {ns ms : List Int} (S : St w g L m F C G O s) (ha : C a = some (.lst xs)) (hb : C b = some (.lst ys)) (hi : IntsAre xs ns) (hj : IntsAre ys ms) (hu : A.units + 64 < cLine) (h : Q (.bool (decide (ns = ms))) s) :
    wpAny (model PR w) A (compareOp .Eq (.ref a) (.ref b)) Q E s := ke_eq_ints (S.isList ha) (S.isList hb) hi hj hu h
theorem r_neI {a b : Addr} {xs ys : List Value} {ns ms : List Int} (S : St w g L m F C G O s) (ha : C a = some (.lst xs)) (hb : C b = some (.lst ys)) (hi : IntsAre xs ns) (hj : IntsAre ys ms) (hu : A.units + 64 < cLine) (h : Q (.bool (!decide (ns = ms))) s) :
    wpAny (model PR w) A (compareOp .NotEq (.ref a) (.ref b)) Q E s := ke_ne_ints (S.isList ha) (S.isList hb) hi hj hu h
theorem r_neNil {a b : Addr} {xs : List Value} (S : St w g L m F C G O s) (ha : C a = some (.lst xs)) (hb : C b = some (.lst [])) (hu : A.units + 64 < cLine) (h : Q (.bool (!xs.isEmpty)) s) :
    wpAny (model PR w) A (compareOp .NotEq (.ref a) (.ref b)) Q E s := by
  cases xs with
  | nil => exact r_neI (ns := []) (ms := []) S ha hb .nil .nil hu h
  | cons x xs => exact PySem.SeqAt.RcNeAt.lists_lengths (S.isList ha) (S.isList hb) (by simp) (by omega) PR w E Q h
theorem r_min {i j : Int} {t u : Tok} (hh : A.handled = none) (S : St w g L m F C G O s) (h : ∀ v s', St w g L m F C G O s' → Q (.int (min i j) v) s') : wpAny (model PR w) A (call (.builtin "min") [.int i t, .int j u]) Q E s :=
  min_two_ints hh fun h' tk k => by
    have := fun v => h v { s with heap := h', toks := tk } (S.grown k S.gens S.os)
    split
    · rw [Int.min_def, if_neg (by omega)] at this; exact this u
    · rw [Int.min_def, if_pos (by omega)] at this; exact this t
theorem r_max {i j : Int} {t u : Tok} (hh : A.handled = none) (S : St w g L m F C G O s) (h : ∀ v s', St w g L m F C G O s' → Q (.int (max i j) v) s') : wpAny (model PR w) A (call (.builtin "max") [.int i t, .int j u]) Q E s :=
  max_two_ints hh fun h' tk k => by
    have := fun v => h v { s with heap := h', toks := tk } (S.grown k S.gens S.os)
    split
    · rw [Int.max_def, if_pos (by omega)] at this; exact this u
    · rename_i hn
      rcases Int.lt_trichotomy i j with h1 | h1 | h1
      · exact absurd h1 hn
      · subst h1; rw [Int.max_self] at this; exact this t
      · rw [Int.max_def, if_neg (by omega)] at this; exact this t
theorem r_abs {i : Int} {t : Tok} (S : St w g L m F C G O s) (h : ∀ v s', St w g L m F C G O s' → Q (.int (if i < 0 then -i else i) v) s') : wpAny (model PR w) A (call (.builtin "abs") [.int i t]) Q E s :=
  call_abs_int fun u tk => h u _ (S.toks tk)
theorem r_addL {a b : Addr} {xs ys : List Value} (S : St w g L m F C G O s) (ha : C a = some (.lst xs)) (hb : C b = some (.lst ys)) (hz : xs.length + ys.length ≤ 1000) (h : ∀ D s', C D = none → St w g L m F (upd C D (.lst (xs ++ ys))) G O s' → Q (.ref D) s') :
    wpAny (model PR w) A (binaryOp .Add (.ref a) (.ref b)) Q E s := by
  obtain ⟨m₀, F0, hm⟩ := S.pack
  refine add_lists F0 allNews_ok (S.isList ha) (S.isList hb) (fun h' F' N' => ?_) (by rw [sizeLine_eq]; omega)
  have S1 : St w g L m F C G O { s with heap := h' } := S.ofNews hm F' fun p hp => N' p (.tail _ hp)
  exact h _ _ S.free (S1.learn S (Nat.le_refl _) ⟨_, (N' _ (.head _)).1, rfl, 0, rfl⟩)
theorem r_inL {l : Addr} {xs : List Value} {ns : List Int} {k : Int} {t : Tok} (S : St w g L m F C G O s) (hl : C l = some (.lst xs)) (hi : IntsAre xs ns) (h : Q (.bool (decide (k ∈ ns))) s) : wpAny (model PR w) A (compareOp .In (.int k t) (.ref l)) Q E s :=
  in_list_ints (S.isList hl) hi (by
    have e : ns.any (· == k) = decide (k ∈ ns) := by rw [Bool.eq_iff_iff]; simp
    rw [e]; exact h)
theorem r_notinL {l : Addr} {xs : List Value} {ns : List Int} {k : Int} {t : Tok} (S : St w g L m F C G O s) (hl : C l = some (.lst xs)) (hi : IntsAre xs ns) (h : Q (.bool (!decide (k ∈ ns))) s) : wpAny (model PR w) A (compareOp .NotIn (.int k t) (.ref l)) Q E s :=
  notin_list_ints (S.isList hl) hi (by
    have e : ns.any (· == k) = decide (k ∈ ns) := by rw [Bool.eq_iff_iff]; simp
    rw [e]; exact h)
theorem r_subL {value slice : PySem.Expr} {l : Addr} {xs : List Value} {j : Nat} {t : Tok} {x : Value} (S : St w g L m F C G O s) (hl : C l = some (.lst xs)) (hx : xs[j]? = some x) (hj : j ≤ 1000) (h : Q x s)
    (hs : subscripted slice false (.ref l) (.int j t) = operate [.ref l, .int j t] (getItem (.ref l) (.int j t)) := by with_unfolding_all rfl) :
    wpAny (model PR w) A (subscriptTail value slice (.ref l) (.int j t)) Q E s :=
  tail_any (S.isList hl).typeIs PySem.F.slot_list_getitem.lookup (wpAny_getItem_list (S.isList hl) (by omega) (by omega) (by simpa using hx) h) hs
theorem r_subT {value slice : PySem.Expr} {l : Addr} {xs : List Value} {j : Nat} {t : Tok} {x : Value} (S : St w g L m F C G O s) (hl : C l = some (.tup xs)) (hx : xs[j]? = some x) (hj : j ≤ 1000) (h : Q x s)
    (hs : subscripted slice false (.ref l) (.int j t) = operate [.ref l, .int j t] (getItem (.ref l) (.int j t)) := by with_unfolding_all rfl) :
    wpAny (model PR w) A (subscriptTail value slice (.ref l) (.int j t)) Q E s := by
  have hlt : j < xs.length := by
    rcases Nat.lt_or_ge j xs.length with q | q
    · exact q
    · rw [List.getElem?_eq_none q] at hx; cases hx
  exact tail_any (S.isTup hl).typeIs PySem.F.slot_tuple_getitem.lookup (getItem_tuple (S.isTup hl) (by omega) (by omega) (seqIndex_of (by omega) (by simpa using hlt)) (by simpa using hx) h) hs
end
end Mine
end
section -- Y4
open PySem PySem.W PySem.Calls PyProof.Rows
namespace Mine
section
open PySem.SeqAt
variable (a b : Addr) (items items2 : Array Value) (n n2 : Nat) (dd dd2 : Option Addr) (sl sl2 : Array (Option Value))
/-- a turn at which the items differ: asked for less -/
theorem lt_turn_ne (i : Nat) (j k : Int) (t u : Tok) (h1 : items[i]? = some (.int j t)) (h2 : items2[i]? = some (.int k u)) (hne : j ≠ k) :
    Meets (Builtin.«list.__eq__.loop» ⟨[.ref a, .ref b, rawInt i, rawInt 0], []⟩)
      (fun _ R s => s.heap.get? a = some { cls := .type "list", dict := dd, data := .seq items n, slots := sl } ∧ s.heap.get? b = some { cls := .type "list", dict := dd2, data := .seq items2 n2, slots := sl2 } ∧
        R (.ok (.ret (.bool (decide (j < k))))) s) := by
  intro prog w A R s h
  obtain ⟨hp, g, d, tk, os⟩ := s; obtain ⟨hl, hb, h⟩ := h
  wp_walk using AutoSeq1.wpAny_loadPart' hl, AutoSeq1.wpAny_loadPart' hb
  have hi1 : items[((i : Nat) : Int).toNat]? = some (.int j t) := by simpa using h1
  have hi2 : items2[((i : Nat) : Int).toNat]? = some (.int k u) := by simpa using h2
  rw [hi1, hi2]
  refine wpAny_bind ((MeetsSeq.EqGives.int j k t u).at _ _ prog w _ _ ?_)
  rw [show (j == k) = false from beq_eq_false_iff_ne.mpr hne]
  wp_walk using AutoSeq1.wpAny_loadPart' hl, AutoSeq1.wpAny_loadPart' hb
  rw [hi1, hi2]
  refine wpAny_bind (PySem.P.lt_int ?_)
  exact wpAny_pure h
/-- a turn at which the items agree -/
theorem lt_turn_eq (i : Nat) (j k : Int) (t u : Tok) (h1 : items[i]? = some (.int j t)) (h2 : items2[i]? = some (.int k u)) (he : j = k) (r : Bool)
    (M : Meets (Builtin.«list.__eq__.loop» ⟨[.ref a, .ref b, rawInt (i + 1 : Nat), rawInt 0], []⟩)
      (fun _ R s => s.heap.get? a = some { cls := .type "list", dict := dd, data := .seq items n, slots := sl } ∧ s.heap.get? b = some { cls := .type "list", dict := dd2, data := .seq items2 n2, slots := sl2 } ∧ R (.ok (.ret (.bool r))) s)) :
    Meets (Builtin.«list.__eq__.loop» ⟨[.ref a, .ref b, rawInt i, rawInt 0], []⟩)
      (fun _ R s => s.heap.get? a = some { cls := .type "list", dict := dd, data := .seq items n, slots := sl } ∧ s.heap.get? b = some { cls := .type "list", dict := dd2, data := .seq items2 n2, slots := sl2 } ∧ R (.ok (.ret (.bool r))) s) := by
  intro prog w A R s h
  obtain ⟨hp, g, d, tk, os⟩ := s; obtain ⟨hl, hb, h⟩ := h
  wp_walk using AutoSeq1.wpAny_loadPart' hl, AutoSeq1.wpAny_loadPart' hb
  have hi1 : items[((i : Nat) : Int).toNat]? = some (.int j t) := by simpa using h1
  have hi2 : items2[((i : Nat) : Int).toNat]? = some (.int k u) := by simpa using h2
  rw [hi1, hi2]
  refine wpAny_bind ((MeetsSeq.EqGives.int j k t u).at _ _ prog w _ _ ?_)
  rw [show (j == k) = true from beq_iff_eq.mpr he]
  wp_walk
  have hc : ((i : Int) + 1) = ((i + 1 : Nat) : Int) := by push_cast; rfl
  rw [hc]
  exact ⟨plainId_quiet MeetsSeq3.plain_eq_loop _, codeAny_builtin MeetsSeq3.entry_eq_loop (by
    rw [Around.under_plainId MeetsSeq3.plain_eq_loop _]
    exact M prog w A R _ ⟨hl, hb, h⟩)⟩
theorem lt_turn_end (i : Nat) (h1 : items[i]? = none) (hz : items.size = items2.size) :
    Meets (Builtin.«list.__eq__.loop» ⟨[.ref a, .ref b, rawInt i, rawInt 0], []⟩)
      (fun _ R s => s.heap.get? a = some { cls := .type "list", dict := dd, data := .seq items n, slots := sl } ∧ s.heap.get? b = some { cls := .type "list", dict := dd2, data := .seq items2 n2, slots := sl2 } ∧ R (.ok (.ret (.bool false))) s) := by
  intro prog w A R s h
  obtain ⟨hp, g, d, tk, os⟩ := s; obtain ⟨hl, hb, h⟩ := h
  wp_walk using AutoSeq1.wpAny_loadPart' hl, AutoSeq1.wpAny_loadPart' hb
  have hi1 : items[((i : Nat) : Int).toNat]? = none := by simpa using h1
  rw [hi1]
  wp_walk using AutoSeq1.wpAny_loadPart' hl, AutoSeq1.wpAny_loadPart' hb
  have e : Value.bool false = Value.bool (decide (items.size < items2.size)) := by rw [hz]; simp
  rw [e] at h
  exact h
/-- [i, j] < [k, l] -/
theorem list_lt2 (i j k l : Int) (t u v x : Tok) (hi : items = #[.int i t, .int j u]) (hi2 : items2 = #[.int k v, .int l x]) :
    Meets (Builtin.«list.__lt__» ⟨[.ref a, .ref b], []⟩)
      (fun _ R s => s.heap.get? a = some { cls := .type "list", dict := dd, data := .seq items n, slots := sl } ∧ s.heap.get? b = some { cls := .type "list", dict := dd2, data := .seq items2 n2, slots := sl2 } ∧
        R (.ok (.ret (.bool (decide (i < k ∨ (i = k ∧ j < l)))))) s) := by
  have loop : Meets (Builtin.«list.__eq__.loop» ⟨[.ref a, .ref b, rawInt (0 : Nat), rawInt 0], []⟩)
      (fun _ R s => s.heap.get? a = some { cls := .type "list", dict := dd, data := .seq items n, slots := sl } ∧ s.heap.get? b = some { cls := .type "list", dict := dd2, data := .seq items2 n2, slots := sl2 } ∧ R (.ok (.ret (.bool (decide (i < k ∨ (i = k ∧ j < l)))))) s) := by
    by_cases q : i = k
    · refine lt_turn_eq a b items items2 n n2 dd dd2 sl sl2 0 i k t v (by rw [hi]; rfl) (by rw [hi2]; rfl) q _ ?_
      by_cases q2 : j = l
      · refine lt_turn_eq a b items items2 n n2 dd dd2 sl sl2 1 j l u x (by rw [hi]; rfl) (by rw [hi2]; rfl) q2 _ ?_
        have e : decide (i < k ∨ (i = k ∧ j < l)) = false := decide_eq_false (by omega)
        rw [e]
        exact lt_turn_end a b items items2 n n2 dd dd2 sl sl2 2 (by rw [hi]; rfl) (by rw [hi, hi2]; rfl)
      · have e : decide (i < k ∨ (i = k ∧ j < l)) = decide (j < l) := decide_eq_decide.mpr (by omega)
        rw [e]
        exact lt_turn_ne a b items items2 n n2 dd dd2 sl sl2 1 j l u x (by rw [hi]; rfl) (by rw [hi2]; rfl) q2
    · have e : decide (i < k ∨ (i = k ∧ j < l)) = decide (i < k) := decide_eq_decide.mpr (by omega)
      rw [e]
      exact lt_turn_ne a b items items2 n n2 dd dd2 sl sl2 0 i k t v (by rw [hi]; rfl) (by rw [hi2]; rfl) q
  intro prog w A R s h
  obtain ⟨hp, g, d, tk, os⟩ := s; obtain ⟨hl, hb, h⟩ := h
  have f3 := AutoSeq1.sub_list_list
  wp_walk using AutoSeq1.wpAny_loadPart' hl, AutoSeq1.wpAny_loadPart' hb
  exact ⟨plainId_quiet MeetsSeq3.plain_eq_loop _, codeAny_builtin MeetsSeq3.entry_eq_loop (by
    rw [Around.under_plainId MeetsSeq3.plain_eq_loop _]
    exact loop prog w A R _ ⟨hl, hb, h⟩)⟩
end
end Mine
end
section -- Y5
open PySem PySem.W PySem.Calls PyProof.Rows
namespace Mine
inductive All2 {α β : Type} (R : α → β → Prop) : List α → List β → Prop where
  | nil : All2 R [] []
  | cons {a : α} {b : β} {as : List α} {bs : List β} : R a b → All2 R as bs → All2 R (a :: as) (b :: bs)
theorem All2.length {α β : Type} {R : α → β → Prop} : ∀ {as : List α} {bs : List β}, All2 R as bs → as.length = bs.length
  | _, _, .nil => rfl
  | _, _, .cons _ r => by simp [r.length]
theorem All2.imp {α β : Type} {R R' : α → β → Prop} (h : ∀ a b, R a b → R' a b) : ∀ {as : List α} {bs : List β}, All2 R as bs → All2 R' as bs
  | _, _, .nil => .nil
  | _, _, .cons x r => .cons (h _ _ x) (r.imp h)
theorem All2.append {α β : Type} {R : α → β → Prop} : ∀ {as as' : List α} {bs bs' : List β}, All2 R as bs → All2 R as' bs' → All2 R (as ++ as') (bs ++ bs')
  | _, _, _, _, .nil, y => y
  | _, _, _, _, .cons x r, y => .cons x (r.append y)
theorem All2.snoc {α β : Type} {R : α → β → Prop} {as : List α} {bs : List β} {a : α} {b : β} (h : All2 R as bs) (x : R a b) : All2 R (as ++ [a]) (bs ++ [b]) := h.append (.cons x .nil)
theorem All2.get {α β : Type} {R : α → β → Prop} : ∀ {as : List α} {bs : List β}, All2 R as bs → ∀ {i : Nat} {a : α}, as[i]? = some a → ∃ b, bs[i]? = some b ∧ R a b
  | _, _, .cons x r, 0, a, e => by simp at e; subst e; exact ⟨_, rfl, x⟩
  | _, _, .cons x r, i + 1, a, e => by
    simp only [List.getElem?_cons_succ] at e ⊢
    exact r.get e
theorem All2.mem {α β : Type} {R : α → β → Prop} : ∀ {as : List α} {bs : List β}, All2 R as bs → ∀ {a : α}, a ∈ as → ∃ b ∈ bs, R a b
  | _, _, .cons x r, a, e => by
    rcases List.mem_cons.mp e with rfl | e
    · exact ⟨_, .head _, x⟩
    · obtain ⟨b, hb, hr⟩ := r.mem e
      exact ⟨b, .tail _ hb, hr⟩
/-- a permutation of the one is one of the other -/
theorem All2.perm {α β : Type} {R : α → β → Prop} {as as' : List α} (p : as'.Perm as) : ∀ {bs : List β}, All2 R as bs → ∃ bs', All2 R as' bs' ∧ bs'.Perm bs := by
  induction p with
  | nil => intro bs h; exact ⟨bs, h, .refl _⟩
  | cons x _ ih =>
    intro bs h
    cases h with
    | cons h r =>
      obtain ⟨bs', h1, h2⟩ := ih r
      exact ⟨_, .cons h h1, h2.cons _⟩
  | swap x y l =>
    intro bs h
    cases h with
    | cons h r =>
      cases r with
      | cons h2 r => exact ⟨_, .cons h2 (.cons h r), List.Perm.swap ..⟩
  | trans _ _ ih1 ih2 =>
    intro bs h
    obtain ⟨b1, h1, h2⟩ := ih2 h
    obtain ⟨b2, h3, h4⟩ := ih1 h1
    exact ⟨b2, h3, h4.trans h2⟩

/-- a list cell [i, j] -/
def PairAt (C : Led) (v : Value) (p : Int × Int) : Prop := ∃ a t u, v = .ref a ∧ C a = some (.lst [.int p.1 t, .int p.2 u])
theorem PairAt.keeps {C C' : Led} (k : KeepsP C C') {v : Value} {p : Int × Int} (h : PairAt C v p) : PairAt C' v p := let ⟨a, t, u, e, h⟩ := h; ⟨a, t, u, e, k _ _ h trivial⟩
theorem PairAt.ext {C C' : Led} (k : Ext C C') {v : Value} {p : Int × Int} (h : PairAt C v p) : PairAt C' v p := h.keeps k.keepsP
def pk2 (p : Int × Int) : Int := 6 * p.1 + p.2
def keyAt (C : Led) (v : Value) : Int := match v with
  | .ref a => match C a with
    | some (.lst [.int i _, .int j _]) => 6 * i + j
    | _ => 0
  | _ => 0
theorem PairAt.key {C : Led} {v : Value} {p : Int × Int} (h : PairAt C v p) : keyAt C v = pk2 p := by
  obtain ⟨a, t, u, rfl, e⟩ := h
  unfold keyAt
  dsimp only
  rw [e]; rfl
def pairD (p : Int × Int) : PyData := .list [.int p.1, .int p.2]
theorem eqv_pairs : ∀ ps qs : List (Int × Int), PyData.eqvAll (ps.map pairD) (qs.map pairD) = decide (ps = qs)
  | [], [] => by simp [PyData.eqvAll]
  | [], _ :: _ => by simp [PyData.eqvAll]
  | _ :: _, [] => by simp [PyData.eqvAll]
  | (a, b) :: r, (c, d) :: t => by
    have e : PyData.eqvAll (List.map pairD ((a, b) :: r)) (List.map pairD ((c, d) :: t)) = ((a == c && (b == d && true)) && PyData.eqvAll (r.map pairD) (t.map pairD)) := by
      simp only [List.map_cons, PyData.eqvAll]
      simp only [pairD, PyData.eqv, PyData.eqvAll]
    rw [e, eqv_pairs r t]
    by_cases h : a = c <;> by_cases h2 : b = d <;> by_cases h' : r = t <;> simp [h, h2, h']
theorem lay_pairs : ∀ ps : List (Int × Int), PyData.canLayAll0 (ps.map pairD) = true ∧ PyData.depthAll (ps.map pairD) ≤ 1
  | [] => by simp [PyData.canLayAll0, PyData.depthAll]
  | p :: r => by
    have ih := lay_pairs r
    simp only [List.map_cons, PyData.canLayAll0, PyData.depthAll, ih.1, Bool.and_true]
    refine ⟨by simp [pairD, PyData.canLay0, PyData.canLayAll0], ?_⟩
    have : (pairD p).depth ≤ 1 := by simp [pairD, PyData.depth, PyData.depthAll]
    omega
theorem shaped_pairs (ps : List (Int × Int)) : SeqAt.shaped (.list (ps.map pairD)) = true := by
  have := lay_pairs ps
  simp only [SeqAt.shaped, PyData.canLay0, PyData.depth, this.1, Bool.true_and]
  exact decide_eq_true (by omega)
section
variable {w : World} {g : Heap} {L : Addr} {m : List (Str × Value)} {F : List (Addr × List (Str × Value))} {C : Led} {G : Array GenState} {O : OsState} {s : Shared} {A : Around} {E Q : Value → Shared → Prop} {env : Env}
theorem St.readsP (S : St w g L m F C G O s) {v : Value} {p : Int × Int} (h : PairAt C v p) : ∃ as, Reads s.heap v (pairD p) as := by
  obtain ⟨a, t, u, rfl, e⟩ := h
  exact ⟨_, reads_newData (S.isList e) (ds := [.int p.1, .int p.2]) (.cons (.int _ _) (.cons (.int _ _) .nil))⟩
theorem St.readsPs (S : St w g L m F C G O s) : ∀ {vs : List Value} {ps : List (Int × Int)}, All2 (PairAt C) vs ps → ∃ as, ReadsAll s.heap vs (ps.map pairD) as
  | _, _, .nil => ⟨_, .nil⟩
  | _, _, .cons h r => by
    obtain ⟨as, h1⟩ := S.readsP h
    obtain ⟨bs, h2⟩ := St.readsPs S r
    exact ⟨_, .cons h1 h2⟩
theorem r_neP {a b : Addr} {xs ys : List Value} {ps qs : List (Int × Int)} (S : St w g L m F C G O s) (ha : C a = some (.lst xs)) (hb : C b = some (.lst ys)) (hi : All2 (PairAt C) xs ps) (hj : All2 (PairAt C) ys qs) (hu : A.units + 64 < cLine) (h : Q (.bool (!decide (ps = qs))) s) :
    wpAny (model PR w) A (compareOp .NotEq (.ref a) (.ref b)) Q E s := by
  obtain ⟨as, r1⟩ := S.readsPs hi
  obtain ⟨bs, r2⟩ := S.readsPs hj
  obtain ⟨o1, h1, h2, n1, h3⟩ := S.isList ha
  obtain ⟨o2, h4, h5, n2, h6⟩ := S.isList hb
  refine ne_dataH (reads_list_at h1 h2 h3 r1) (reads_list_at h4 h5 h6 r2) (shaped_pairs ps) (shaped_pairs qs) hu ?_
  rw [show PyData.eqv (.list (ps.map pairD)) (.list (qs.map pairD)) = PyData.eqvAll (ps.map pairD) (qs.map pairD) by rw [PyData.eqv], eqv_pairs]
  exact h
/-- [i, j] < [k, l], asked by the sort -/
theorem r_ltP {x y : Value} {p q : Int × Int} {Q : Bool → Shared → Prop} {E : Value → Shared → Prop} (S : St w g L m F C G O s) (hx : PairAt C x p) (hy : PairAt C y q) (hu : A.units < cLine) (h : Q (decide (p.1 < q.1 ∨ (p.1 = q.1 ∧ p.2 < q.2))) s) : wpAny (model PR w) A (keyLt' oneType' x y) Q E s := by
  obtain ⟨a, t, u, rfl, ha⟩ := hx
  obtain ⟨b, t', u', rfl, hb⟩ := hy
  obtain ⟨⟨cls, dd, data, sl⟩, ho, hc, n, hd⟩ := S.isList ha
  obtain ⟨⟨cls2, dd2, data2, sl2⟩, ho2, hc2, n2, hd2⟩ := S.isList hb
  simp only at hc hd hc2 hd2
  subst hc hd hc2 hd2
  rw [keyLt'_oneType, oneLt'_eq]
  simp only [if_true]
  refine wpAny_bind (wpAny_cRoomFor hu ?_)
  refine wpAny_bind (wpAny_callSpecialIfBound?_slot (S.isList ha).typeIs PySem.F.slot_list_lt ?_)
  refine call_meets PySem.F.slot_list_lt (S.isList ha).typeIs PySem.F.entry_list_lt (PySem.F.args_list_lt_2 _ _) (list_lt2 a b _ _ n n2 dd dd2 sl sl2 p.1 p.2 q.1 q.2 t u t' u' rfl rfl) ⟨ho, ho2, ?_⟩
  exact wpAny_truthy_bool h
/-- sorted(..) of a list of pairs, no two alike -/
theorem r_sortP {v : Value} {xs : List Value} {ps : List (Int × Int)} (hp : All2 (PairAt C) xs ps) (hn : ps.Nodup) (hr : ∀ p ∈ ps, 0 ≤ p.1 ∧ 0 ≤ p.2 ∧ p.2 < 6) (h64 : ps.length < 64) (hu : A.units + 8 < cLine)
    (hc : wpAny (model PR w) A.in1 (collect v) (fun vs s1 => vs = xs ∧ St w g L m F C G O s1) E s)
    (h : ∀ D vs' ps' s', C D = none → St w g L m F (upd C D (.lst vs')) G O s' → All2 (PairAt C) vs' ps' → ps'.Perm ps → ps'.Pairwise (fun a b => pk2 a < pk2 b) → Q (.ref D) s') : wpAny (model PR w) A (call (.builtin "sorted") [v]) Q E s := by
  have hl := hp.length
  have inj : ∀ p ∈ ps, ∀ q ∈ ps, pk2 p = pk2 q → p = q := fun p h1 q h2 e => by
    have a := hr p h1; have b := hr q h2
    unfold pk2 at e
    have : p.1 = q.1 ∧ p.2 = q.2 := by omega
    exact Prod.ext this.1 this.2
  refine r_sortedK (keyAt C) "list" (by decide) (by omega) ?_ ?_ ?_ hc ?_
  · intro i j hi hj e
    obtain ⟨x, hx⟩ : ∃ x, xs[i]? = some x := ⟨_, List.getElem?_eq_getElem hi⟩
    obtain ⟨y, hy⟩ : ∃ y, xs[j]? = some y := ⟨_, List.getElem?_eq_getElem hj⟩
    obtain ⟨p, hp1, hp2⟩ := hp.get hx
    obtain ⟨q, hq1, hq2⟩ := hp.get hy
    rw [List.getD_eq_getElem?_getD, List.getD_eq_getElem?_getD, hx, hy] at e
    have e : keyAt C x = keyAt C y := e
    rw [hp2.key, hq2.key] at e
    have := inj p (List.mem_of_getElem? hp1) q (List.mem_of_getElem? hq1) e
    subst this
    exact (List.getElem?_inj (by omega) hn).mp (hp1.trans hq1.symm)
  · intro C' s' S' x y hy
    obtain ⟨p, _, a, t, u, rfl, e⟩ := hp.mem hy
    exact ⟨a, rfl, (S'.isList (x _ _ e)).typeIs⟩
  · intro C' s' S' x y hy z hz Q' hq
    obtain ⟨p, hp0, hp1⟩ := hp.mem hy
    obtain ⟨q, hq0, hq1⟩ := hp.mem hz
    refine r_ltP S' (hp1.ext x) (hq1.ext x) (by show A.units + 1 + 1 < _; omega) ?_
    rw [hp1.key, hq1.key] at hq
    have a := hr p hp0; have b := hr q hq0
    have e : decide (p.1 < q.1 ∨ (p.1 = q.1 ∧ p.2 < q.2)) = decide (pk2 p < pk2 q) := decide_eq_decide.mpr (by unfold pk2; omega)
    rw [e]; exact hq
  · intro D vs' s' hD S' p1 p2
    obtain ⟨ps', h1, h2⟩ := hp.perm p1
    refine h D vs' ps' s' hD S' h1 h2 ?_
    have go : ∀ {vs : List Value} {qs : List (Int × Int)}, All2 (PairAt C) vs qs → vs.Pairwise (fun a b => keyAt C a < keyAt C b) → qs.Pairwise (fun a b => pk2 a < pk2 b) := by
      intro vs qs a
      induction a with
      | nil => intro _; exact .nil
      | @cons x p xs ps hx r ih =>
        intro hw
        rw [List.pairwise_cons] at hw
        refine .cons (fun q hq => ?_) (ih hw.2)
        obtain ⟨i, hi⟩ := List.mem_iff_getElem?.mp hq
        have hlt : i < xs.length := by rw [r.length]; exact (List.getElem?_eq_some_iff.mp hi).1
        obtain ⟨q', hq', hy⟩ := r.get (List.getElem?_eq_getElem hlt)
        rw [hi] at hq'; cases hq'
        have := hw.1 _ (List.getElem_mem hlt)
        rw [hx.key, hy.key] at this
        exact this
    exact go h1 p2
end
end Mine
end
section -- Y6
open PySem PySem.W PySem.Calls PyProof.Rows
namespace Mine
section
variable {w : World} {A : Around}
theorem lk_list_keys : typeLookup (.type "list") "keys" = pure none := by rw [typeLookup_type, builtinLookup_eq_fast]; kernel_rfl
theorem ga_list {s : Shared} {a : Addr} {xs : Array Value} {k : Nat} {sl : Array (Option Value)} {E : Value → Shared → Prop} {Q : Option Value → Shared → Prop} (hA : A.handled = none) (hx : s.heap.get? a = some { cls := .type "list", dict := none, data := .seq xs k, slots := sl })
    (hq : ∀ h' tk', (∀ b o, s.heap.get? b = some o → h'.get? b = some o) → Q none { s with heap := h', toks := tk' }) : wpAny (model PR w) A (getAttr? (.ref a) "keys") Q E s := by
  obtain ⟨hp, g, d, tk, os⟩ := s
  have hT : ∀ tk', (⟨hp, g, d, tk', os⟩ : Shared).TypeIs (.ref a) "list" := fun _ => ⟨_, hx, rfl⟩
  have f1 := PySem.sub_AttributeError
  have f3 := F.slot_list_getattribute.lookup
  have f4 := F.slot_list_getattribute.bind (.ref a)
  have f5 := am_list_getattr_none
  unfold getAttr? getAttrBy? getAttrBy
  repeat (any_goals (first | assumption | exact hT _ | ((with_reducible show wpAny _ _ (call (Value.builtin "list.__getattribute__") _ _) _ _ _); refine call_meets F.slot_list_getattribute (hT _) am_entry_list_getattribute (F.args_list_getattribute_2 _ _) (meets_getattribute_miss_list a xs k sl "keys" _ lk_list_keys (by decide +kernel) (by size_fits)) ⟨hx, hA, fun h' tk' e hx' => ?_⟩) | wp_step))
  obtain ⟨t', u', he⟩ := hx'.there
  show wpAny _ _ (getattributeRaised _ _ _ _ _ _ _) _ _ _
  unfold getattributeRaised
  repeat (any_goals (first | assumption | wp_step))
  exact hq _ _ hx'.keeps
theorem entry_dul : entryFor table "dict.update.loop" = some Builtin.«dict.update.loop» := entryFor_of_tree (by kernel_rfl)
theorem plain_dul : plainId "dict.update.loop" = true := by decide +kernel
end
section
variable {w : World} {g : Heap} {L : Addr} {m : List (Str × Value)} {F : List (Addr × List (Str × Value))} {C : Led} {G : Array GenState} {O : OsState} {s : Shared} {A : Around} {E Q : Value → Shared → Prop} {env : Env}
theorem stored_len {K : Type} [DecidableEq K] (kvs : List (K × Value)) (k : K) (v : Value) : (stored kvs k v).length ≤ kvs.length + 1 := by
  unfold stored
  split <;> simp
/-- a tuple cell (k, v), k a text -/
def KvAt (C : Led) (v : Value) (p : Str × Value) : Prop := ∃ a t, v = .ref a ∧ C a = some (.tup [.str p.1 t, p.2])
theorem KvAt.keeps {C C' : Led} (k : KeepsP C C') {v : Value} {p : Str × Value} (h : KvAt C v p) : KvAt C' v p := let ⟨a, t, e, h⟩ := h; ⟨a, t, e, k _ _ h trivial⟩
theorem dul_loop {d it l : Addr} {vs : List Value} {ps : List (Str × Value)} {R : Result → Shared → Prop} {res : Value} (hh : A.handled = none) (hd : A.depth < recursionLimit) (hz : vs.length ≤ 500) (hps : All2 (KvAt C) vs ps) (hit : C it = none) (hdl : C d = none) (hll : C l = some (.lst vs)) (hdi : d ≠ it)
    (h : ∀ ep s', St w g L m F (upd C d (.ds .none (merged [] ps) ep)) G O s' → R (.ok (.ret res)) s') :
    ∀ (k i : Nat) (tk : Tok) (kvs : List (Str × Value)) (ep : Nat) (s : Shared), vs.length - i = k → i ≤ vs.length → kvs = merged [] (ps.take i) → kvs.length ≤ i → St w g L m F (upd (upd C d (.ds .none kvs ep)) it (.lit l i)) G O s →
      codeAny (model PR w) A (.builtin "dict.update.loop" ⟨[.ref d, .ref it, .int i tk, res], []⟩) R s := by
  have hlen := hps.length
  have W := iter_list (w := w) (it := it) (l := l) (vs := vs) (t := .Name (Str.ofString "x") ⟨0, 0, 0, 0⟩) TgOk.nm
  have ld : l ≠ d := by rintro rfl; rw [hll] at hdl; cases hdl
  have li : l ≠ it := by rintro rfl; rw [hll] at hit; cases hit
  intro k
  induction k with
  | zero =>
    intro i tk kvs ep s hk hi hkv hkl S0
    obtain rfl : i = vs.length := by omega
    refine codeAny_builtin entry_dul ?_
    rw [Around.under_plainId plain_dul _]
    show wpAny _ A.in1 (pyNext (.ref it) >>= _) _ _ s
    refine wpAny_bind (W.done (A := A.in1) hh hd S0 ⟨upd_same .., by rw [upd_ne li, upd_ne ld]; exact hll⟩ fun C' G' s' S' K' B' => ?_)
    have hG : G' = G := B'
    subst hG
    show wpAny _ _ (Builtin.Dict.addKeywords d [] >>= _) _ _ _
    refine wpAny_bind (wpAny_pure (wpAny_pure ?_))
    refine h ep s' (S'.forget fun b c e => ?_)
    rw [hkv, List.take_of_length_le (by omega)] at K'
    by_cases hb : b = it
    · subst hb; rw [upd_ne hdi.symm, hit] at e; cases e
    · exact K' b c hb (by rw [upd_ne hb]; exact e)
  | succ k ih =>
    intro i tk kvs ep s hk hi hkv hkl S0
    have hlt : i < vs.length := by omega
    refine codeAny_builtin entry_dul ?_
    rw [Around.under_plainId plain_dul _]
    show wpAny _ A.in1 (pyNext (.ref it) >>= _) _ _ s
    have hv : vs[i]? = some vs[i] := List.getElem?_eq_getElem hlt
    obtain ⟨⟨kk, u⟩, hp1, a, t, ha, hta⟩ := hps.get hv
    have ad : a ≠ d := by rintro rfl; rw [hta] at hdl; cases hdl
    have ai : a ≠ it := by rintro rfl; rw [hta] at hit; cases hit
    refine wpAny_bind (wpAny_pyNext_list_item (S0.sat it _ (upd_same ..)) (S0.isList (t := l) (vs := vs) (by rw [upd_ne li, upd_ne ld]; exact hll)) (x := vs[i]) (by simp [hlt]) fun h' hit' hs => ?_)
    have S1 := S0.put (a := it) (c := .lit l (i + 1)) (s' := { s with heap := h' }) (upd_same ..) hs hit' S0.gens S0.os
    rw [upd_twice] at S1
    have hat : h'.get? a = some { cls := .type "tuple", data := .seq #[.str kk t, u] } := S1.sat a (.tup [.str kk t, u]) (by rw [upd_ne ai, upd_ne ad]; exact hta)
    rw [ha]
    show wpAny _ _ (holding [.ref a] _ >>= _) _ _ _
    refine wpAny_bind (wpAny_holding ?_)
    refine wpAny_bind (m := Sem.tryCatch (Builtin.Dict.pairItems (.ref a)) _) ?_
    have hT : ({ s with heap := h' } : Shared).TypeIs (.ref a) "tuple" := ⟨_, hat, rfl⟩
    have hpi : wpAny (model PR w) A.in1 (Builtin.Dict.pairItems (.ref a)) (fun r s' => r = [.str kk t, u] ∧ s' = { s with heap := h' }) (fun _ _ => False) { s with heap := h' } := by
      unfold Builtin.Dict.pairItems
      refine wpAny_bind (wpAny_typeOf hT ?_)
      rw [if_pos (by decide)]
      unfold seqItems?
      refine wpAny_bind (wpAny_bind (wpAny_load hat ?_))
      exact wpAny_pure (wpAny_pure ⟨rfl, rfl⟩)
    refine wpAny_tryCatch (wpAny_mono hpi (fun r s' hr => ?_) fun _ _ e => e.elim)
    obtain ⟨rfl, rfl⟩ := hr
    show wpAny _ _ (holding [.str kk t, u] (dictSet d (.str kk t) u)) _ _ _
    refine wpAny_holding ?_
    have hd1 : upd (upd C d (.ds .none kvs ep)) it (.lit l (i + 1)) d = some (.ds .none kvs ep) := by rw [upd_ne hdi, upd_same]
    refine wpAny_dictSet_pairs (strKind_is PR w kk t) (S1.dictS hd1) (fun h2 hm hs2 => ?_) (by rw [sizeLine_eq]; omega)
    obtain ⟨ep', S2⟩ := S1.putS (tg := .none) (s' := { s with heap := h2, toks := s.toks + 1 }) hd1 hm hs2 S1.gens S1.os
    refine wpAny_pure ⟨plainId_quiet plain_dul _, ?_⟩
    have e1 : upd (upd (upd C d (.ds .none kvs ep)) it (.lit l (i + 1))) d (.ds .none (stored kvs kk u) ep') = upd (upd C d (.ds .none (stored kvs kk u) ep')) it (.lit l (i + 1)) := by
      funext b
      unfold upd
      by_cases hb : b = d
      · subst hb; rw [if_pos rfl, if_neg hdi, if_pos rfl]
      · rw [if_neg hb]
        by_cases hb2 : b = it
        · rw [if_pos hb2, if_pos hb2]
        · rw [if_neg hb2, if_neg hb2, if_neg hb, if_neg hb]
    rw [e1] at S2
    have e2 : stored kvs kk u = merged [] (ps.take (i + 1)) := by
      rw [List.take_add_one, hp1, hkv]
      unfold merged
      rw [List.foldl_append]; rfl
    exact ih (i + 1) 0 _ ep' _ (by omega) hlt e2 (Nat.le_trans (stored_len kvs kk u) (by omega)) S2
/-- dict(l): a list of (text, value) -/
theorem r_dictOfL {l : Addr} {vs : List Value} {ps : List (Str × Value)} (hh : A.handled = none) (hd : A.depth + 4 < recursionLimit) (S : St w g L m F C G O s) (hl : C l = some (.obj { cls := .type "list", data := .seq vs.toArray })) (hz : vs.length ≤ 500) (hps : All2 (KvAt C) vs ps)
    (h : ∀ d ep s', C d = none → St w g L m F (upd (upd C l (.lst vs)) d (.ds .none (merged [] ps) ep)) G O s' → Q (.ref d) s') : wpAny (model PR w) A (call (.type "dict") [.ref l]) Q E s := by
  have hlo : s.heap.get? l = some { cls := .type "list", data := .seq vs.toArray } := S.sat l _ hl
  refine callType_codes (Q₁ := fun obj s₁ => obj = .ref s.heap.objs.size ∧ s₁ = { s with heap := s.heap.push { cls := .type "dict", data := .dict #[] } }) PySem.F.kt_called_dict (PySem.F.kt_typeCall_dict_1 _) PySem.F.entry_dict_init (kt_code_dict_new _ ⟨rfl, rfl⟩) ?_
  rintro obj s₁ ⟨rfl, rfl⟩
  have hnew : (s.heap.push { cls := .type "dict", data := .dict #[] }).DictOf (strKind PR w) s.heap.objs.size [] := Heap.DictOf.new s.heap
  have hlo' : (s.heap.push { cls := .type "dict", data := .dict #[] }).get? l = some { cls := .type "list", data := .seq vs.toArray } := Heap.get?_push_of_some _ hlo
  refine ⟨hnew.typeIs, PySem.F.args_dict_init_2 _ _, ?_⟩
  unfold Builtin.«dict.__init__»
  refine wpAny_bind ?_
  unfold Builtin.Dict.selfAndRest
  refine wpAny_bind (wpAny_notOrdered_dict hnew.typeIs ?_)
  show wpAny _ _ (pure (s.heap.objs.size, [Value.ref l])) _ _ _
  refine wpAny_pure ?_
  show wpAny _ _ (Builtin.Dict.updateFrom "dict.__init__" s.heap.objs.size (.ref l) [] .none) _ _ _
  unfold Builtin.Dict.updateFrom
  refine wpAny_bind (wpAny_typeOf (T := "list") ⟨_, hlo', rfl⟩ ?_)
  rw [if_pos (by decide)]
  refine wpAny_bind (ga_list (by exact hh) hlo' fun h' tk' hk => ?_)
  rw [if_pos (by rfl)]
  refine wpAny_bind (wpAny_rule ?_)
  have hC0 : C s.heap.objs.size = none := S.free
  have S1 : St w g L m F (upd C s.heap.objs.size (.ds .none [] 0)) G O { s with heap := s.heap.push { cls := .type "dict", data := .dict #[] } } := S.push (o := { cls := .type "dict", data := .dict #[] }) (t := s.toks) (empty_at s.heap)
  have S2 : St w g L m F (upd C s.heap.objs.size (.ds .none [] 0)) G O { s with heap := h', toks := tk' } := S1.grown hk S1.gens S1.os
  have hl2 : upd C s.heap.objs.size (.ds .none [] 0) l = some (.obj { cls := .type "list", data := .seq vs.toArray }) := upd_old hl hC0
  have ld : l ≠ s.heap.objs.size := by rintro e; rw [e, hC0] at hl; cases hl
  have S3 := S2.recell (c' := .lst vs) hl2 ⟨_, S2.sat l _ hl2, rfl, 0, rfl⟩
  have e1 : upd (upd C s.heap.objs.size (.ds .none [] 0)) l (.lst vs) = upd (upd C l (.lst vs)) s.heap.objs.size (.ds .none [] 0) := by
    funext b
    unfold upd
    by_cases hb : b = l
    · rw [if_pos hb, if_neg (by rw [hb]; exact ld), if_pos hb]
    · rw [if_neg hb, if_neg hb]
  rw [e1] at S3
  have hCd : upd C l (.lst vs) s.heap.objs.size = none := by rw [upd_ne ld.symm]; exact hC0
  generalize hCb : upd C l (.lst vs) = Cb at S3 hCd
  have hll : Cb l = some (.lst vs) := by rw [← hCb]; exact upd_same ..
  have hps2 : All2 (KvAt Cb) vs ps := hps.imp fun v p hx => by
    obtain ⟨a, t, e, ha⟩ := hx
    refine ⟨a, t, e, ?_⟩
    rw [← hCb, upd_ne (by rintro rfl; rw [hl] at ha; cases ha)]; exact ha
  refine wpAny_bind (r_iterL S3 (by rw [upd_ne ld]; exact hll) fun it s4 hit S4 => ?_)
  have hitd : it ≠ s.heap.objs.size := by rintro rfl; rw [upd_same] at hit; cases hit
  have hitb : Cb it = none := by rw [upd_ne hitd] at hit; exact hit
  refine wpAny_pure ⟨plainId_quiet plain_dul _, ?_⟩
  refine dul_loop (A := A.in1) (ps := ps) hh (by show A.depth < _; omega) hz hps2 hitb hCd hll hitd.symm (fun ep s5 S5 => ⟨rfl, h _ ep s5 hC0 (hCb ▸ S5)⟩) vs.length 0 0 [] 0 s4 (by omega) (Nat.zero_le _) rfl (Nat.le_refl _) S4
end
end Mine
end
section -- Y7
open PySem PySem.W PySem.Calls PyProof.Rows
namespace Mine
theorem all2_of {α β : Type} {R : α → β → Prop} : ∀ {as : List α} {bs : List β}, as.length = bs.length → (∀ (i : Nat) a b, as[i]? = some a → bs[i]? = some b → R a b) → All2 R as bs
  | [], [], _, _ => .nil
  | [], _ :: _, e, _ => by cases e
  | _ :: _, [], e, _ => by cases e
  | a :: as, b :: bs, e, h => .cons (h 0 a b rfl rfl) (all2_of (by simpa using e) fun i x y hx hy => h (i + 1) x y (by simpa using hx) (by simpa using hy))
theorem ints_of : ∀ {vs : List Value} {ns : List Int}, vs.length = ns.length → (∀ (i : Nat) v n, vs[i]? = some v → ns[i]? = some n → ∃ t, v = .int n t) → IntsAre vs ns
  | [], [], _, _ => .nil
  | [], _ :: _, e, _ => by cases e
  | _ :: _, [], e, _ => by cases e
  | a :: as, b :: bs, e, h => by
    obtain ⟨t, rfl⟩ := h 0 a b rfl rfl
    exact .cons b t (ints_of (by simpa using e) fun i x y hx hy => h (i + 1) x y (by simpa using hx) (by simpa using hy))
theorem str_key {w : World} {k : Str} {key : Value} (h : (strKind PR w).is k key = true) : ∃ t, key = .str k t := Value.isStrOf_shape h
section
variable {w : World} {g : Heap} {L : Addr} {m : List (Str × Value)} {F : List (Addr × List (Str × Value))} {C : Led} {G : Array GenState} {O : OsState} {s : Shared} {A : Around} {E Q : Value → Shared → Prop} {env : Env}
/-- all tuples made since are learnt -/
theorem St.learnTups {C₀ : Led} {G₀ : Array GenState} {s₀ : Shared} {m₀ : List (Str × Value)} (S : St w g L m F C G O s) (S₀ : St w g L m₀ F C₀ G₀ O s₀) :
    ∃ C', St w g L m F C' G O s ∧ Ext C C' ∧ ∀ b vs, s₀.heap.objs.size ≤ b → C b = none → s.heap.get? b = some { cls := .type "tuple", data := .seq vs.toArray } → C' b = some (.tup vs) := by
  classical
  let T : Addr → Prop := fun b => s₀.heap.objs.size ≤ b ∧ ∃ vs : List Value, s.heap.get? b = some { cls := .type "tuple", data := .seq vs.toArray }
  let C' : Led := fun b => match C b with
    | some c => some c
    | none => if h : T b then some (.tup (Classical.choose h.2)) else none
  have e1 : ∀ b c, C b = some c → C' b = some c := fun b c e => by show (match C b with | some c => some c | none => _) = _; rw [e]
  have e2 : ∀ b, C b = none → C' b = if h : T b then some (.tup (Classical.choose h.2)) else none := fun b e => by show (match C b with | some c => some c | none => _) = _; rw [e]
  refine ⟨C', ⟨S.ns, S.keep, S.nl, S.frs, fun a c e => ?_, fun a c e => ?_, S.hi, S.gens, S.os, S.ab⟩, e1, fun b vs hb hn ho => ?_⟩
  · cases q : C a with
    | some c' => rw [e1 a c' q] at e; cases e; exact S.sat a _ q
    | none =>
      rw [e2 a q] at e
      split at e
      · rename_i h; cases e; exact Classical.choose_spec h.2
      · cases e
  · cases q : C a with
    | some c' => rw [e1 a c' q] at e; cases e; exact S.off a _ q
    | none =>
      rw [e2 a q] at e
      split at e
      · rename_i h; cases e
        obtain ⟨n1, n2, n3⟩ := S₀.newOff h.1
        exact ⟨n1, n2, fun _ => n3⟩
      · cases e
  · have hT : T b := ⟨hb, vs, ho⟩
    rw [e2 b hn, dif_pos hT]
    have h2 := Option.some.inj (ho.symm.trans (Classical.choose_spec hT.2))
    have h3 : vs.toArray = (Classical.choose hT.2).toArray := by
      have h4 := congrArg Obj.data h2
      injection h4
    rw [show Classical.choose hT.2 = vs from (congrArg Array.toList h3).symm]
theorem r_addLX {a b : Addr} {xs ys : List Value} (S : St w g L m F C G O s) (ha : C a = some (.lst xs)) (hb : C b = some (.lst ys)) (hz : xs.length + ys.length ≤ 1000) (h : ∀ D s', C D = none → St w g L m F (upd C D (.obj { cls := .type "list", data := .seq (xs ++ ys).toArray })) G O s' → Q (.ref D) s') :
    wpAny (model PR w) A (binaryOp .Add (.ref a) (.ref b)) Q E s := by
  obtain ⟨m₀, F0, hm⟩ := S.pack
  refine add_lists F0 allNews_ok (S.isList ha) (S.isList hb) (fun h' F' N' => ?_) (by rw [sizeLine_eq]; omega)
  have S1 : St w g L m F C G O { s with heap := h' } := S.ofNews hm F' fun p hp => N' p (.tail _ hp)
  exact h _ _ S.free (S1.learn S (Nat.le_refl _) (N' _ (.head _)).1)
/-- list(v), v the items of a dict of texts -/
theorem r_listItemsS {v d : Addr} {tg : Tag} {kvs : List (Str × Value)} {ep : Nat} (hh : A.handled = none) (S : St w g L m F C G O s) (hv : C v = some (.obj (itemsView d))) (hd : C d = some (.ds tg kvs ep)) (hz : kvs.length ≤ 1000)
    (h : ∀ l vs s' C', C l = none → St w g L m F C' G O s' → Ext C C' → C' l = some (.lst vs) → All2 (KvAt C') vs kvs → Q (.ref l) s') : wpAny (model PR w) A (call (.type "list") [.ref v]) Q E s := by
  refine kdx_call hh ⟨_, S.sat v _ hv, rfl, rfl⟩ (S.sat d _ hd) (by rw [sizeLine_eq]; omega) fun h' tk acc c as hk ho hl hG hacc => ?_
  have S1 : St w g L m F C G O { s with heap := h', toks := tk } := S.grown hk S.gens S.os
  have S2 := S1.learn (a := s.heap.objs.size) (c := .lst acc.toList) S (Nat.le_refl _) ⟨_, ho, rfl, c, by simp⟩
  obtain ⟨C', S3, x3, k3⟩ := S2.learnTups S
  have hC0 : C s.heap.objs.size = none := S.free
  refine h _ acc.toList _ C' hC0 S3 ((Ext.upd hC0).trans x3) (x3 _ _ (upd_same ..)) ?_
  rw [hacc]
  refine all2_of (by rw [List.length_map]; exact hl) fun i x p hx hp => ?_
  rw [List.getElem?_map] at hx
  cases e : as[i]? with
  | none => rw [e] at hx; cases hx
  | some a =>
    rw [e] at hx; cases hx
    obtain ⟨key, k, x, h1, h2, h3⟩ := hG.pairs i a e
    rw [hp] at h1; cases h1
    obtain ⟨t, rfl⟩ := str_key h2
    refine ⟨a, t, rfl, k3 a [.str k t, x] (Nat.le_of_lt (hG.above a (List.mem_of_getElem? e))) ?_ h3⟩
    rw [upd_ne (Nat.ne_of_gt (hG.above a (List.mem_of_getElem? e)))]
    exact S.freeLe (Nat.le_of_lt (hG.above a (List.mem_of_getElem? e)))
/-- two dicts of texts that agree -/
theorem r_neKv {a b : Addr} {tg tg2 : Tag} {ka kb : List (Str × Value)} {ea eb : Nat} (S : St w g L m F C G O s) (ha : C a = some (.ds tg ka ea)) (hb : C b = some (.ds tg2 kb eb)) (hu : A.units + 8 < cLine) (hl : ka.length = kb.length)
    (hv : ∀ p ∈ ka, ∃ i t u, p.2 = .int i t ∧ valueAt kb p.1 = some (.int i u)) (h : Q (.bool false) s) : wpAny (model PR w) A (compareOp .NotEq (.ref a) (.ref b)) Q E s := by
  refine keq_ne (knd := strKind PR w) (r := true) (S.notMods ha) (S.notMods hb) (S.dictS ha) (S.dictS hb) (by omega) (fun _ => ?_) ?_
  · have go : ∀ l : List (Str × Value), (∀ p ∈ l, ∃ i t u, p.2 = .int i t ∧ valueAt kb p.1 = some (.int i u)) → KeqHits A.in1 s kb l true := by
      intro l
      induction l with
      | nil => intro _; exact .nil
      | cons p l ih =>
        intro hp
        obtain ⟨k, v⟩ := p
        obtain ⟨i, t, u, e1, e2⟩ := hp _ (.head _)
        dsimp only at e1 e2
        subst e1
        have q := (MeetsSeq.EqGives.int i i t u).at A.in1 s
        rw [beq_self_eq_true] at q
        exact .hit (e := true) (b := true) e2 q (ih fun p hm => hp p (.tail _ hm))
    exact go ka hv
  · rw [show (!(ka.length == kb.length && true)) = false by simp [hl]]
    exact h
theorem kvsOk_ne {ka kb : List (Str × Value)} {x : Int × Option Int} (h1 : KvsOk ka x) (h2 : KvsOk kb x) : ka.length = kb.length ∧ ∀ p ∈ ka, ∃ i t u, p.2 = .int i t ∧ valueAt kb p.1 = some (.int i u) := by
  obtain ⟨i, o⟩ := x
  cases o with
  | none =>
    obtain ⟨t, rfl⟩ := h1
    obtain ⟨t', rfl⟩ := h2
    refine ⟨rfl, fun p hp => ?_⟩
    rcases List.mem_cons.mp hp with rfl | hp
    · exact ⟨i, t, t', rfl, rfl⟩
    · cases hp
  | some v =>
    obtain ⟨t, u, rfl⟩ := h1
    obtain ⟨t', u', rfl⟩ := h2
    refine ⟨rfl, fun p hp => ?_⟩
    rcases List.mem_cons.mp hp with rfl | hp
    · exact ⟨i, t, t', rfl, by simp [valueAt]⟩
    · rcases List.mem_cons.mp hp with rfl | hp
      · exact ⟨v, u, u', rfl, rfl⟩
      · cases hp
/-- what a tuple, a list, a dict holds is gathered -/
theorem c_seqT {t : Addr} {vs : List Value} {Q : List Value → Shared → Prop} (S : St w g L m F C G O s) (ht : C t = some (.tup vs)) (hz : vs.length ≤ 1000) (h : ∀ s', St w g L m F C G O s' → Q vs s') : wpAny (model PR w) A (collect (.ref t)) Q E s := by
  obtain ⟨o, ho, hc, n, hd⟩ := S.isTup ht
  exact wpAny_collect_seq t (.inr rfl) ho hc hd (fun h' hk => h _ (S.grown hk S.gens S.os)) (by rw [sizeLine_eq]; simp; omega)
theorem c_seqL {t : Addr} {vs : List Value} {Q : List Value → Shared → Prop} (S : St w g L m F C G O s) (ht : C t = some (.lst vs)) (hz : vs.length ≤ 1000) (h : ∀ s', St w g L m F C G O s' → Q vs s') : wpAny (model PR w) A (collect (.ref t)) Q E s := by
  obtain ⟨o, ho, hc, n, hd⟩ := S.isList ht
  exact wpAny_collect_seq t (.inl rfl) ho hc hd (fun h' hk => h _ (S.grown hk S.gens S.os)) (by rw [sizeLine_eq]; simp; omega)
theorem c_dictI {d : Addr} {tg : Tag} {kvs : List (Int × Value)} {ep : Nat} {Q : List Value → Shared → Prop} (hh : A.handled = none) (S : St w g L m F C G O s) (hd : C d = some (.di tg kvs ep)) (hz : kvs.length ≤ 1000) (h : ∀ vs s', St w g L m F C G O s' → IntsAre vs (kvs.map (·.1)) → Q vs s') :
    wpAny (model PR w) A (collect (.ref d)) Q E s := by
  refine kdu_collect (kdl_dict (knd := intKind PR w) (kvs := kvs) (ep := ep) (S.notMods hd)) hh (S.sat d _ hd) (by rw [sizeLine_eq]; omega) fun h' tk acc hk hacc => ?_
  refine h _ _ (S.grown (s' := { s with heap := h', toks := tk }) hk S.gens S.os) ?_
  refine ints_of (by rw [Array.length_toList, hacc.1, List.length_map]) fun i v n hv hn => ?_
  obtain ⟨k, x, h1, h2⟩ := hacc.2 i v (by rw [← Array.getElem?_toList]; exact hv)
  rw [List.getElem?_map, h1] at hn; cases hn
  exact Value.isInt_shape h2
end
end Mine
end
section -- Z1
open PySem PySem.W PySem.Calls PyProof.Rows
namespace Mine
example : hd.heap_39 = hd.heap_39 ∧ PySem.Challenge.rw_ez0179_01 = PySem.Challenge.rw_ez0179_01 := by k_fill; exact ⟨rfl, rfl⟩
theorem nb_abs (w : World) : nsIn (hd.heap_39 w.params) mainGlobals "abs" = some none := by kernel_rfl
theorem nb_min (w : World) : nsIn (hd.heap_39 w.params) mainGlobals "min" = some none := by kernel_rfl
theorem nb_max (w : World) : nsIn (hd.heap_39 w.params) mainGlobals "max" = some none := by kernel_rfl
theorem nb_dict (w : World) : nsIn (hd.heap_39 w.params) mainGlobals "dict" = some none := by kernel_rfl
theorem nb_sorted (w : World) : nsIn (hd.heap_39 w.params) mainGlobals "sorted" = some none := by kernel_rfl
theorem nb_range (w : World) : nsIn (hd.heap_39 w.params) mainGlobals "range" = some none := by kernel_rfl
theorem bi_abs : bootBuiltins "abs" = some (.builtin "abs") := by kernel_rfl
theorem bi_min : bootBuiltins "min" = some (.builtin "min") := by kernel_rfl
theorem bi_max : bootBuiltins "max" = some (.builtin "max") := by kernel_rfl
theorem bi_sorted : bootBuiltins "sorted" = some (.builtin "sorted") := by kernel_rfl
theorem bi_dict : bootBuiltins "dict" = some (.type "dict") := by kernel_rfl
theorem bi_range : bootBuiltins "range" = some (.type "range") := by kernel_rfl
/-- what the law reads out of its script -/
def cellOf (ns : List Int) (at_ : Nat) : Int := match ns[at_]? with
  | some n => if n < 0 then -n else n
  | none => 7 * at_ + 3
section
variable {p : Program} {loose : List Str} {mg mb : Str → Option Value}
  {w : World} {g : Heap} {L : Addr} {m : List (Str × Value)} {F : List (Addr × List (Str × Value))} {C : Led} {G : Array GenState} {O : OsState} {s : Shared} {A : Around} {E Q : Value → Shared → Prop}
theorem r_lenH {t : Addr} {vs : List Value} (S : St w g L m F C G O s) (ht : s.heap.IsList t vs.toArray) (hz : vs.length ≤ 1000) (h : ∀ u s', St w g L m F C G O s' → Q (.int vs.length u) s') : wpAny (model PR w) A (call (.builtin "len") [.ref t]) Q E s :=
  call_len_list ht (by simp; omega) (by simpa using h _ _ (S.toks _))
/-- _law_cell(script, at) -/
theorem cell_spec (S : St w g L m F C G O s) (D : Wd (hd.heap_39 w.params) p loose mg mb g) (hroom : A.depth + 4 < recursionLimit) {sc : Addr} {vs : List Value} {ns : List Int} (hsc : g.IsList sc vs.toArray) (hi : IntsAre vs ns) (hn : ns.length ≤ 63) {k : Nat} (hk : k ≤ 100) {t : Tok}
    (h : ∀ u s', St w g L m F C G O s' → Q (.int (cellOf ns k) u) s') : wpAny (model PR w) A (call (.ref 632) [.ref sc, .int k t]) Q E s := by
  have hlen := IntsAre.length hi
  have isl : ∀ {L' m' F' s'}, St w g L' m' F' C G O s' → s'.heap.IsList sc vs.toArray := fun S' => let ⟨o, ho, r⟩ := hsc; ⟨o, S'.keep _ _ ho, r⟩
  refine wpAny_call ?_
  refine' r_enter (binds := [(Str.ofString "script", .ref sc), (Str.ofString "at", .int k t)]) S D ?ho ?hcd ?room ?hb ?hl ?_ ?c1 ?c2 ?c3 ?c4
  case ho => k_is
  case hcd => k_is
  case room => omega
  case hb => exact .of_eq rfl
  case hl => exact locs rfl
  case c1 => rfl
  case c2 => rfl
  case c3 => rfl
  case c4 => decide
  intro L1 s1 S1
  refine wpAny_execs_cons (wpAny_Return_some (wpAny_IfExp (wpAny_isTrue_Compare1 (r_loc S1 rfl ?_))))
  refine r_bcall1 S1 D (nb_len w) bi_len (by decide) (r_loc S1 rfl ?_)
  refine r_lenH S1 (isl S1) (by omega) fun u2 s2 S2 => ?_
  refine PySem.P.lt_int (wpAny_truthy_bool ?_)
  have e0 : ((k : Int) < (vs.length : Int)) ↔ k < ns.length := by omega
  by_cases hc : k < ns.length
  · rw [decide_eq_true (e0.mpr hc)]
    rw [if_pos rfl]
    refine r_bcall1 S2 D (nb_abs w) bi_abs (by decide) (r_tcall1 S2 D (nb_int w) bi_int (by decide) ?_)
    refine Subscript_ ?_
    refine r_loc S2 rfl ?_
    refine r_loc S2 rfl ?_
    obtain ⟨t2, ht2⟩ := IntsAre.get hi k _ (List.getElem?_eq_getElem hc)
    refine tail_any (isl S2).typeIs PySem.F.slot_list_getitem.lookup (wpAny_getItem_list (isl S2) (by omega) (by omega) (by simpa using ht2) ?_) (by with_unfolding_all rfl)
    refine PySem.call_int_int ?_
    refine r_abs S2 fun v s3 S3 => ?_
    have e1 : cellOf ns k = if ns[k] < 0 then -ns[k] else ns[k] := by unfold cellOf; rw [List.getElem?_eq_getElem hc]
    rw [← e1]
    exact h v s3 (S.pop S3)
  · rw [decide_eq_false fun q => hc (e0.mp q)]
    rw [if_neg Bool.false_ne_true]
    refine wpAny_BinOp (wpAny_BinOp (r_int S2 fun t3 s3 S3 => ?_))
    refine r_loc S3 rfl ?_
    refine PySem.P.mul_int ?_ ?_
    · refine r_int (S3.toks _) fun t4 s4 S4 => PySem.P.add_int ?_
      have e1 : cellOf ns k = 7 * k + 3 := by unfold cellOf; rw [List.getElem?_eq_none (by omega)]
      rw [← e1]
      exact h _ _ (S.pop (S4.toks _))
    · exact IntMulOk.of_left (by decide)
end
end Mine
end
section -- Z2
open PySem PySem.W PySem.Calls PyProof.Rows
namespace Mine
example : hd.heap_39 = hd.heap_39 ∧ PySem.Challenge.rw_ez0179_01 = PySem.Challenge.rw_ez0179_01 := by k_fill; exact ⟨rfl, rfl⟩
def known1 (ns : List Int) (k : Int) : List Int := if k ∈ ns then ns else ns ++ [k]
def known (ns ks : List Int) : List Int := ks.foldl known1 ns
theorem known1_len (ns : List Int) (k : Int) : (known1 ns k).length ≤ ns.length + 1 := by unfold known1; split <;> simp
theorem known_take {ns ks : List Int} {i : Nat} {k : Int} (h : ks[i]? = some k) : known ns (ks.take (i + 1)) = known1 (known ns (ks.take i)) k := by
  rw [List.take_add_one, h]; unfold known; rw [List.foldl_append]; rfl
section
variable {p : Program} {loose : List Str} {mg mb : Str → Option Value}
  {w : World} {g : Heap} {L : Addr} {m : List (Str × Value)} {F : List (Addr × List (Str × Value))} {C : Led} {G : Array GenState} {O : OsState} {s : Shared} {A : Around} {E Q : Value → Shared → Prop}
/-- _law_known(nodes, some) -/
theorem known_spec (S : St w g L m F C G O s) (D : Wd (hd.heap_39 w.params) p loose mg mb g) (hroom : A.depth + 4 < recursionLimit) (hh : A.handled = none) {l q : Addr} {vs ws : List Value} {ns ks : List Int} (hl : C l = some (.lst vs)) (hi : IntsAre vs ns) (hq : C q = some (.lst ws)) (hk : IntsAre ws ks)
    (hz : ns.length + ks.length ≤ 500)
    (h : ∀ r s' C' vs', St w g L m F C' G O s' → Ext C C' → C' r = some (.lst vs') → IntsAre vs' (known ns ks) → Q (.ref r) s') : wpAny (model PR w) A (call (.ref 649) [.ref l, .ref q]) Q E s := by
  have hwk := IntsAre.length hk
  refine wpAny_call ?_
  refine' r_enter (binds := [(Str.ofString "nodes", .ref l), (Str.ofString "some", .ref q)]) S D ?ho ?hcd ?room ?hb ?hl ?_ ?c1 ?c2 ?c3 ?c4
  case ho => k_is
  case hcd => k_is
  case room => omega
  case hb => exact .of_eq rfl
  case hl => exact locs rfl
  case c1 => rfl
  case c2 => rfl
  case c3 => rfl
  case c4 => decide
  intro L1 s1 S1
  refine wpAny_execs_cons (wpAny_For (hs := fun _ => rfl) (r_loc S1 rfl ?_))
  refine r_iterL S1 hq fun it s2 hit S2 => ?_
  have X2 := Ext.upd (c := .lit q 0) hit
  refine r_loop (iter_list .nm) (fun i m' C' G' => G' = G ∧ Ext C C' ∧ ∃ r vs', m'.lookup (Str.ofString "nodes") = some (.ref r) ∧ C' r = some (.lst vs') ∧ r ≠ it ∧ IntsAre vs' (known ns (ks.take i)) ∧ (known ns (ks.take i)).length ≤ ns.length + i) hh (by show A.depth + 1 + 0 < _; omega)
    S2 ⟨upd_same .., X2 _ _ hq⟩ ⟨rfl, X2, l, vs, rfl, X2 _ _ hl, (by rintro rfl; rw [hl] at hit; cases hit), by rw [List.take_zero]; exact hi, by rw [List.take_zero]; exact Nat.le_refl _⟩ ?_ ?_
  · intro i m3 C3 G3 C4 G4 v s3 E' hlt hI hJ hKP hGB hI' hP S3
    obtain ⟨rfl, x3, r, vs', hm, hr, hrit, hvs, hln⟩ := hJ
    have hG : G4 = G3 := hGB
    subst hG
    obtain ⟨n, tn, rfl, hn⟩ := hk.at i v hP
    have r4 : C4 r = some (.lst vs') := hKP _ _ hrit hr
    have x4 : Ext C C4 := fun b c e => hKP b c (by rintro rfl; rw [hit] at e; cases e) (x3 b c e)
    rw [known_take hn]
    generalize known ns (ks.take i) = N at hvs hln ⊢
    have hlv := IntsAre.length hvs
    refine r_asN S3 fun s4 S4 => ?_
    refine wpAny_execs_cons (wpAny_Assign_Name (hs := rfl) ?_)
    refine wpAny_BinOp (r_loc S4 hm ?_)
    refine wpAny_IfExp (wpAny_isTrue_Compare1 (r_loc S4 rfl (r_loc S4 hm (r_notinL S4 r4 hvs (wpAny_truthy_bool ?_)))))
    by_cases hc : n ∈ N
    · rw [decide_eq_true hc]
      rw [if_neg (by decide)]
      refine r_lst (wpAny_items_nil ⟨Nat.zero_le _, _, _, _, _, _, _, _, S4, fun D s5 hD S5 => ?_⟩)
      refine r_addL S5 (upd_old r4 hD) (upd_same ..) (by simp; omega) fun D2 s6 hD2 S6 => ?_
      refine r_store S6 fun s7 S7 => wpAny_execs_nil ?_
      have x7 : Ext C4 (upd (upd C4 D (.lst [])) D2 (.lst (vs' ++ []))) := (Ext.upd hD).trans (Ext.upd hD2)
      have e : known1 N n = N := by unfold known1; rw [if_pos hc]
      refine ⟨_, _, _, S7, ⟨x7 _ _ hI'.1, x7 _ _ hI'.2⟩, rfl, x4.trans x7, D2, _, rfl, upd_same .., ?_, ?_, ?_⟩
      · rintro rfl; rw [upd_old hI'.1 hD] at hD2; cases hD2
      · rw [List.append_nil, e]; exact hvs
      · rw [e]; omega
    · rw [decide_eq_false hc]
      rw [if_pos (by decide)]
      refine r_lst (wpAny_items_cons (he := rfl) (r_loc S4 rfl (wpAny_items_nil ⟨by simp, _, _, _, _, _, _, _, S4, fun D s5 hD S5 => ?_⟩)))
      refine r_addL S5 (upd_old r4 hD) (upd_same ..) (by simp; omega) fun D2 s6 hD2 S6 => ?_
      refine r_store S6 fun s7 S7 => wpAny_execs_nil ?_
      have x7 : Ext C4 (upd (upd C4 D (.lst [.int n tn])) D2 (.lst (vs' ++ [.int n tn]))) := (Ext.upd hD).trans (Ext.upd hD2)
      have e : known1 N n = N ++ [n] := by unfold known1; rw [if_neg hc]
      refine ⟨_, _, _, S7, ⟨x7 _ _ hI'.1, x7 _ _ hI'.2⟩, rfl, x4.trans x7, D2, _, rfl, upd_same .., ?_, ?_, ?_⟩
      · rintro rfl; rw [upd_old hI'.1 hD] at hD2; cases hD2
      · rw [e]; exact ints_snoc hvs n tn
      · rw [e]; simp; omega
  · intro m3 C3 G3 C4 G4 s3 hI hJ hKP hGB S3
    obtain ⟨rfl, x3, r, vs', hm, hr, hrit, hvs, hln⟩ := hJ
    have hG : G4 = G3 := hGB
    subst hG
    have r4 : C4 r = some (.lst vs') := hKP _ _ hrit hr
    have x4 : Ext C C4 := fun b c e => hKP b c (by rintro rfl; rw [hit] at e; cases e) (x3 b c e)
    refine wpAny_execs_cons (wpAny_Return_some (r_loc S3 hm ?_))
    rw [hwk, List.take_length] at hvs
    exact h r s3 C4 vs' (S.pop S3) x4 r4 hvs
end
end Mine
end
section -- Z3
open PySem PySem.W PySem.Calls PyProof.Rows
namespace Mine
example : hd.heap_39 = hd.heap_39 ∧ PySem.Challenge.rw_ez0179_01 = PySem.Challenge.rw_ez0179_01 := by k_fill; exact ⟨rfl, rfl⟩
/-- an edge as the law tells it: a pair, with its weight and what else it carries -/
abbrev Edg := (Int × Int) × (Int × Option Int)
def EdgeAt (C : Led) (v : Value) (e : Edg) : Prop := ∃ a p d kvs ep, v = .ref a ∧ C a = some (.tup [p, .ref d]) ∧ PairAt C p e.1 ∧ C d = some (.ds .none kvs ep) ∧ KvsOk kvs e.2
theorem EdgeAt.keeps {C C' : Led} (k : KeepsP C C') {v : Value} {e : Edg} (h : EdgeAt C v e) : EdgeAt C' v e := by
  obtain ⟨a, p, d, kvs, ep, h1, h2, h3, h4, h5⟩ := h
  exact ⟨a, p, d, kvs, ep, h1, k _ _ h2 trivial, h3.keeps k, k _ _ h4 rfl, h5⟩
theorem EdgeAt.ext {C C' : Led} (k : Ext C C') {v : Value} {e : Edg} (h : EdgeAt C v e) : EdgeAt C' v e := h.keeps k.keepsP
def prOf (u v : Int) : Int × Int := (min u v, max u v)
def wout (es : List Edg) (q : Int × Int) : List Edg := es.filter fun e => decide (e.1 ≠ q)
theorem filter_take {α : Type} (f : α → Bool) {l : List α} {i : Nat} {a : α} (h : l[i]? = some a) : (l.take (i + 1)).filter f = (l.take i).filter f ++ if f a = true then [a] else [] := by
  rw [List.take_add_one, h, List.filter_append]
  congr 1
  show List.filter f [a] = _
  simp [List.filter_cons]
section
variable {p : Program} {loose : List Str} {mg mb : Str → Option Value}
  {w : World} {g : Heap} {L : Addr} {m : List (Str × Value)} {F : List (Addr × List (Str × Value))} {C : Led} {G : Array GenState} {O : OsState} {s : Shared} {A : Around} {E Q : Value → Shared → Prop}
theorem r_bcall2 {env : Env} {K : Frag} {x : Str} {id : String} {xp pos : Pos} {e1 e2 : PySem.Expr} (S : St w g L m F C G O s) (D : Wd K p loose mg mb g) (hK : nsIn K mainGlobals x = some none) (hv : bootBuiltins x = some (.builtin id)) (hn : x ≠ "__name__")
    (h : wpAny (model PR w) A (eval e1 env) (fun v1 s₁ => wpAny (model PR w) A (eval e2 env) (fun v2 s₂ => wpAny (model PR w) A (call (.builtin id) [v1, v2]) Q E s₂) E s₁) E s)
    (he : starEach [e1, e2] env = (false, eval e1 env) :: starEach [e2] env := by rfl) (he2 : starEach [e2] env = (false, eval e2 env) :: starEach [] env := by rfl)
    (hc : eval (.Call (.Name x xp) [e1, e2] [] pos) env = (do callWith pos (← eval (.Name x xp) env) [] (backTo pos (starEach [e1, e2] env)) (backToKw pos (keywordEach [] env))) := by rfl)
    (hk : env.scope.kind = .function := by rfl) (hx : env.kindOf x = some .globalImplicit := by rfl) (hd : (x == ("__debug__" : Str)) = false := by decide) (hg : env.globals = mainGlobals := by rfl) (hb : env.builtins = builtinsNs := by rfl) :
    wpAny (model PR w) A (eval (.Call (.Name x xp) [e1, e2] [] pos) env) Q E s := by
  refine Call_ (he := hc) (r_bi S D hK hv hn ?_ hk hx hd hg hb)
  refine PyProof.Rows.callWith_builtin1 (he := he) (wpAny_items_cons (he := he) (wpAny_mono h (fun v s₁ h₁ => wpAny_items_cons (he := he2) (wpAny_mono h₁ (fun v2 s2 h2 => wpAny_items_nil h2) fun _ _ e => e)) fun _ _ e => e)) (by rw [he2]; rfl)
theorem r_if0 {cenv : Env} {Q : Bool → Shared → Prop} (h : Q true s) : wpAny (model PR w) A (forIn ([] : List PySem.Expr) true fun c r => if r = true then do let ok ← isTrue c cenv (eval c cenv); pure (ForInStep.yield ok) else pure (ForInStep.yield r)) Q E s := by
  rw [List.forIn_nil]; exact wpAny_pure h
theorem r_if1 {cenv : Env} {c : PySem.Expr} {Q : Bool → Shared → Prop} (h : wpAny (model PR w) A (isTrue c cenv (eval c cenv)) Q E s) : wpAny (model PR w) A (forIn [c] true fun c r => if r = true then do let ok ← isTrue c cenv (eval c cenv); pure (ForInStep.yield ok) else pure (ForInStep.yield r)) Q E s := by
  rw [List.forIn_cons]
  refine wpAny_bind ?_
  rw [if_pos rfl]
  refine wpAny_bind (wpAny_mono h (fun b s' hb => wpAny_pure ?_) fun _ _ e => e)
  show wpAny _ _ (forIn [] b _) _ _ _
  rw [List.forIn_nil]; exact wpAny_pure hb
theorem not_dec (a b : Int × Int) : (!decide ([a.1, a.2] = [b.1, b.2])) = decide (a ≠ b) := by
  rw [Bool.eq_iff_iff]
  simp [Prod.ext_iff]
theorem pair_ints {C : Led} {v : Value} {q : Int × Int} (h : PairAt C v q) : ∃ a xs, v = .ref a ∧ C a = some (.lst xs) ∧ IntsAre xs [q.1, q.2] := by
  obtain ⟨a, t, u, e, h⟩ := h
  exact ⟨a, _, e, h, .cons _ _ (.cons _ _ .nil)⟩
/-- _law_without(edges, one, other) -/
theorem without_spec (S : St w g L m F C G O s) (D : Wd (hd.heap_39 w.params) p loose mg mb g) (hroom : A.depth + 4 < recursionLimit) (hu : A.units + 128 < cLine) (hh : A.handled = none) {l : Addr} {vs : List Value} {es : List Edg} (hl : C l = some (.lst vs)) (he : All2 (EdgeAt C) vs es) (hz : es.length ≤ 500) {u v : Int} {t1 t2 : Tok}
    (h : ∀ r s' C' vs', St w g L m F C' G O s' → Ext C C' → C' r = some (.lst vs') → All2 (EdgeAt C') vs' (wout es (prOf u v)) → Q (.ref r) s') : wpAny (model PR w) A (call (.ref 642) [.ref l, .int u t1, .int v t2]) Q E s := by
  have hlen := he.length
  refine wpAny_call ?_
  refine' r_enterC (binds := [(Str.ofString "edges", .ref l), (Str.ofString "one", .int u t1), (Str.ofString "other", .int v t2)]) S D ?ho ?hcd ?room ?hb (OkC.of (by kernel_rfl)) ?_ ?c1 ?c2 ?c3
  case ho => k_is
  case hcd => k_is
  case room => omega
  case hb => exact .of_eq rfl
  case c1 => rfl
  case c2 => rfl
  case c3 => rfl
  intro L1 C1 s1 N1 S1
  have gone := N1.get (Str.ofString "one") _ rfl
  have goth := N1.get (Str.ofString "other") _ rfl
  refine wpAny_execs_cons (wpAny_Return_some ?_)
  rw [eval_ListComp]
  refine r_compL (R := fun i Cx ys => All2 (EdgeAt Cx) ys (wout (es.take i) (prOf u v))) (vs := vs) .nm ⟨rfl, rfl, by decide, by decide⟩ hh (by show A.depth + 1 < _; omega) (by omega) (r_loc S1 rfl ⟨rfl, N1.ext _ _ hl, S1⟩) (fun _ => .nil) (fun i C C' ys hr x => hr.imp fun _ _ q => q.ext x) ?_ ?_
  · intro Lc i mc C2 x s2 E' ys hx X2 hr S2
    obtain ⟨e, he1, he2⟩ := he.get hx
    refine r_asN S2 fun s3 S3 => ?_
    obtain ⟨a, pv, d, kvs, ep, rfl, ha, hp, hd, hk⟩ := he2
    have ha3 := X2 _ _ (N1.ext _ _ ha)
    obtain ⟨pa, pxs, rfl, hpa, hpi⟩ := pair_ints (hp.ext (N1.ext.trans X2))
    have c1 : C2 (L1 + 1) = some (.cv (some (.int u t1))) := X2 _ _ gone.1
    have c2 : C2 (L1 + 1 + 1) = some (.cv (some (.int v t2))) := X2 _ _ goth.1
    refine r_if1 (wpAny_isTrue_Compare1 (Subscript_ (r_loc S3 rfl (r_int S3 fun t4 s4 S4 => r_subT (j := 0) S4 ha3 rfl (by omega) ?_))))
    refine r_lst (wpAny_items_cons (he := rfl) ?_)
    refine r_bcall2 S4 D (nb_min w) bi_min (by decide) (r_cell S4 rfl c1 (r_cell S4 rfl c2 (r_min hh S4 fun v5 s5 S5 => ?_)))
    refine wpAny_items_cons (he := rfl) (r_bcall2 S5 D (nb_max w) bi_max (by decide) (r_cell S5 rfl c1 (r_cell S5 rfl c2 (r_max hh S5 fun v6 s6 S6 => ?_))))
    refine wpAny_items_nil ⟨by simp, _, _, _, _, _, _, _, S6, fun t7 s7 ht7 S7 => ?_⟩
    refine r_neI S7 (upd_old hpa ht7) (upd_same ..) hpi (.cons _ _ (.cons _ _ .nil)) (by show A.units + 3 + 64 < _; omega) (wpAny_truthy_bool ?_)
    rw [show (!decide ([e.1.1, e.1.2] = [min u v, max u v])) = decide (e.1 ≠ prOf u v) from not_dec e.1 (prOf u v)]
    by_cases hne : e.1 ≠ prOf u v
    · rw [decide_eq_true hne, if_pos rfl]
      refine r_loc S7 rfl ?_
      refine ⟨_, _, S7, Ext.upd ht7, fun Cx xb _ hrx => ?_⟩
      unfold wout
      rw [filter_take _ he1, if_pos (decide_eq_true hne)]
      exact hrx.snoc (EdgeAt.ext (N1.ext.trans xb) ⟨a, _, d, kvs, ep, rfl, ha, hp, hd, hk⟩)
    · rw [decide_eq_false hne, if_neg Bool.false_ne_true]
      refine ⟨_, _, S7, Ext.upd ht7, fun Cx xb hrx => ?_⟩
      unfold wout
      rw [filter_take _ he1, if_neg (by rw [decide_eq_false hne]; exact Bool.false_ne_true), List.append_nil]
      exact hrx
  · intro D2 Lc mc C2 s2 ys hD2 X2 hr hD2' S2
    rw [hlen, List.take_length] at hr
    refine compPost_val S1 S2 fun s3 S3 => ?_
    exact h D2 s3 C2 ys (S.pop S3) (N1.ext.trans X2) hD2' hr
end
end Mine
end
section -- Z4
open PySem PySem.W PySem.Calls PyProof.Rows
namespace Mine
example : hd.heap_39 = hd.heap_39 ∧ PySem.Challenge.rw_ez0179_01 = PySem.Challenge.rw_ez0179_01 := by k_fill; exact ⟨rfl, rfl⟩
def found (es : List Edg) (q : Int × Int) : Option (Int × Option Int) := ((es.filter fun e => decide (e.1 = q)).head?).map (·.2)
def joined (es : List Edg) (q : Int × Int) (x : Int × Option Int) : List Edg := wout es q ++ [(q, mrg (found es q) x)]
theorem merged_two {kvs kd : List (Str × Value)} {o x : Int × Option Int} (h : KvsOk kvs o) (hx : KvsOk kd x) : KvsOk (merged [] (kvs ++ kd)) (mrg (some o) x) := by
  have e0 : merged [] kvs = kvs := by
    refine merged_nil_of_nodup kvs ?_
    obtain ⟨i, o'⟩ := o
    cases o' with
    | none => obtain ⟨t, rfl⟩ := h; simp
    | some v =>
      obtain ⟨t, u, rfl⟩ := h
      show ([Str.ofString "w", Str.ofString "v"] : List Str).Nodup
      decide
  have e1 : merged [] (kvs ++ kd) = merged kvs kd := by
    unfold merged at e0 ⊢
    rw [List.foldl_append, e0]
  rw [e1]
  obtain ⟨n, x'⟩ := x
  cases x' with
  | none =>
    obtain ⟨t, rfl⟩ := hx
    exact kvs_w h n t
  | some k =>
    obtain ⟨t, u, rfl⟩ := hx
    have := kvs_v (kvs_w h n t) k u
    exact this
section
variable {w : World} {g : Heap} {L : Addr} {m : List (Str × Value)} {F : List (Addr × List (Str × Value))} {C : Led} {G : Array GenState} {O : OsState} {s : Shared} {A : Around} {E : Value → Shared → Prop} {env : Env}
/-- y = [.. for .. in l] -/
theorem r_asCompL {elt target iter : PySem.Expr} {ifs : List PySem.Expr} {scope : Scope} {cl : List (Str × Addr)} {pos spos py : Pos} {y : Str} {l : Addr} {vs : List Value} {Q : Flow → Shared → Prop}
    (hsw : swapsWith (.ListComp elt [⟨target, iter, ifs, 0⟩] scope pos) (some (.Name y py)) spos.line env = pure true) (S₀ : St w g L m F C G O s)
    (ht : TgOk target) (R : Nat → Led → List Value → Prop) (hb : BlkOk scope env cl) (hh : A.handled = none) (hd : A.depth < recursionLimit) (hn : vs.length ≤ 1000)
    (hiter : wpAny (model PR w) A (eval iter env) (fun x s₁ => x = .ref l ∧ C l = some (.lst vs) ∧ St w g L m F C G O s₁) E s)
    (hR0 : ∀ C, R 0 C []) (hRm : ∀ i C C' ys, R i C ys → Ext C C' → R i C' ys)
    (step : ∀ Lc i mc C' v s E' ys, vs[i]? = some v → Ext C C' → R i C' ys → St w g Lc mc ((L, m) :: F) C' G O s →
      wpAny (model PR w) A (assign target (compEnvC scope cl Lc env) v) (fun _ s₂ =>
        wpAny (model PR w) A (forIn ifs true fun c r => if r = true then do let ok ← isTrue c (compEnvC scope cl Lc env) (eval c (compEnvC scope cl Lc env)); pure (ForInStep.yield ok) else pure (ForInStep.yield r)) (fun ok s₃ =>
          if ok = true then wpAny (model PR w) A (eval elt (compEnvC scope cl Lc env)) (fun x s₄ => ∃ mc' C'', St w g Lc mc' ((L, m) :: F) C'' G O s₄ ∧ Ext C' C'' ∧ ∀ Cx, Ext C Cx → (∀ b c, C' b = none → C'' b = some c → Cx b = some c) → R i Cx ys → R (i + 1) Cx (ys ++ [x])) E' s₃
          else ∃ mc' C'', St w g Lc mc' ((L, m) :: F) C'' G O s₃ ∧ Ext C' C'' ∧ ∀ Cx, Ext C Cx → R i Cx ys → R (i + 1) Cx ys) E' s₂) E' s)
    (fin : ∀ D C' s ys, C D = none → Ext C C' → R vs.length C' ys → C' D = some (.lst ys) → St w g L ((y, .ref D) :: m) F C' G O s → Q .next s)
    (hs : ∀ x, foldedSetIterable iter env x = pure x := by intro _; rfl)
    (hk : env.scope.kind = .function := by rfl) (hx : env.kindOf y = some .local := by rfl) (hL : env.locals = L := by rfl) :
    wpAny (model PR w) A (exec (.Assign [.Name y py] (.ListComp elt [⟨target, iter, ifs, 0⟩] scope pos) spos) env) Q E s := by
  rw [exec_Assign_Name_used _ _ _ _ hsw]
  refine wpAny_bind (wpAny_standAt (wpAny_bind ?_))
  show wpAny _ A (do let _ ← comprehension (.ListComp elt [⟨target, iter, ifs, 0⟩] scope pos) scope env _ (newList []) false (eval iter env) (some (assign (.Name y py) env))) _ _ s
  refine wpAny_bind (wpAny_mono (r_compL (use := some (assign (.Name y py) env)) (Q := fun _ s' => Q .next s') ht R hb hh hd hn hiter hR0 hRm step (fun D Lc mc C' s' ys h1 h2 h3 h4 S' => ?_) hs) (fun _ s' hq => wpAny_pure (wpAny_pure hq)) fun _ _ e => e)
  exact compPost_as S₀ S' (fun s2 S2 => fin D C' s2 ys h1 h2 h3 h4 S2) hk hx hL
end
section
variable {p : Program} {loose : List Str} {mg mb : Str → Option Value}
  {w : World} {g : Heap} {L : Addr} {m : List (Str × Value)} {F : List (Addr × List (Str × Value))} {C : Led} {G : Array GenState} {O : OsState} {s : Shared} {A : Around} {E Q : Value → Shared → Prop}
theorem eq_dec (a b : Int × Int) : decide ([a.1, a.2] = [b.1, b.2]) = decide (a = b) := by
  rw [Bool.eq_iff_iff]
  simp [Prod.ext_iff]
/-- _law_joined(edges, one, other, data) -/
theorem joined_spec (S : St w g L m F C G O s) (D : Wd (hd.heap_39 w.params) p loose mg mb g) (hroom : A.depth + 8 < recursionLimit) (hu : A.units + 128 < cLine) (hh : A.handled = none) {l d : Addr} {vs : List Value} {es : List Edg} {kd : List (Str × Value)} {ed : Nat} {xx : Int × Option Int}
    (hl : C l = some (.lst vs)) (he : All2 (EdgeAt C) vs es) (hd : C d = some (.ds .none kd ed)) (hkd : KvsOk kd xx) (hz : es.length ≤ 300) {u v : Int} {t1 t2 : Tok}
    (h : ∀ r s' C' vs', St w g L m F C' G O s' → Ext C C' → C' r = some (.lst vs') → All2 (EdgeAt C') vs' (joined es (prOf u v) xx) → Q (.ref r) s') : wpAny (model PR w) A (call (.ref 637) [.ref l, .int u t1, .int v t2, .ref d]) Q E s := by
  have hlen := he.length
  refine wpAny_call ?_
  refine' r_enterC (binds := [(Str.ofString "edges", .ref l), (Str.ofString "one", .int u t1), (Str.ofString "other", .int v t2), (Str.ofString "data", .ref d)]) S D ?ho ?hcd ?room ?hb (OkC.of (by kernel_rfl)) ?_ ?c1 ?c2 ?c3
  case ho => k_is
  case hcd => k_is
  case room => omega
  case hb => exact .of_eq rfl
  case c1 => rfl
  case c2 => rfl
  case c3 => rfl
  intro L1 C1 s1 N1 S1
  have gp := N1.get (Str.ofString "pair") _ rfl
  refine wpAny_execs_cons (wpAny_Assign_Name (hs := rfl) ?_)
  refine r_lst (wpAny_items_cons (he := rfl) (r_bcall2 S1 D (nb_min w) bi_min (by decide) (r_loc S1 rfl (r_loc S1 rfl (r_min hh S1 fun v2 s2 S2 => ?_)))))
  refine wpAny_items_cons (he := rfl) (r_bcall2 S2 D (nb_max w) bi_max (by decide) (r_loc S2 rfl (r_loc S2 rfl (r_max hh S2 fun v3 s3 S3 => ?_))))
  refine wpAny_items_nil ⟨by simp, _, _, _, _, _, _, _, S3, fun pa s4 hpa S4 => ?_⟩
  refine r_storec S4 rfl (upd_old gp.1 hpa) fun s5 S5 => ?_
  have hpc : pa ≠ L1 + 1 := by rintro rfl; rw [gp.1] at hpa; cases hpa
  generalize hC5 : upd (upd C1 pa (.lst [.int (min u v) v2, .int (max u v) v3])) (L1 + 1) (.cv (some (.ref pa))) = C5 at S5
  have X5 : Ext C C5 := fun b c e => by
    rw [← hC5, upd_ne (by rintro rfl; rw [gp.2] at e; cases e)]
    exact upd_old (N1.ext _ _ e) hpa
  have cpr : C5 (L1 + 1) = some (.cv (some (.ref pa))) := by rw [← hC5]; exact upd_same ..
  have cpa : C5 pa = some (.lst [.int (min u v) v2, .int (max u v) v3]) := by rw [← hC5, upd_ne hpc]; exact upd_same ..
  clear hC5
  have ipa : IntsAre [.int (min u v) v2, .int (max u v) v3] [(prOf u v).1, (prOf u v).2] := .cons _ _ (.cons _ _ .nil)
  refine wpAny_execs_cons (r_asCompL (vs := vs) (R := fun i Cx ys => All2 (EdgeAt Cx) ys ((es.take i).filter fun e => decide (e.1 = prOf u v))) rfl S5 .nm ⟨rfl, rfl, by decide, by decide⟩ hh (by show A.depth + 1 < _; omega) (by omega) (r_loc S5 rfl ⟨rfl, X5 _ _ hl, S5⟩) (fun _ => .nil) (fun i C C' ys hr x => hr.imp fun _ _ q => q.ext x) ?_ ?_)
  · intro Lc i mc C6 x s6 E' ys hx X6 hr S6
    obtain ⟨e, he1, he2⟩ := he.get hx
    have hev := he2
    obtain ⟨a, pv, d', kvs, ep, rfl, ha, hp, hd', hk⟩ := he2
    refine r_asN S6 fun s7 S7 => ?_
    obtain ⟨qa, qxs, rfl, hqa, hqi⟩ := pair_ints (hp.ext (X5.trans X6))
    refine r_if1 (wpAny_isTrue_Compare1 (Subscript_ (r_loc S7 rfl (r_int S7 fun t8 s8 S8 => r_subT (j := 0) S8 (X6 _ _ (X5 _ _ ha)) rfl (by omega) ?_))))
    refine r_cell S8 rfl (X6 _ _ cpr) ?_
    refine r_eqI S8 hqa (X6 _ _ cpa) hqi ipa (by show A.units + 3 + 64 < _; omega) (wpAny_truthy_bool ?_)
    rw [eq_dec e.1 (prOf u v)]
    by_cases hne : e.1 = prOf u v
    · rw [decide_eq_true hne, if_pos rfl]
      refine r_loc S8 rfl ?_
      refine ⟨_, _, S8, .refl _, fun Cx xb _ hrx => ?_⟩
      rw [filter_take _ he1, if_pos (decide_eq_true hne)]
      exact hrx.snoc (hev.ext (X5.trans xb))
    · rw [decide_eq_false hne, if_neg Bool.false_ne_true]
      refine ⟨_, _, S8, .refl _, fun Cx xb hrx => ?_⟩
      rw [filter_take _ he1, if_neg (by rw [decide_eq_false hne]; exact Bool.false_ne_true), List.append_nil]
      exact hrx
  intro K6 C6 s6 ks hK6 X6 hr6 hK6' S6
  rw [hlen, List.take_length] at hr6
  have X56 := X5.trans X6
  refine wpAny_execs_cons (r_asCompL (vs := vs) (R := fun i Cx ys => All2 (EdgeAt Cx) ys (wout (es.take i) (prOf u v))) rfl S6 .nm ⟨rfl, rfl, by decide, by decide⟩ hh (by show A.depth + 1 < _; omega) (by omega) (r_loc S6 rfl ⟨rfl, X56 _ _ hl, S6⟩) (fun _ => .nil) (fun i C C' ys hr x => hr.imp fun _ _ q => q.ext x) ?_ ?_)
  · intro Lc i mc C7 x s7 E' ys hx X7 hr S7
    obtain ⟨e, he1, he2⟩ := he.get hx
    have hev := he2
    obtain ⟨a, pv, d', kvs, ep, rfl, ha, hp, hd', hk⟩ := he2
    refine r_asN S7 fun s8 S8 => ?_
    obtain ⟨qa, qxs, rfl, hqa, hqi⟩ := pair_ints (hp.ext (X56.trans X7))
    refine r_if1 (wpAny_isTrue_Compare1 (Subscript_ (r_loc S8 rfl (r_int S8 fun t8 s9 S9 => r_subT (j := 0) S9 (X7 _ _ (X56 _ _ ha)) rfl (by omega) ?_))))
    refine r_cell S9 rfl (X7 _ _ (X6 _ _ cpr)) ?_
    refine r_neI S9 hqa (X7 _ _ (X6 _ _ cpa)) hqi ipa (by show A.units + 3 + 64 < _; omega) (wpAny_truthy_bool ?_)
    rw [not_dec e.1 (prOf u v)]
    by_cases hne : e.1 ≠ prOf u v
    · rw [decide_eq_true hne, if_pos rfl]
      refine r_loc S9 rfl ?_
      refine ⟨_, _, S9, .refl _, fun Cx xb _ hrx => ?_⟩
      unfold wout
      rw [filter_take _ he1, if_pos (decide_eq_true hne)]
      exact hrx.snoc (hev.ext (X56.trans xb))
    · rw [decide_eq_false hne, if_neg Bool.false_ne_true]
      refine ⟨_, _, S9, .refl _, fun Cx xb hrx => ?_⟩
      unfold wout
      rw [filter_take _ he1, if_neg (by rw [decide_eq_false hne]; exact Bool.false_ne_true), List.append_nil]
      exact hrx
  intro K7 C7 s7 rs hK7 X7 hr7 hK7' S7
  rw [hlen, List.take_length] at hr7
  have X57 := X56.trans X7
  obtain ⟨m7, S7, hmk, hmd7, hmr⟩ : ∃ m7, St w g L1 m7 ((L, m) :: F) C7 G O s7 ∧ m7.lookup (Str.ofString "known") = some (.ref K6) ∧ m7.lookup (Str.ofString "data") = some (.ref d) ∧ m7.lookup (Str.ofString "rest") = some (.ref K7) := ⟨_, S7, rfl, rfl, rfl⟩
  refine wpAny_execs_cons (wpAny_Assign_Name (hs := rfl) (wpAny_mono (Q := fun mv s8 => ∃ md kvs' ep' C8, mv = .ref md ∧ Ext C7 C8 ∧ C8 md = some (.ds .none kvs' ep') ∧ KvsOk kvs' (mrg (found es (prOf u v)) xx) ∧ St w g L1 m7 ((L, m) :: F) C8 G O s8) ?_ ?_ fun _ _ e => e))
  · refine wpAny_IfExp (wpAny_isTrue_Compare1 (r_loc S7 hmk ?_))
    refine r_lst (wpAny_items_nil ⟨Nat.zero_le _, _, _, _, _, _, _, _, S7, fun e0 s8 he0 S8 => ?_⟩)
    refine r_neNil S8 (upd_old (X7 _ _ hK6') he0) (upd_same ..) (by show A.units + 3 + 64 < _; omega) (wpAny_truthy_bool ?_)
    generalize hfl : es.filter (fun e => decide (e.1 = prOf u v)) = fl at hr6
    cases hr6 with
    | nil =>
      rw [if_neg (by decide)]
      refine r_loc S8 hmd7 ?_
      refine ⟨d, kd, ed, _, rfl, Ext.upd he0, upd_old (X57 _ _ hd) he0, ?_, S8⟩
      have e1 : found es (prOf u v) = none := by unfold found; rw [hfl]; rfl
      rw [e1]
      have e2 : mrg none xx = xx := by unfold mrg; obtain ⟨n, o⟩ := xx; cases o <;> rfl
      rw [e2]; exact hkd
    | @cons k0 f0 ks' fl' hk0 hrest =>
      rw [if_pos (by simp)]
      obtain ⟨a0, pv0, d0, kvs0, ep0, rfl, ha0, hp0, hd0, hk0⟩ := hk0
      have e1 : found es (prOf u v) = some f0.2 := by unfold found; rw [hfl]; rfl
      rw [e1]
      have X8 : Ext C7 (upd C7 e0 (.lst [])) := Ext.upd he0
      generalize upd C7 e0 (.lst []) = C8 at S8 X8
      refine r_tcall1 S8 D (nb_dict w) bi_dict (by decide) (wpAny_BinOp ?_)
      refine r_tcall1 S8 D (nb_list w) bi_list (by decide) (MethodCall_ (he := rfl) ?_)
      refine Subscript_ (Subscript_ (r_loc S8 hmk (r_int S8 fun t9 s9 S9 => r_subL (j := 0) S9 (X8 _ _ (X7 _ _ hK6')) rfl (by omega) (r_int S9 fun t10 s10 S10 => r_subT (j := 1) S10 (X8 _ _ (X7 _ _ ha0)) rfl (by omega) ?_))))
      refine r_methD S10 (X8 _ _ (X7 _ _ hd0)) (.inr (.inl ⟨_, _, _, rfl⟩)) PySem.F.slot_dict_items ty_items ?_
      refine PyProof.Rows.callWith_method0 ?_
      refine r_itemsS S10 (X8 _ _ (X7 _ _ hd0)) fun v1 s11 hv1 S11 => ?_
      have X11 := Ext.upd (c := .obj (itemsView d0)) hv1
      have z0 := kvs_0 hk0
      have z1 := kvs_0 hkd
      refine r_listItemsS hh S11 (upd_same ..) (X11 _ _ (X8 _ _ (X7 _ _ hd0))) (by omega) fun l1 vs1 s12 C12 hl1 S12 X12 hl1' hv1' => ?_
      have Y12 := (X8.trans X11).trans X12
      refine r_tcall1 S12 D (nb_list w) bi_list (by decide) (MethodCall_ (he := rfl) (r_loc S12 hmd7 ?_))
      have hd12 := Y12 _ _ (X57 _ _ hd)
      refine r_methD S12 hd12 (.inr (.inl ⟨_, _, _, rfl⟩)) PySem.F.slot_dict_items ty_items ?_
      refine PyProof.Rows.callWith_method0 ?_
      refine r_itemsS S12 hd12 fun v2' s13 hv2 S13 => ?_
      have X13 := Ext.upd (c := .obj (itemsView d)) hv2
      refine r_listItemsS hh S13 (upd_same ..) (X13 _ _ hd12) (by omega) fun l2 vs2 s14 C14 hl2 S14 X14 hl2' hv2' => ?_
      have Y14 := X13.trans X14
      refine r_addLX S14 (Y14 _ _ hl1') hl2' (by have := hv1'.length; have := hv2'.length; omega) fun l3 s15 hl3 S15 => ?_
      have X15 := Ext.upd (c := .obj { cls := .type "list", data := .seq (vs1 ++ vs2).toArray }) hl3
      refine r_dictOfL (ps := kvs0 ++ kd) hh (by show A.depth + 1 + 4 < _; omega) S15 (upd_same ..) (by have := hv1'.length; have := hv2'.length; simp; omega) ?_ fun md epm s16 hmd S16 => ?_
      · exact ((hv1'.imp fun _ _ q => q.keeps (Y14.trans X15).keepsP).append (hv2'.imp fun _ _ q => q.keeps X15.keepsP))
      · rw [upd_twice] at S16
        have hl3m : l3 ≠ md := by rintro rfl; rw [upd_same] at hmd; cases hmd
        have hmd0 : C14 md = none := by rw [upd_ne hl3m.symm] at hmd; exact hmd
        refine ⟨md, _, epm, _, rfl, ?_, upd_same .., merged_two hk0 hkd, S16⟩
        refine (X8.trans (X11.trans (X12.trans Y14))).trans ((Ext.upd (c := .lst (vs1 ++ vs2)) hl3).trans (Ext.upd ?_))
        rw [upd_ne hl3m.symm]; exact hmd0
  · rintro mv s8 ⟨md, kvs', ep', C8, rfl, X8, hmd, hkv, S8⟩
    refine r_store S8 fun s9 S9 => ?_
    refine wpAny_execs_cons (wpAny_Return_some (wpAny_BinOp (r_loc S9 hmr ?_)))
    refine r_lst (wpAny_items_cons (he := rfl) (r_tup (wpAny_items_cons (he := rfl) ?_)))
    have cp8 := X8 _ _ (X7 _ _ (X6 _ _ cpr))
    have ca8 := X8 _ _ (X7 _ _ (X6 _ _ cpa))
    refine r_cell S9 rfl cp8 (wpAny_items_cons (he := rfl) (r_loc S9 rfl (wpAny_items_nil ⟨by simp, _, _, _, _, _, _, _, S9, fun tp s10 htp S10 => ?_⟩)))
    refine wpAny_items_nil ⟨by simp, _, _, _, _, _, _, _, S10, fun tl s11 htl S11 => ?_⟩
    have Y10 : Ext C8 (upd C8 tp (.tup [.ref pa, .ref md])) := Ext.upd htp
    have Y11 := Y10.trans (Ext.upd (c := .lst [.ref tp]) htl)
    refine r_addL S11 (Y11 _ _ (X8 _ _ hK7')) (upd_same ..) (by have := hr7.length; have : (wout es (prOf u v)).length ≤ es.length := List.length_filter_le ..; simp; omega) fun r s12 hr12 S12 => ?_
    have Y12 := Y11.trans (Ext.upd (c := .lst (rs ++ [.ref tp])) hr12)
    refine h r s12 _ (rs ++ [.ref tp]) (S.pop S12) (X57.trans (X8.trans Y12)) (upd_same ..) ?_
    refine All2.snoc (hr7.imp fun _ _ q => q.ext (X8.trans Y12)) ⟨tp, .ref pa, md, kvs', ep', rfl, ?_, ⟨pa, v2, v3, rfl, Y12 _ _ ca8⟩, Y12 _ _ hmd, hkv⟩
    exact upd_old (upd_old (upd_same ..) htl) hr12
end
end Mine
end
section -- R1
open PySem PySem.W PySem.Calls PyProof.Rows
namespace Mine
example : hd.heap_39 = hd.heap_39 ∧ PySem.Challenge.rw_ez0179_01 = PySem.Challenge.rw_ez0179_01 := by k_fill; exact ⟨rfl, rfl⟩
theorem m_545 (w : World) : findIn (hd.heap_39 w.params) (.ref 617) "adjacency" = some (some (.ref 545)) := by kernel_rfl
theorem fn_545 (w : World) : isFn (hd.heap_39 w.params) (.ref 545) = true := by kernel_rfl
theorem kp_545 (w : World) : keepIn (hd.heap_39 w.params) (.ref 545) = true := by kernel_rfl
theorem m_478 (w : World) : findIn (hd.heap_39 w.params) (.ref 617) "has_node" = some (some (.ref 478)) := by kernel_rfl
theorem fn_478 (w : World) : isFn (hd.heap_39 w.params) (.ref 478) = true := by kernel_rfl
theorem kp_478 (w : World) : keepIn (hd.heap_39 w.params) (.ref 478) = true := by kernel_rfl
theorem m_614 (w : World) : findIn (hd.heap_39 w.params) (.ref 617) "number_of_edges" = some (some (.ref 614)) := by kernel_rfl
theorem fn_614 (w : World) : isFn (hd.heap_39 w.params) (.ref 614) = true := by kernel_rfl
theorem kp_614 (w : World) : keepIn (hd.heap_39 w.params) (.ref 614) = true := by kernel_rfl
section
variable {p : Program} {loose : List Str} {mg mb : Str → Option Value}
  {w : World} {g : Heap} {L : Addr} {m : List (Str × Value)} {F : List (Addr × List (Str × Value))} {C : Led} {G : Array GenState} {O : OsState} {s : Shared} {A : Around} {E Q : Value → Shared → Prop} {a : GA}
  {dv ev : Option Value} {gk : List (Str × Value)} {σ : PS} {env : Env}
/-- x.name, x a cell -/
theorem r_cattr {xa dx cls c : Addr} {f : Str → Option Value} {nf : Nat} {hot : Bool} {x name : Str} {xp pos : Pos} {v : Value} (S : St w g L m F C G O s) (D : Wd (hd.heap_39 w.params) p loose mg mb g) (hc : env.cells.lookup x = some c) (hC : C c = some (.cv (some (.ref xa))))
    (h1 : C xa = some (.obj (instObj cls dx))) (h2 : C dx = some (.sm f nf hot)) (hok : ownOk (hd.heap_39 w.params) cls name = true) (hv : f name = some v) (hh : handedIn v = true) (h : ∀ s', St w g L m F C G O s' → Q v s')
    (hk : env.scope.kind = .function := by rfl) (hx : env.kindOf x = some .cell := by rfl) (hd : (x == ("__debug__" : Str)) = false := by decide) :
    wpAny (model PR w) A (eval (.Attribute (.Name x xp) name pos) env) Q E s :=
  Attribute_name (r_cell S hc hC (r_attr S D h1 h2 hok hv hh h) hk hx hd)
/-- graph.adjacency() -/
theorem adj_spec (S : St w g L m F C G O s) (D : Wd (hd.heap_39 w.params) p loose mg mb g) (hroom : A.depth + 5 < recursionLimit) (H : Gr C a dv ev gk σ)
    (h : ∀ it v s' ak ea, C v = none → upd C v (.obj (itemsView a.ad)) it = none → C a.ad = some (.di .adj ak ea) → ak.map (·.1) = σ.an → (∀ q ∈ ak, ∃ b, q.2 = .ref b ∧ RowAt C σ q.1 b) → St w g L m F (upd (upd C v (.obj (itemsView a.ad))) it (.iit a.ad 0 ak.length ea)) G O s' → Q (.ref it) s') : wpAny (model PR w) A (call (.ref 545) [.ref a.x]) Q E s := by
  refine wpAny_call ?_
  refine' r_enter (binds := [(Str.ofString "self", .ref a.x)]) S D ?ho ?hcd ?room ?hb ?hl ?_ ?c1 ?c2 ?c3 ?c4
  case ho => k_is
  case hcd => k_is
  case room => omega
  case hb => exact .of_eq rfl
  case hl => exact locs rfl
  case c1 => rfl
  case c2 => rfl
  case c3 => rfl
  case c4 => decide
  intro L1 s1 S1
  obtain ⟨ak, ea, had, hak, hrows⟩ := H.ad
  refine wpAny_execs_cons (wpAny_Return_some (r_bcall1 S1 D (nb_iter w) bi_iter (by decide) (MethodCall_ (he := rfl) ?_)))
  refine r_nattr S1 D rfl H.x H.dx (ok_adj w) rfl rfl (fun s2 S2 => ?_)
  refine r_methD S2 had (.inl ⟨_, _, _, rfl⟩) PySem.F.slot_dict_items ty_items ?_
  refine PyProof.Rows.callWith_method0 ?_
  refine r_itemsI S2 had fun v s3 hv S3 => ?_
  refine r_iterC (r_iterI S3 (upd_same ..) (upd_old had hv) fun it s4 hit S4 => ?_)
  exact h it v s4 ak ea hv hit had hak hrows (S.pop S4)
/-- a comprehension over range(n) -/
theorem r_compRg {elt target iter : PySem.Expr} {ifs : List PySem.Expr} {scope : Scope} {cl : List (Str × Addr)} {pos : Pos} {n : Nat} {use : Option (Value → Sem Unit)}
    (ht : TgOk target) (R : Nat → Led → List Value → Prop) (hb : BlkOk scope env cl) (hh : A.handled = none) (hd : A.depth < recursionLimit) (hn : n ≤ 1000)
    (hiter : wpAny (model PR w) A (eval iter env) (fun x s₁ => ∃ r t u v, x = .ref r ∧ C r = none ∧ St w g L m F (upd C r (.obj (rangeObj n t u v))) G O s₁) E s)
    (hR0 : ∀ C, R 0 C []) (hRm : ∀ i C C' ys, R i C ys → Ext C C' → R i C' ys)
    (step : ∀ Lc i mc C' t s E' ys, i < n → Ext C C' → R i C' ys → St w g Lc mc ((L, m) :: F) C' G O s →
      wpAny (model PR w) A (assign target (compEnvC scope cl Lc env) (.int i t)) (fun _ s₂ =>
        wpAny (model PR w) A (forIn ifs true fun c r => if r = true then do let ok ← isTrue c (compEnvC scope cl Lc env) (eval c (compEnvC scope cl Lc env)); pure (ForInStep.yield ok) else pure (ForInStep.yield r)) (fun ok s₃ =>
          if ok = true then wpAny (model PR w) A (eval elt (compEnvC scope cl Lc env)) (fun x s₄ => ∃ mc' C'', St w g Lc mc' ((L, m) :: F) C'' G O s₄ ∧ Ext C' C'' ∧ ∀ Cx, Ext C Cx → (∀ b c, C' b = none → C'' b = some c → Cx b = some c) → R i Cx ys → R (i + 1) Cx (ys ++ [x])) E' s₃
          else ∃ mc' C'', St w g Lc mc' ((L, m) :: F) C'' G O s₃ ∧ Ext C' C'' ∧ ∀ Cx, Ext C Cx → R i Cx ys → R (i + 1) Cx ys) E' s₂) E' s)
    (fin : ∀ D Lc mc C' s ys, C D = none → Ext C C' → R n C' ys → C' D = some (.lst ys) → St w g Lc mc ((L, m) :: F) C' G O s → compPost (model PR w) A E use Q (.ref D) Lc (.ok .next) s)
    (hs : ∀ x, foldedSetIterable iter env x = pure x := by intro _; rfl) :
    wpAny (model PR w) A (comprehension (.ListComp elt [⟨target, iter, ifs, 0⟩] scope pos) scope env (firstIterPos [⟨target, iter, ifs, 0⟩] pos) (newList []) false (eval iter env) use) Q E s := by
  refine wpAny_comprehension_free rfl hs hb.1 hb.2.1 hb.2.2.2 (wpAny_mono hiter (fun x s1 hx => ?_) fun _ _ e => e)
  obtain ⟨r, t, u, v, rfl, hr, S1⟩ := hx
  refine r_iterR S1 (upd_same ..) hn fun it s2 hit S2 => ?_
  have hX : Ext C (upd C r (.obj (rangeObj n t u v))) := Ext.upd hr
  generalize upd C r (.obj (rangeObj n t u v)) = Cb at S2 hit hX
  refine r_compG (iter_range ht) R hb hh hd hn hit S2 (by rw [show ((n : Int) - (0 : Nat) : Int) = n by omega]; exact upd_same ..) (fun i C G h => ⟨_, h⟩) (fun D i C' C'' G h1 h2 h3 h4 => h4 _ _ h1.symm h3) hR0 hRm
    (fun Lc i mc C' v s E' ys hi e hv r S => ?_) (fun D Lc mc C' s ys h1 h2 h3 h4 h5 => fin D Lc mc C' s ys (by cases q : C D with
      | none => rfl
      | some c => rw [hX _ _ q] at h1; cases h1) (hX.trans h2) h3 h4 h5)
  obtain ⟨t, rfl⟩ := hv
  refine wpAny_mono (step Lc i mc C' t s E' ys hi (hX.trans e) r S) (fun _ s2 h2 => wpAny_mono h2 (fun ok s3 h3 => ?_) fun _ _ e => e) fun _ _ e => e
  cases ok with
  | false =>
    rw [if_neg Bool.false_ne_true] at h3 ⊢
    obtain ⟨mc', C'', k1, k2, k3⟩ := h3
    exact ⟨mc', C'', k1, k2, fun Cx hx => k3 Cx (hX.trans hx)⟩
  | true =>
    rw [if_pos rfl] at h3 ⊢
    refine wpAny_mono h3 (fun x s4 h4 => ?_) fun _ _ e => e
    obtain ⟨mc', C'', k1, k2, k3⟩ := h4
    exact ⟨mc', C'', k1, k2, fun Cx hx => k3 Cx (hX.trans hx)⟩
/-- two lists of truths -/
theorem r_neB {x y : Addr} {xs ys : List Value} {bs : List Bool} (S : St w g L m F C G O s) (hx : C x = some (.lst xs)) (hy : C y = some (.lst ys)) (h1 : All2 (fun v b => v = .bool b) xs bs) (h2 : All2 (fun v b => v = .bool b) ys bs) (hu : A.units + 64 < cLine) (h : Q (.bool false) s) :
    wpAny (model PR w) A (compareOp .NotEq (.ref x) (.ref y)) Q E s := by
  have rd : ∀ {h : Heap} {vs : List Value} {bs : List Bool}, All2 (fun v b => v = .bool b) vs bs → ∃ as, ReadsAll h vs (bs.map PyData.bool) as := by
    intro h vs bs q
    induction q with
    | nil => exact ⟨_, .nil⟩
    | cons e _ ih => obtain ⟨as, r⟩ := ih; subst e; exact ⟨_, .cons (.bool _) r⟩
  obtain ⟨as, r1⟩ := rd (h := s.heap) h1
  obtain ⟨cs, r2⟩ := rd (h := s.heap) h2
  obtain ⟨o1, a1, a2, n1, a3⟩ := S.isList hx
  obtain ⟨o2, a4, a5, n2, a6⟩ := S.isList hy
  have lay : ∀ bs : List Bool, PyData.canLayAll0 (bs.map PyData.bool) = true ∧ PyData.depthAll (bs.map PyData.bool) = 0 := by
    intro bs
    induction bs with
    | nil => simp [PyData.canLayAll0, PyData.depthAll]
    | cons b r ih => simp [PyData.canLayAll0, PyData.depthAll, PyData.canLay0, PyData.depth, ih]
  have sh : SeqAt.shaped (.list (bs.map PyData.bool)) = true := by
    have := lay bs
    simp [SeqAt.shaped, PyData.canLay0, PyData.depth, this]
  have ee : ∀ bs : List Bool, PyData.eqvAll (bs.map PyData.bool) (bs.map PyData.bool) = true := by
    intro bs
    induction bs with
    | nil => simp [PyData.eqvAll]
    | cons b r ih => simp [PyData.eqvAll, PyData.eqv, ih]
  refine ne_dataH (reads_list_at a1 a2 a3 r1) (reads_list_at a4 a5 a6 r2) sh sh hu ?_
  rw [show PyData.eqv (.list (bs.map PyData.bool)) (.list (bs.map PyData.bool)) = true by rw [PyData.eqv]; exact ee bs]
  exact h
end
end Mine
end
section -- P2
open PySem PySem.W PySem.Calls PyProof.Rows
namespace Mine
/-- the graph and the law's list of edges tell the same -/
structure Rel (σ : PS) (es : List Edg) : Prop where
  nd : (es.map (·.1)).Nodup
  ord : ∀ e ∈ es, e.1.1 ≤ e.1.2
  mem : ∀ u v, v ∈ σ.nbrs u ↔ prOf u v ∈ es.map (·.1)
  wt : ∀ e ∈ es, σ.wt e.1.1 e.1.2 = e.2
theorem prOf_comm (u v : Int) : prOf u v = prOf v u := by unfold prOf; rw [Int.min_comm, Int.max_comm]
theorem prOf_eq {u v a b : Int} (h : prOf u v = prOf a b) : (u = a ∧ v = b) ∨ (u = b ∧ v = a) := by
  unfold prOf at h
  have h1 := congrArg Prod.fst h
  have h2 := congrArg Prod.snd h
  dsimp only at h1 h2
  omega
theorem prOf_ord {q : Int × Int} (h : q.1 ≤ q.2) : prOf q.1 q.2 = q := by
  unfold prOf
  refine Prod.ext ?_ ?_
  · show min q.1 q.2 = q.1; omega
  · show max q.1 q.2 = q.2; omega
theorem prOf_le (u v : Int) : (prOf u v).1 ≤ (prOf u v).2 := by unfold prOf; show min u v ≤ max u v; omega
def fP (p : Int × Int) : Int × Int := prOf p.1 p.2
theorem restE_out {σ : PS} (hn : ∀ n, (σ.nbrs n).Nodup) : ∀ (l seen : List Int), l.Nodup → (∀ x ∈ l, x ∉ seen) → ((restE σ seen l).map fP).Nodup ∧ ∀ q ∈ (restE σ seen l).map fP, ∃ u k, q = prOf u k ∧ u ∈ l ∧ k ∈ σ.nbrs u ∧ k ∉ seen
  | [], seen, _, _ => ⟨.nil, fun q h => by cases h⟩
  | n :: r, seen, hl, hs => by
    obtain ⟨h1, h2⟩ := List.nodup_cons.mp hl
    have ih := restE_out hn r (seen ++ [n]) h2 (fun x hx hm => by
      rcases List.mem_append.mp hm with hm | hm
      · exact hs x (.tail _ hx) hm
      · rw [List.mem_singleton] at hm; subst hm; exact h1 hx)
    have e : (restE σ seen (n :: r)).map fP = (((σ.nbrs n).filter fun k => k ∉ seen).map fun k => prOf n k) ++ (restE σ (seen ++ [n]) r).map fP := by
      show ((((σ.nbrs n).filter fun k => k ∉ seen).map fun k => (n, k)) ++ restE σ (seen ++ [n]) r).map fP = _
      rw [List.map_append, List.map_map]; rfl
    rw [e]
    refine ⟨List.nodup_append.mpr ⟨?_, ih.1, ?_⟩, fun q hq => ?_⟩
    · refine List.Pairwise.map _ (fun a b hab q => hab ?_) ((hn n).filter _)
      rcases prOf_eq q with ⟨_, h⟩ | ⟨h, h'⟩
      · exact h
      · omega
    · intro q hq q' hq' e'
      subst e'
      obtain ⟨k, hk, rfl⟩ := List.mem_map.mp hq
      obtain ⟨u, k', e2, hu, _, hk'⟩ := ih.2 _ hq'
      rcases prOf_eq e2 with ⟨h, _⟩ | ⟨h, _⟩
      · subst h; exact h1 hu
      · subst h; exact hk' (List.mem_append_right _ (.head _))
    · rcases List.mem_append.mp hq with hq | hq
      · obtain ⟨k, hk, rfl⟩ := List.mem_map.mp hq
        obtain ⟨hk1, hk2⟩ := List.mem_filter.mp hk
        exact ⟨n, k, rfl, .head _, hk1, by simpa using hk2⟩
      · obtain ⟨u, k, e2, hu, hk, hk'⟩ := ih.2 _ hq
        exact ⟨u, k, e2, .tail _ hu, hk, fun h => hk' (List.mem_append_left _ h)⟩
theorem restE_in {σ : PS} (hsym : ∀ u k, k ∈ σ.nbrs u → u ∈ σ.nbrs k) : ∀ (l seen : List Int), l.Nodup → (∀ x ∈ l, x ∉ seen) → ∀ u k, u ∈ l → k ∈ l → k ∈ σ.nbrs u → prOf u k ∈ (restE σ seen l).map fP
  | [], _, _, _, _, _, h, _, _ => by cases h
  | n :: r, seen, hl, hs, u, k, hu, hk, huk => by
    obtain ⟨h1, h2⟩ := List.nodup_cons.mp hl
    have e : (restE σ seen (n :: r)).map fP = (((σ.nbrs n).filter fun k => k ∉ seen).map fun k => prOf n k) ++ (restE σ (seen ++ [n]) r).map fP := by
      show ((((σ.nbrs n).filter fun k => k ∉ seen).map fun k => (n, k)) ++ restE σ (seen ++ [n]) r).map fP = _
      rw [List.map_append, List.map_map]; rfl
    rw [e]
    by_cases hun : u = n
    · subst hun
      exact List.mem_append_left _ (List.mem_map.mpr ⟨k, List.mem_filter.mpr ⟨huk, by simpa using hs k hk⟩, rfl⟩)
    · by_cases hkn : k = n
      · subst hkn
        exact List.mem_append_left _ (List.mem_map.mpr ⟨u, List.mem_filter.mpr ⟨hsym _ _ huk, by simpa using hs u hu⟩, prOf_comm _ _⟩)
      · have hu' : u ∈ r := by rcases List.mem_cons.mp hu with h | h; exact absurd h hun; exact h
        have hk' : k ∈ r := by rcases List.mem_cons.mp hk with h | h; exact absurd h hkn; exact h
        refine List.mem_append_right _ (restE_in hsym r (seen ++ [n]) h2 (fun x hx hm => ?_) u k hu' hk' huk)
        rcases List.mem_append.mp hm with hm | hm
        · exact hs x (.tail _ hx) hm
        · rw [List.mem_singleton] at hm; subst hm; exact h1 hx
theorem Rel.pairs {σ : PS} {es : List Edg} (R : Rel σ es) (W : σ.WF) : ((pairsE σ).map fP).Perm (es.map (·.1)) := by
  have han : σ.an.Nodup := by rw [W.an]; exact W.nd
  have o := restE_out W.nn σ.an [] han (fun _ _ h => by cases h)
  refine (List.perm_ext_iff_of_nodup o.1 R.nd).mpr fun q => ⟨fun hq => ?_, fun hq => ?_⟩
  · obtain ⟨u, k, rfl, _, hk, _⟩ := o.2 q hq
    exact (R.mem u k).mp hk
  · obtain ⟨e, he, rfl⟩ := List.mem_map.mp hq
    have e1 := prOf_ord (R.ord e he)
    have hm : e.1.2 ∈ σ.nbrs e.1.1 := (R.mem _ _).mpr (by rw [e1]; exact hq)
    obtain ⟨w1, w2, w3⟩ := W.mem _ _ hm
    have := restE_in (fun u k h => (W.mem u k h).2.2) σ.an [] han (fun _ _ h => by cases h) e.1.1 e.1.2 (by rw [W.an]; exact w1) (by rw [W.an]; exact w2) hm
    rw [e1] at this; exact this

def oth (n : Int) (q : Int × Int) : Int := if q.2 = n then q.1 else q.2
def hasN (n : Int) (q : Int × Int) : Bool := decide (n = q.1 ∨ n = q.2)
def dueE (es : List Edg) (n : Int) : List Edg := es.filter fun e => hasN n e.1
theorem prOf_oth {n : Int} {q : Int × Int} (hq : q.1 ≤ q.2) (h : n = q.1 ∨ n = q.2) : prOf n (oth n q) = q := by
  unfold oth
  split
  · rename_i e; subst e; rw [prOf_comm]; exact prOf_ord hq
  · rename_i e
    rcases h with h | h
    · subst h; exact prOf_ord hq
    · exact absurd h.symm e
theorem Rel.due {σ : PS} {es : List Edg} (R : Rel σ es) (W : σ.WF) (n : Int) : ((dueE es n).map fun e => oth n e.1).Perm (σ.nbrs n) := by
  have hd : ∀ e ∈ dueE es n, e ∈ es ∧ prOf n (oth n e.1) = e.1 := fun e he => by
    obtain ⟨h1, h2⟩ := List.mem_filter.mp he
    exact ⟨h1, prOf_oth (R.ord e h1) (of_decide_eq_true h2)⟩
  refine (List.perm_ext_iff_of_nodup ?_ (W.nn n)).mpr fun k => ⟨fun hk => ?_, fun hk => ?_⟩
  · have hn : ((dueE es n).map (·.1)).Nodup := R.nd.sublist ((List.filter_sublist ..).map _)
    have : ((dueE es n).map fun e => oth n e.1) = ((dueE es n).map (·.1)).map (oth n) := by rw [List.map_map]; rfl
    rw [this]
    refine List.pairwise_map.mpr (List.Pairwise.imp_of_mem (fun {a b} ha hb hab q => hab ?_) hn)
    obtain ⟨e, he, rfl⟩ := List.mem_map.mp ha
    obtain ⟨e', he', rfl⟩ := List.mem_map.mp hb
    rw [← (hd e he).2, ← (hd e' he').2, q]
  · obtain ⟨e, he, rfl⟩ := List.mem_map.mp hk
    refine (R.mem n _).mpr ?_
    rw [(hd e he).2]
    exact List.mem_map.mpr ⟨e, (hd e he).1, rfl⟩
  · obtain ⟨e, he, h1⟩ := List.mem_map.mp ((R.mem n k).mp hk)
    refine List.mem_map.mpr ⟨e, List.mem_filter.mpr ⟨he, decide_eq_true ?_⟩, ?_⟩
    · rw [h1]; unfold prOf; show n = min n k ∨ n = max n k; omega
    · unfold oth; rw [h1]; unfold prOf
      show (if max n k = n then min n k else max n k) = k
      split <;> omega
end Mine
end
section -- P3
open PySem PySem.W PySem.Calls PyProof.Rows
namespace Mine
def sumI {α : Type} (f : α → Int) : List α → Int
  | [] => 0
  | a :: r => f a + sumI f r
theorem sumI_append {α : Type} (f : α → Int) : ∀ a b : List α, sumI f (a ++ b) = sumI f a + sumI f b
  | [], b => by simp [sumI]
  | x :: a, b => by simp only [List.cons_append, sumI, sumI_append f a b]; omega
theorem sumI_congr {α : Type} {f g : α → Int} : ∀ {l : List α}, (∀ a ∈ l, f a = g a) → sumI f l = sumI g l
  | [], _ => rfl
  | a :: r, h => by simp only [sumI]; rw [h a (.head _), sumI_congr fun x hx => h x (.tail _ hx)]
theorem sumI_add {α : Type} (f g : α → Int) : ∀ l : List α, sumI (fun a => f a + g a) l = sumI f l + sumI g l
  | [] => by simp [sumI]
  | a :: r => by simp only [sumI, sumI_add f g r]; omega
theorem sumI_zero {α : Type} : ∀ l : List α, sumI (fun _ => 0) l = 0
  | [] => rfl
  | a :: r => by simp only [sumI, sumI_zero r]; omega
theorem sumI_swap {α β : Type} (f : α → β → Int) : ∀ (l : List α) (m : List β), sumI (fun a => sumI (f a) m) l = sumI (fun b => sumI (fun a => f a b) l) m
  | [], m => by
    show 0 = sumI (fun b => 0) m
    rw [sumI_zero]
  | a :: r, m => by
    show sumI (f a) m + sumI (fun a => sumI (f a) m) r = sumI (fun b => f a b + sumI (fun a => f a b) r) m
    rw [sumI_swap f r m, ← sumI_add]
theorem sumI_const {α : Type} (c : Int) : ∀ l : List α, sumI (fun _ => c) l = c * l.length
  | [] => by simp [sumI]
  | a :: r => by simp only [sumI, sumI_const c r, List.length_cons, Int.natCast_add, Int.mul_add]; omega
theorem sumI_one (n : Int) : ∀ l : List Int, l.Nodup → sumI (fun k => if n = k then 1 else 0) l = if n ∈ l then 1 else 0
  | [], _ => rfl
  | a :: r, h => by
    obtain ⟨h1, h2⟩ := List.nodup_cons.mp h
    simp only [sumI, sumI_one n r h2]
    by_cases q : n = a
    · subst q
      rw [if_pos rfl, if_neg h1, if_pos (List.mem_cons_self ..)]; rfl
    · rw [if_neg q]
      by_cases q2 : n ∈ r
      · rw [if_pos q2, if_pos (List.mem_cons_of_mem _ q2)]; rfl
      · rw [if_neg q2, if_neg (by intro h; rcases List.mem_cons.mp h with h | h; exact q h; exact q2 h)]; rfl
theorem sumI_filter {α : Type} (f : α → Bool) : ∀ l : List α, ((l.filter f).length : Int) = sumI (fun a => if f a = true then 1 else 0) l
  | [] => rfl
  | a :: r => by
    rw [List.filter_cons]
    simp only [sumI, ← sumI_filter f r]
    split
    · simp; omega
    · simp
theorem preSum_list {l : List Int} (f : Int → Int) (val : Nat → Int) (h : ∀ i k, l[i]? = some k → val i = f k) : preSum val l.length = sumI f l := by
  have go : ∀ j, j ≤ l.length → preSum val j = sumI f (l.take j) := by
    intro j
    induction j with
    | zero => intro _; rfl
    | succ j ih =>
      intro hj
      have hl : l[j]? = some l[j] := List.getElem?_eq_getElem (by omega)
      show preSum val j + val j = _
      rw [ih (by omega), List.take_add_one, hl, sumI_append, h j _ hl]
      simp [sumI]
  rw [go _ (Nat.le_refl _), List.take_length]
def incE (n : Int) (e : Edg) : Int := (if e.1.1 = n then 1 else 0) + (if e.1.2 = n then 1 else 0)
theorem mem_count {es : List Edg} (hn : (es.map (·.1)).Nodup) (q : Int × Int) : sumI (fun e : Edg => if e.1 = q then 1 else 0) es = if q ∈ es.map (·.1) then 1 else 0 := by
  induction es with
  | nil => rfl
  | cons e r ih =>
    obtain ⟨h1, h2⟩ := List.nodup_cons.mp hn
    simp only [sumI, ih h2, List.map_cons]
    by_cases h : e.1 = q
    · rw [if_pos h, if_neg (by rw [← h]; exact h1), if_pos (by rw [h]; exact List.mem_cons_self ..)]; rfl
    · rw [if_neg h]
      by_cases h3 : q ∈ r.map (·.1)
      · rw [if_pos h3, if_pos (List.mem_cons_of_mem _ h3)]; rfl
      · rw [if_neg h3, if_neg (by intro x; rcases List.mem_cons.mp x with x | x; exact h x.symm; exact h3 x)]; rfl
theorem Rel.deg {σ : PS} {es : List Edg} (R : Rel σ es) (W : σ.WF) (n : Int) : degOf σ n = sumI (incE n) es := by
  have e1 : ((σ.nbrs n).length : Int) = sumI (fun e : Edg => if hasN n e.1 = true then 1 else 0) es := by
    rw [← (R.due W n).length_eq, List.length_map]
    exact sumI_filter (fun e : Edg => hasN n e.1) es
  have e2 : (if n ∈ σ.nbrs n then (1 : Int) else 0) = sumI (fun e : Edg => if e.1 = (n, n) then 1 else 0) es := by
    rw [mem_count R.nd (n, n)]
    have hp : prOf n n = (n, n) := by unfold prOf; rw [Int.min_self, Int.max_self]
    have := R.mem n n
    rw [hp] at this
    by_cases h : n ∈ σ.nbrs n
    · rw [if_pos h, if_pos (this.mp h)]
    · rw [if_neg h, if_neg fun q => h (this.mpr q)]
  unfold degOf
  rw [e1, e2, ← sumI_add]
  refine sumI_congr fun e he => ?_
  have ho := R.ord e he
  unfold incE hasN
  rcases e with ⟨⟨x, y⟩, d⟩
  dsimp only at ho ⊢
  by_cases h1 : x = n <;> by_cases h2 : y = n
  · subst h1; subst h2; simp
  · subst h1; simp [h2]
  · subst h2; simp [h1]
  · simp [h1, h2]; exact ⟨fun q => h1 q.symm, fun q => h2 q.symm⟩
theorem Rel.size {σ : PS} {es : List Edg} (R : Rel σ es) (W : σ.WF) : degSum σ = 2 * es.length := by
  have han : σ.an.Nodup := by rw [W.an]; exact W.nd
  have e1 : degSum σ = sumI (degOf σ) σ.an := preSum_list (degOf σ) (degAt σ) fun i k h => by unfold degAt; rw [h]
  rw [e1, sumI_congr (g := fun n => sumI (incE n) es) fun n _ => R.deg W n, sumI_swap]
  rw [sumI_congr (g := fun _ => 2) fun e he => ?_, sumI_const]
  have hm : e.1.2 ∈ σ.nbrs e.1.1 := (R.mem _ _).mpr (by rw [prOf_ord (R.ord e he)]; exact List.mem_map.mpr ⟨e, he, rfl⟩)
  obtain ⟨w1, w2, _⟩ := W.mem _ _ hm
  have e2 : sumI (fun a => incE a e) σ.an = sumI (fun k => if e.1.1 = k then 1 else 0) σ.an + sumI (fun k => if e.1.2 = k then 1 else 0) σ.an := sumI_add _ _ _
  rw [e2, sumI_one _ _ han, sumI_one _ _ han, if_pos (by rw [W.an]; exact w1), if_pos (by rw [W.an]; exact w2)]
  rfl
theorem Rel.half {σ : PS} {es : List Edg} (R : Rel σ es) (W : σ.WF) : (degSum σ).fdiv 2 = es.length := by
  rw [R.size W, Int.mul_fdiv_cancel_left _ (by decide)]
theorem Rel.len {σ : PS} {es : List Edg} (R : Rel σ es) (W : σ.WF) : es.length ≤ 21 := by
  have h1 := R.size W
  have h2 : degSum σ ≤ 7 * σ.an.length := (preSum_le (fun j => degAt_le W j) _).2
  have h3 : σ.an.length ≤ 6 := by rw [W.an]; exact W.len
  omega
theorem Rel.rng {σ : PS} {es : List Edg} (R : Rel σ es) (W : σ.WF) : ∀ p ∈ es.map (·.1), 0 ≤ p.1 ∧ 0 ≤ p.2 ∧ p.2 < 6 := fun p hp => by
  obtain ⟨e, he, rfl⟩ := List.mem_map.mp hp
  have hm : e.1.2 ∈ σ.nbrs e.1.1 := (R.mem _ _).mpr (by rw [prOf_ord (R.ord e he)]; exact hp)
  obtain ⟨w1, w2, _⟩ := W.mem _ _ hm
  exact ⟨(W.rng _ w1).1, W.rng _ w2⟩
end Mine
end
section -- P4
open PySem PySem.W PySem.Calls PyProof.Rows
namespace Mine
theorem ens_nodes (σ : PS) (n : Int) : (σ.ens n).nodes = known1 σ.nodes n := by
  unfold PS.ens known1
  split <;> rfl
theorem no_nbrs {σ : PS} (W : σ.WF) {n : Int} (h : n ∉ σ.nodes) : σ.nbrs n = [] := by
  cases q : σ.nbrs n with
  | nil => rfl
  | cons v l => exact absurd (W.mem n v (by rw [q]; exact .head _)).1 h
theorem ens_nbrs {σ : PS} (W : σ.WF) (n : Int) : (σ.ens n).nbrs = σ.nbrs := by
  unfold PS.ens
  split
  · rfl
  · rename_i h
    funext k
    show (if k = n then [] else σ.nbrs k) = σ.nbrs k
    split
    · rename_i e; subst e; exact (no_nbrs W h).symm
    · rfl
theorem ens_wt (σ : PS) (n : Int) : (σ.ens n).wt = σ.wt := by
  unfold PS.ens
  split <;> rfl
theorem Rel.of {σ τ : PS} {es : List Edg} (R : Rel σ es) (h1 : τ.nbrs = σ.nbrs) (h2 : τ.wt = σ.wt) : Rel τ es := ⟨R.nd, R.ord, fun u v => by rw [h1]; exact R.mem u v, fun e he => by rw [h2]; exact R.wt e he⟩
theorem Rel.ens {σ : PS} {es : List Edg} (R : Rel σ es) (W : σ.WF) (n : Int) : Rel (σ.ens n) es := R.of (ens_nbrs W n) (ens_wt σ n)
theorem addE_nodes (σ : PS) (u v : Int) (d : Addr) (x : Int × Option Int) : (σ.addE u v d x).nodes = σ.nodes := rfl
theorem mem_wout {es : List Edg} {q r : Int × Int} : r ∈ (wout es q).map (·.1) ↔ r ∈ es.map (·.1) ∧ r ≠ q := by
  unfold wout
  constructor
  · intro h
    obtain ⟨e, he, rfl⟩ := List.mem_map.mp h
    obtain ⟨h1, h2⟩ := List.mem_filter.mp he
    exact ⟨List.mem_map.mpr ⟨e, h1, rfl⟩, of_decide_eq_true h2⟩
  · rintro ⟨h, hne⟩
    obtain ⟨e, he, rfl⟩ := List.mem_map.mp h
    exact List.mem_map.mpr ⟨e, List.mem_filter.mpr ⟨he, decide_eq_true hne⟩, rfl⟩
theorem wout_nd {es : List Edg} (h : (es.map (·.1)).Nodup) (q : Int × Int) : ((wout es q).map (·.1)).Nodup := h.sublist ((List.filter_sublist ..).map _)
theorem Rel.found {σ : PS} {es : List Edg} (R : Rel σ es) (u v : Int) : found es (prOf u v) = σ.ij u v := by
  unfold Mine.found PS.ij
  by_cases h : v ∈ σ.nbrs u
  · rw [if_pos h]
    obtain ⟨e, he, h1⟩ := List.mem_map.mp ((R.mem u v).mp h)
    have hin : e ∈ es.filter fun e => decide (e.1 = prOf u v) := List.mem_filter.mpr ⟨he, decide_eq_true h1⟩
    cases hf : es.filter fun e => decide (e.1 = prOf u v) with
    | nil => rw [hf] at hin; cases hin
    | cons e' r =>
      have he' : e' ∈ es.filter fun e => decide (e.1 = prOf u v) := by rw [hf]; exact .head _
      obtain ⟨h2, h3⟩ := List.mem_filter.mp he'
      have h3 : e'.1 = prOf u v := of_decide_eq_true h3
      have := R.wt e' h2
      rw [h3] at this
      show some e'.2 = some (σ.wt (min u v) (max u v))
      rw [← this]; rfl
  · rw [if_neg h]
    have hf : (es.filter fun e => decide (e.1 = prOf u v)) = [] := by
      rw [List.filter_eq_nil_iff]
      intro e he hc
      exact h ((R.mem u v).mpr (List.mem_map.mpr ⟨e, he, of_decide_eq_true hc⟩))
    rw [hf]; rfl
theorem Rel.addE {σ : PS} {es : List Edg} (R : Rel σ es) (u v : Int) (d : Addr) (x : Int × Option Int) : Rel (σ.addE u v d x) (wout es (prOf u v) ++ [(prOf u v, x)]) := by
  refine ⟨?_, fun e he => ?_, fun a b => ?_, fun e he => ?_⟩
  · rw [List.map_append]
    refine List.nodup_append.mpr ⟨wout_nd R.nd _, by simp, fun q hq q' hq' => ?_⟩
    rw [List.map_cons, List.map_nil, List.mem_singleton] at hq'
    rw [hq']
    exact (mem_wout.mp hq).2
  · rcases List.mem_append.mp he with he | he
    · exact R.ord e (List.mem_filter.mp he).1
    · rw [List.mem_singleton] at he; rw [he]; exact prOf_le u v
  · rw [addE_mem, List.map_append, List.mem_append, mem_wout, R.mem]
    rw [List.map_cons, List.map_nil, List.mem_singleton]
    show _ ↔ (prOf a b ∈ es.map (·.1) ∧ prOf a b ≠ prOf u v) ∨ prOf a b = prOf u v
    by_cases hq : prOf a b = prOf u v
    · have := prOf_eq hq
      constructor
      · intro _; exact .inr hq
      · intro _; exact .inr this
    · constructor
      · rintro (h | ⟨h1, h2⟩ | ⟨h1, h2⟩)
        · exact .inl ⟨h, hq⟩
        · subst h1; subst h2; exact absurd rfl hq
        · subst h1; subst h2; exact absurd (prOf_comm _ _) hq
      · rintro (⟨h, _⟩ | h)
        · exact .inl h
        · exact absurd h hq
  · have hw : ∀ a b, (σ.addE u v d x).wt a b = if a = min u v ∧ b = max u v then x else σ.wt a b := fun a b => rfl
    rw [hw]
    rcases List.mem_append.mp he with he | he
    · obtain ⟨h1, h2⟩ := List.mem_filter.mp he
      have h2 : e.1 ≠ prOf u v := of_decide_eq_true h2
      rw [if_neg fun q => h2 (Prod.ext q.1 q.2)]
      exact R.wt e h1
    · rw [List.mem_singleton] at he; rw [he]
      exact if_pos ⟨rfl, rfl⟩
/-- one edge put in, as the law and as the graph have it -/
theorem Rel.add1 {σ : PS} {es : List Edg} (R : Rel σ es) (W : σ.WF) (e : Int × Int × Option Int) (k : Int) (d : Addr) (h1 : 0 ≤ e.1 ∧ e.1 < 6) (h2 : 0 ≤ e.2.1 ∧ e.2.1 < 6) : Rel (σ.add1 e k d) (joined es (prOf e.1 e.2.1) (k, e.2.2)) := by
  have R2 := (R.ens W e.1).ens (W.ens h1) e.2.1
  have := R2.addE e.1 e.2.1 d (mrg (((σ.ens e.1).ens e.2.1).ij e.1 e.2.1) (k, e.2.2))
  rw [← R2.found] at this
  unfold PS.add1
  rw [← R2.found]
  exact this
theorem add1_nodes (σ : PS) (e : Int × Int × Option Int) (k : Int) (d : Addr) : (σ.add1 e k d).nodes = known σ.nodes [e.1, e.2.1] := by
  show ((σ.ens e.1).ens e.2.1).nodes = _
  rw [ens_nodes, ens_nodes]; rfl
theorem Rel.rmE {σ : PS} {es : List Edg} (R : Rel σ es) (u v : Int) : Rel (σ.rmE u v) (wout es (prOf u v)) := by
  refine ⟨wout_nd R.nd _, fun e he => R.ord e (List.mem_filter.mp he).1, fun a b => ?_, fun e he => R.wt e (List.mem_filter.mp he).1⟩
  rw [rmE_mem, mem_wout, R.mem]
  constructor
  · rintro ⟨h, hn⟩
    refine ⟨h, fun q => hn ?_⟩
    rcases prOf_eq q with h | h
    · exact .inl h
    · exact .inr ⟨h.1, h.2⟩
  · rintro ⟨h, hn⟩
    refine ⟨h, ?_⟩
    rintro (⟨h1, h2⟩ | ⟨h1, h2⟩)
    · subst h1; subst h2; exact hn rfl
    · subst h1; subst h2; exact hn (prOf_comm _ _)
theorem rmNs_mem : ∀ (l : List Int) (σ : PS) (n k : Int), k ∈ (rmNs σ l).nbrs n ↔ k ∈ σ.nbrs n ∧ n ∉ l ∧ k ∉ l
  | [], σ, n, k => by simp [rmNs]
  | x :: l, σ, n, k => by
    show k ∈ (rmNs (σ.rmN x) l).nbrs n ↔ _
    rw [rmNs_mem l]
    have : k ∈ (σ.rmN x).nbrs n ↔ k ∈ σ.nbrs n ∧ n ≠ x ∧ k ≠ x := by
      show k ∈ (if n = x then [] else (σ.nbrs n).filter (· ≠ x)) ↔ _
      by_cases h : n = x
      · rw [if_pos h]; simp [h]
      · rw [if_neg h, List.mem_filter]; simp [h]
    rw [this]
    simp only [List.mem_cons, not_or]
    constructor
    · rintro ⟨⟨a, b, c⟩, d, e⟩; exact ⟨a, ⟨b, d⟩, c, e⟩
    · rintro ⟨a, ⟨b, d⟩, c, e⟩; exact ⟨⟨a, b, c⟩, d, e⟩
theorem rmNs_nodes : ∀ (l : List Int) (σ : PS), (rmNs σ l).nodes = σ.nodes.filter fun x => decide (x ∉ l)
  | [], σ => by
    show σ.nodes = _
    rw [List.filter_eq_self.mpr]
    intro x _; simp
  | x :: l, σ => by
    show (rmNs (σ.rmN x) l).nodes = _
    rw [rmNs_nodes l]
    show (σ.nodes.filter (· ≠ x)).filter _ = _
    rw [List.filter_filter]
    refine List.filter_congr fun y _ => ?_
    rw [Bool.eq_iff_iff]
    simp [and_comm]
theorem rmNs_wt : ∀ (l : List Int) (σ : PS), (rmNs σ l).wt = σ.wt
  | [], _ => rfl
  | x :: l, σ => by
    show (rmNs (σ.rmN x) l).wt = _
    rw [rmNs_wt l]; rfl
/-- the law's edges when nodes are taken out -/
def wnode (es : List Edg) (l : List Int) : List Edg := es.filter fun e => decide (e.1.1 ∉ l ∧ e.1.2 ∉ l)
theorem Rel.rmNs {σ : PS} {es : List Edg} (R : Rel σ es) (l : List Int) : Rel (rmNs σ l) (wnode es l) := by
  refine ⟨R.nd.sublist ((List.filter_sublist ..).map _), fun e he => R.ord e (List.mem_filter.mp he).1, fun a b => ?_, fun e he => by rw [rmNs_wt]; exact R.wt e (List.mem_filter.mp he).1⟩
  rw [rmNs_mem, R.mem]
  unfold wnode
  constructor
  · rintro ⟨h, h1, h2⟩
    obtain ⟨e, he, h3⟩ := List.mem_map.mp h
    refine List.mem_map.mpr ⟨e, List.mem_filter.mpr ⟨he, decide_eq_true ?_⟩, h3⟩
    rw [h3]
    unfold prOf
    rcases Int.le_total a b with h | h
    · rw [Int.min_eq_left h, Int.max_eq_right h]; exact ⟨h1, h2⟩
    · rw [Int.min_eq_right h, Int.max_eq_left h]; exact ⟨h2, h1⟩
  · intro h
    obtain ⟨e, he, h3⟩ := List.mem_map.mp h
    obtain ⟨h4, h5⟩ := List.mem_filter.mp he
    have h5 := of_decide_eq_true h5
    rw [h3] at h5
    refine ⟨List.mem_map.mpr ⟨e, h4, h3⟩, ?_⟩
    unfold prOf at h5
    rcases Int.le_total a b with h | h
    · rw [Int.min_eq_left h, Int.max_eq_right h] at h5; exact h5
    · rw [Int.min_eq_right h, Int.max_eq_left h] at h5; exact ⟨h5.2, h5.1⟩
theorem Rel.nil {σ : PS} (h : ∀ n, σ.nbrs n = []) : Rel σ [] := by
  refine ⟨.nil, ?_, fun u v => ?_, ?_⟩
  · intro e he; cases he
  · rw [h]; simp
  · intro e he; cases he
theorem PS.WF.nil {σ : PS} (h : ∀ n, σ.nbrs n = []) (h1 : σ.nodes = []) (h2 : σ.an = []) : σ.WF := by
  refine ⟨by rw [h1, h2], by rw [h1]; exact .nil, ?_, fun n => by rw [h]; exact .nil, ?_⟩
  · intro n hn; rw [h1] at hn; cases hn
  · intro n v hv; rw [h] at hv; cases hv
theorem PS.WF.clrE {σ : PS} (W : σ.WF) : σ.clrE.WF := ⟨W.an, W.nd, W.rng, fun _ => List.nodup_nil, fun _ _ hv => nomatch hv⟩
end Mine
end
section -- P5
open PySem PySem.W PySem.Calls PyProof.Rows
namespace Mine
theorem perm_sorted_eq {α : Type} {f : α → Int} : ∀ {a b : List α}, a.Perm b → a.Pairwise (fun x y => f x < f y) → b.Pairwise (fun x y => f x < f y) → a = b
  | [], b, p, _, _ => (List.Perm.eq_nil p.symm).symm
  | x :: a, [], p, _, _ => absurd (List.Perm.eq_nil p) (by simp)
  | x :: a, y :: b, p, ha, hb => by
    obtain ⟨h1, h2⟩ := List.pairwise_cons.mp ha
    obtain ⟨h3, h4⟩ := List.pairwise_cons.mp hb
    have hx : x ∈ y :: b := p.mem_iff.mp (.head _)
    have hy : y ∈ x :: a := p.mem_iff.mpr (.head _)
    have e : x = y := by
      rcases List.mem_cons.mp hx with h | h
      · exact h
      · rcases List.mem_cons.mp hy with h' | h'
        · exact h'.symm
        · have := h1 _ h'; have := h3 _ h; omega
    subst e
    rw [perm_sorted_eq (List.Perm.cons_inv p) h2 h4]
theorem sorted_two {ns : List Int} {u k : Int} (p : ns.Perm [u, k]) (o : ns.Pairwise (· ≤ ·)) : ns = [(prOf u k).1, (prOf u k).2] := by
  have hl := p.length_eq
  obtain ⟨x, y, rfl⟩ : ∃ x y, ns = [x, y] := by
    match ns, hl with
    | [x, y], _ => exact ⟨x, y, rfl⟩
  have h1 : x ≤ y := by
    have := (List.pairwise_cons.mp o).1 y (.head _)
    exact this
  unfold prOf
  show [x, y] = [min u k, max u k]
  have hx : x = u ∨ x = k := by
    have := p.mem_iff.mp (List.mem_cons_self (a := x) (l := [y]))
    simpa using this
  have one : ∀ a b : Int, [a].Perm [b] → a = b := fun a b q => by
    have := q.mem_iff.mp (List.mem_cons_self (a := a) (l := []))
    simpa using this
  have hs : x + y = u + k := by
    rcases hx with rfl | rfl
    · rw [one _ _ (List.Perm.cons_inv p)]
    · have := one _ _ (List.Perm.cons_inv (p.trans (List.Perm.swap ..)))
      omega
  have : x = min u k ∧ y = max u k := by omega
  rw [this.1, this.2]
theorem two_vals {vs : List Value} {a b : Int} (h : IntsAre vs [a, b]) : ∃ t u, vs = [.int a t, .int b u] := by
  cases h with
  | cons _ t r => cases r with
    | cons _ u r => cases r; exact ⟨t, u, rfl⟩
/-- a pair cell that is not D -/
def PairOff (C : Led) (D : Addr) (v : Value) (p : Int × Int) : Prop := ∃ a t u, v = .ref a ∧ a ≠ D ∧ C a = some (.lst [.int p.1 t, .int p.2 u])
theorem PairOff.to {C : Led} {D : Addr} {v : Value} {p : Int × Int} (h : PairOff C D v p) : PairAt C v p := let ⟨a, t, u, e, _, h⟩ := h; ⟨a, t, u, e, h⟩
theorem PairOff.kg {C C' : Led} {D : Addr} (k : KG C C') {v : Value} {p : Int × Int} (h : PairOff C D v p) : PairOff C' D v p := let ⟨a, t, u, e, n, h⟩ := h; ⟨a, t, u, e, n, k _ _ h rfl⟩
theorem PairOff.upd {C : Led} {D : Addr} {c : Cell} {v : Value} {p : Int × Int} (h : PairOff C D v p) : PairOff (upd C D c) D v p := let ⟨a, t, u, e, n, h⟩ := h; ⟨a, t, u, e, n, by rw [upd_ne n]; exact h⟩
end Mine
end
section -- R3
open PySem PySem.W PySem.Calls PyProof.Rows
namespace Mine
section
variable {w : World} {g : Heap} {L : Addr} {m : List (Str × Value)} {F : List (Addr × List (Str × Value))} {C : Led} {G : Array GenState} {O : OsState} {s : Shared} {A : Around} {E : Value → Shared → Prop} {env : Env}
/-- y = [.. for ..], the comprehension told apart -/
theorem r_asComp {elt target iter : PySem.Expr} {ifs : List PySem.Expr} {scope : Scope} {pos spos py : Pos} {y : Str} {Q : Flow → Shared → Prop}
    (hsw : swapsWith (.ListComp elt [⟨target, iter, ifs, 0⟩] scope pos) (some (.Name y py)) spos.line env = pure true)
    (h : wpAny (model PR w) A (comprehension (.ListComp elt [⟨target, iter, ifs, 0⟩] scope pos) scope env (firstIterPos [⟨target, iter, ifs, 0⟩] pos) (newList []) false (eval iter env) (some (assign (.Name y py) env))) (fun _ s' => Q .next s') E s) :
    wpAny (model PR w) A (exec (.Assign [.Name y py] (.ListComp elt [⟨target, iter, ifs, 0⟩] scope pos) spos) env) Q E s := by
  rw [exec_Assign_Name_used _ _ _ _ hsw]
  refine wpAny_bind (wpAny_standAt (wpAny_bind ?_))
  show wpAny _ A (do let _ ← comprehension (.ListComp elt [⟨target, iter, ifs, 0⟩] scope pos) scope env _ (newList []) false (eval iter env) (some (assign (.Name y py) env))) _ _ s
  exact wpAny_bind (wpAny_mono h (fun _ s' hq => wpAny_pure (wpAny_pure hq)) fun _ _ e => e)
/-- x, y = t, both cells of the function's own -/
theorem r_asPC {x y : Str} {p1 p2 p3 : Pos} {k : Nat} {t cx cy : Addr} {v1 v2 : Value} {u1 u2 : Option Value} {Q : Unit → Shared → Prop} (S : St w g L m F C G O s) (hh : A.handled = none) (ht : C t = some (.tup [v1, v2]))
    (hcx : env.cells.lookup x = some cx) (hcy : env.cells.lookup y = some cy) (h1 : C cx = some (.cv u1)) (h2 : C cy = some (.cv u2)) (hne : cx ≠ cy)
    (h : ∀ s', St w g L m F (upd (upd C cx (.cv (some v1))) cy (.cv (some v2))) G O s' → Q () s')
    (hk : env.scope.kind = .function := by rfl) (hx : env.kindOf x = some .cell := by rfl) (hy : env.kindOf y = some .cell := by rfl) :
    wpAny (model PR w) A (assign (.Tuple [.Name x p1, .Name y p2] k p3) env (.ref t)) Q E s := by
  refine r_assignT S hh ht rfl rfl fun s1 S1 => ?_
  show wpAny _ _ (assignInOrder [assign (.Name x p1) env, assign (.Name y p2) env] [v1, v2]) _ _ _
  refine assignInOrder_cons (wpAny_assign_Name (r_storec S1 hcx h1 (fun s2 S2 => ?_) hk hx))
  refine assignInOrder_cons (wpAny_assign_Name (r_storec S2 hcy (by rw [upd_ne hne.symm]; exact h2) (fun s3 S3 => ?_) hk hy))
  exact assignInOrder_nil (h _ S3)
end
/-- a tuple (n, row) as the law keeps them -/
def RowTup (C : Led) (v : Value) (q : Int × Value) : Prop := ∃ a t, v = .ref a ∧ C a = some (.tup [.int q.1 t, q.2])
theorem RowTup.ext {C C' : Led} (k : Ext C C') {v : Value} {q : Int × Value} (h : RowTup C v q) : RowTup C' v q := let ⟨a, t, e, h⟩ := h; ⟨a, t, e, k _ _ h⟩
/-- (other, data): what is due at a node -/
def DueAt (n : Int) (C : Led) (v : Value) (e : Edg) : Prop := ∃ a t d kvs ep, v = .ref a ∧ C a = some (.tup [.int (oth n e.1) t, .ref d]) ∧ C d = some (.ds .none kvs ep) ∧ KvsOk kvs e.2
theorem DueAt.ext {n : Int} {C C' : Led} (k : Ext C C') {v : Value} {e : Edg} (h : DueAt n C v e) : DueAt n C' v e := by
  obtain ⟨a, t, d, kvs, ep, h1, h2, h3, h4⟩ := h
  exact ⟨a, t, d, kvs, ep, h1, k _ _ h2, k _ _ h3, h4⟩
theorem Vok.mono {C C' : Led} {a : GA} {dv ev : Option Value} (x : Vok C a dv ev) (k : ∀ b c, C b = some c → ((∃ o, c = .obj o) ∨ ∃ f n h, c = .sm f n h) → C' b = some c) : Vok C' a dv ev := by
  refine ⟨fun v e => ?_, fun v e => ?_⟩
  · obtain ⟨b, e', d, h1, h2⟩ := x.1 v e
    exact ⟨b, e', d, k _ _ h1 (.inl ⟨_, rfl⟩), k _ _ h2 (.inr ⟨_, _, _, rfl⟩)⟩
  · obtain ⟨b, e', d, h1, h2⟩ := x.2 v e
    exact ⟨b, e', d, k _ _ h1 (.inl ⟨_, rfl⟩), k _ _ h2 (.inr ⟨_, _, _, rfl⟩)⟩
theorem has_dec (n : Int) (q : Int × Int) : decide (n ∈ [q.1, q.2]) = hasN n q := by
  unfold hasN
  rw [Bool.eq_iff_iff]
  simp
end Mine
end
section -- R2
open PySem PySem.W PySem.Calls PyProof.Rows
namespace Mine
example : hd.heap_39 = hd.heap_39 ∧ PySem.Challenge.rw_ez0179_01 = PySem.Challenge.rw_ez0179_01 := by k_fill; exact ⟨rfl, rfl⟩
/-- what the law holds beside the graph -/
structure LawAt (C : Led) (nl el mk : Addr) (nvs evs : List Value) (mkv : List (Str × Value)) (ns : List Int) (es : List Edg) : Prop where
  n : C nl = some (.lst nvs)
  ni : IntsAre nvs ns
  e : C el = some (.lst evs)
  ei : All2 (EdgeAt C) evs es
  m : ∃ ep, C mk = some (.ds .none mkv ep)
theorem PairAt.pg {C C' : Led} (k : KPG C C') {v : Value} {p : Int × Int} (h : PairAt C v p) : PairAt C' v p := let ⟨a, t, u, e, h⟩ := h; ⟨a, t, u, e, k _ _ h trivial rfl⟩
theorem EdgeAt.pg {C C' : Led} (k : KPG C C') {v : Value} {e : Edg} (h : EdgeAt C v e) : EdgeAt C' v e := by
  obtain ⟨a, p, d, kvs, ep, h1, h2, h3, h4, h5⟩ := h
  exact ⟨a, p, d, kvs, ep, h1, k _ _ h2 trivial rfl, h3.pg k, k _ _ h4 rfl rfl, h5⟩
theorem LawAt.pg {C C' : Led} {nl el mk : Addr} {nvs evs : List Value} {mkv : List (Str × Value)} {ns : List Int} {es : List Edg} (x : LawAt C nl el mk nvs evs mkv ns es) (k : KPG C C') : LawAt C' nl el mk nvs evs mkv ns es :=
  ⟨k _ _ x.n trivial rfl, x.ni, k _ _ x.e trivial rfl, x.ei.imp fun _ _ q => q.pg k, let ⟨ep, h⟩ := x.m; ⟨ep, k _ _ h rfl rfl⟩⟩
def BsAt (ys : List Value) (bs : List Bool) : Prop := All2 (fun v b => v = Value.bool b) ys bs
section
variable {p : Program} {loose : List Str} {mg mb : Str → Option Value} {nf : Bool}
  {w : World} {g : Heap} {L : Addr} {m : List (Str × Value)} {F : List (Addr × List (Str × Value))} {C : Led} {G : Array GenState} {O : OsState} {s : Shared} {A : Around} {E Q : Value → Shared → Prop} {a : GA}
  {dv ev : Option Value} {gk : List (Str × Value)} {σ : PS} {frs : List Env}
set_option maxHeartbeats 4000000 in
theorem right_spec (S : St w g L m F C G O s) (D : Wd (hd.heap_39 w.params) p loose mg mb g) (BM : BMd mg g) (hh : A.handled = none) (hfr : A.frames = some frs) (B : Frs frs L F) (hroom : A.depth + 48 < recursionLimit) (hu : A.units + 512 < cLine)
    (H : Gr C a dv ev gk σ) (W : σ.WF) (V : Vok C a dv ev) (hnf : nf = true ∨ dv.isSome = true ∨ ev.isSome = true) {nl el mk : Addr} {nvs evs : List Value} {mkv : List (Str × Value)} {es : List Edg} (T : LawAt C nl el mk nvs evs mkv σ.nodes es) (R : Rel σ es)
    (hgm : gk.length = mkv.length ∧ ∀ p ∈ gk, ∃ i t u, p.2 = .int i t ∧ valueAt mkv p.1 = some (.int i u)) {Q : Value → Shared → Prop}
    (h : ∀ s' C' G' v1 v2, St w g L m F C' G' O s' → GG G G' → Gr C' a (some (.ref v1)) (some (.ref v2)) gk σ → KPG C C' → Vok C' a (some (.ref v1)) (some (.ref v2)) → Q (.bool true) s') :
    wpB nf (model PR w) A (call (.ref 661) [.ref a.x, .ref nl, .ref el, .ref mk]) Q s := by
  refine' b_enterC (binds := [(Str.ofString "graph", .ref a.x), (Str.ofString "nodes", .ref nl), (Str.ofString "edges", .ref el), (Str.ofString "mark", .ref mk)]) S D ?ho ?hcd ?room ?hb (OkC.of (by kernel_rfl)) ?_ ?c1 ?c2 ?c3
  case ho => k_is
  case hcd => k_is
  case room => omega
  case hb => exact .of_eq rfl
  case c1 => rfl
  case c2 => rfl
  case c3 => rfl
  intro L1 C1 s1 N1 S1
  have cg := (N1.get (Str.ofString "graph") _ rfl).1
  have cn := (N1.get (Str.ofString "nodes") _ rfl).1
  have cno := (N1.get (Str.ofString "node") _ rfl).1
  have cro := (N1.get (Str.ofString "row") _ rfl).1
  have cno0 : C (L1 + 1 + 1 + 1) = none := (N1.get (Str.ofString "node") _ rfl).2
  have cro0 : C (L1 + 1 + 1 + 1 + 1) = none := (N1.get (Str.ofString "row") _ rfl).2
  have X0 := N1.ext
  have H1 := H.ext X0
  have T1 := T.pg X0.pg
  have V1 := V.pg X0.pg
  clear N1
  obtain ⟨m1, S1, me, mm⟩ : ∃ m1, St w g L1 m1 ((L, m) :: F) C1 G O s1 ∧ m1.lookup (Str.ofString "edges") = some (.ref el) ∧ m1.lookup (Str.ofString "mark") = some (.ref mk) := ⟨_, S1, rfl, rfl⟩
  replace cg : C1 (L1 + 1) = some (.cv (some (.ref a.x))) := cg
  replace cn : C1 (L1 + 1 + 1) = some (.cv (some (.ref nl))) := cn
  replace cno : C1 (L1 + 1 + 1 + 1) = some (.cv none) := cno
  replace cro : C1 (L1 + 1 + 1 + 1 + 1) = some (.cv none) := cro
  have len := IntsAre.length T.ni
  have wl := W.len
  have hlen2 := T.ei.length
  have hel := R.len W
  refine wpB_execs_cons (wpB_any (wpAny_If (wpAny_isTrue_BoolOp (wpAny_allTrue_Or_cons (wpAny_isTrue_Compare1 ?_)))))
  refine r_tcall1 S1 D (nb_list w) bi_list (by decide) (r_cell S1 rfl cg ?_)
  refine list_graph S1 D (by show A.depth + 1 + 5 < _; omega) hh H1 W fun l2 s2 C2 G2 vs2 S2 g2 X2 hl2 hi2 => ?_
  have g2' : G2 = G := g2
  subst g2'
  refine r_cell S2 rfl (X2 _ _ cn) ?_
  refine r_neI S2 hl2 (X2 _ _ T1.n) hi2 T.ni (by show A.units + 3 + 64 < _; omega) (wpAny_truthy_bool ?_)
  rw [show (!decide (σ.nodes = σ.nodes)) = false by simp]
  rw [if_neg Bool.false_ne_true]
  have H2 := H1.ext X2
  refine wpAny_allTrue_Or_cons (wpAny_isTrue_Compare1 (r_bcall1 S2 D (nb_len w) bi_len (by decide) (r_cell S2 rfl (X2 _ _ cg) ?_)))
  refine len_spec S2 D (by show A.depth + 1 + 5 < _; omega) H2 W fun t3 s3 S3 => ?_
  refine r_bcall1 S3 D (nb_len w) bi_len (by decide) (r_cell S3 rfl (X2 _ _ cn) (r_lenL S3 (X2 _ _ T1.n) (by omega) fun t4 s4 S4 => ?_))
  refine PyProof.Rows.ne_int (wpAny_truthy_bool ?_)
  rw [show ((σ.nodes.length : Int) != (nvs.length : Int)) = false by rw [len]; simp]
  rw [if_neg Bool.false_ne_true]
  obtain ⟨ekg, hgr⟩ := H2.gr
  refine wpAny_allTrue_Or_cons (wpAny_isTrue_Compare1 (r_cattr S4 D rfl (X2 _ _ cg) H2.x H2.dx (ok_graph w) rfl rfl fun s5 S5 => ?_))
  obtain ⟨emk, hmk⟩ := T1.m
  refine r_loc S5 mm (r_neKv S5 hgr (X2 _ _ hmk) (by show A.units + 3 + 8 < _; omega) hgm.1 hgm.2 (wpAny_truthy_bool ?_))
  rw [if_neg Bool.false_ne_true]
  refine wpAny_allTrue_Or_nil ?_
  rw [if_neg Bool.false_ne_true]
  refine wpAny_execs_nil ?_
  clear S2 S3 S4 S1
  have X5 := X0.trans X2
  have cg5 := X2 _ _ cg
  have cn5 := X2 _ _ cn
  have cno5 := X2 _ _ cno
  have cro5 := X2 _ _ cro
  have T5 := T1.pg X2.pg
  have V5 := V1.pg X2.pg
  clear H1 T1 V1 cg cn cno cro hmk hgr hl2 X2
  refine wpB_execs_cons (wpB_any (wpAny_If (wpAny_isTrue_BoolOp (wpAny_allTrue_Or_cons (wpAny_isTrue_Compare1 ?_)))))
  rw [eval_ListComp]
  refine r_compRg (n := 8) (R := fun i _ ys => BsAt ys ((List.range i).map fun j : Nat => decide ((j : Int) ∈ σ.nodes))) .nm ⟨rfl, rfl, by decide, by decide⟩ hh (by show A.depth + 1 < _; omega) (by omega) (r_tcall1 S5 D (nb_range w) bi_range (by decide) (r_int S5 fun t6 s6 S6 => r_range (n := 8) S6 (by omega) fun r s7 t u v hr S7 => ⟨r, t, u, v, rfl, hr, S7⟩)) (fun _ => All2.nil) (fun _ _ _ _ q _ => q) ?_ ?_
  · intro Lc i mc C6 t s6 E' ys hi X6 hr S6
    refine r_asN S6 fun s7 S7 => r_if0 ?_
    rw [if_pos rfl]
    refine MethodCall_ (he := rfl) (r_cell S7 rfl (X6 _ _ cg5) ?_)
    have H6 := H2.ext X6
    refine r_meth S7 D H6.x H6.dx (pl_617 w _) (m_478 w) (fn_478 w) rfl ?_
    refine callWith_K (D.X) (kp_478 w) ?_ rfl
    refine wpAny_items_cons (he := rfl) (r_loc S7 rfl (wpAny_items_nil ⟨D.X.keeps S7.keep, ?_⟩))
    refine has_node_spec S7 D (by show A.depth + 1 + 5 < _; omega) H6 fun s8 S8 => ?_
    refine ⟨_, _, S8, .refl _, fun Cx _ _ hx => ?_⟩
    rw [List.range_succ, List.map_append]
    exact All2.snoc hx rfl
  intro D6 Lc mc C6 s6 ys6 hD6 X6 hr6 hD6' S6
  refine compPost_val S5 S6 fun s7 S7 => ?_
  clear S6
  rw [eval_ListComp]
  refine r_compRg (n := 8) (R := fun i _ ys => BsAt ys ((List.range i).map fun j : Nat => decide ((j : Int) ∈ σ.nodes))) .nm ⟨rfl, rfl, by decide, by decide⟩ hh (by show A.depth + 1 < _; omega) (by omega) (r_tcall1 S7 D (nb_range w) bi_range (by decide) (r_int S7 fun t8 s8 S8 => r_range (n := 8) S8 (by omega) fun r s9 t u v hr S9 => ⟨r, t, u, v, rfl, hr, S9⟩)) (fun _ => All2.nil) (fun _ _ _ _ q _ => q) ?_ ?_
  · intro Lc i mc C8 t s8 E' ys hi X8 hr S8
    refine r_asN S8 fun s9 S9 => r_if0 ?_
    rw [if_pos rfl]
    refine wpAny_Compare1 (r_loc S9 rfl (r_cell S9 rfl (X8 _ _ (X6 _ _ cn5)) (r_inL S9 (X8 _ _ (X6 _ _ T5.n)) T5.ni ?_)))
    refine ⟨_, _, S9, .refl _, fun Cx _ _ hx => ?_⟩
    rw [List.range_succ, List.map_append]
    exact All2.snoc hx rfl
  intro D8 Lc mc C8 s8 ys8 hD8 X8 hr8 hD8' S8
  refine compPost_val S7 S8 fun s9 S9 => ?_
  clear S8
  refine r_neB S9 (X8 _ _ hD6') hD8' hr6 hr8 (by show A.units + 3 + 64 < _; omega) (wpAny_truthy_bool ?_)
  rw [if_neg Bool.false_ne_true]
  have X9 := X6.trans X8
  have H9 := H2.ext X9
  refine wpAny_allTrue_Or_cons (wpAny_isTrue_value (MethodCall_ (he := rfl) (r_cell S9 rfl (X9 _ _ cg5) ?_)))
  refine r_meth S9 D H9.x H9.dx (pl_617 w _) (m_478 w) (fn_478 w) rfl ?_
  refine callWith_K (D.X) (kp_478 w) ?_ rfl
  refine wpAny_items_cons (he := rfl) (r_lst (wpAny_items_cons (he := rfl) (r_int S9 fun t10 s10 S10 => wpAny_items_nil ⟨by simp, _, _, _, _, _, _, _, S10, fun l11 s11 hl11 S11 => wpAny_items_nil ⟨D.X.keeps S11.keep, ?_⟩⟩)))
  have X11 := Ext.upd (c := .lst [.int 1 t10]) hl11
  refine has_node_list (A := A.deeper _) S11 D (by show A.depth + 1 + 5 < _; omega) (by show A.units + 3 + 16 < _; omega) hh (Around.frames_deeper hfr) (B.push (by intro q; cases q) rfl) (H9.ext X11) (upd_same ..) fun s12 S12 => wpAny_truthy_bool ?_
  rw [if_neg Bool.false_ne_true]
  refine wpAny_allTrue_Or_nil ?_
  rw [if_neg Bool.false_ne_true]
  refine wpAny_execs_nil ?_
  have X12 := X9.trans X11
  have X13 := X5.trans X12
  have cg6 := X12 _ _ cg5
  have cn6 := X12 _ _ cn5
  have cno6 := X12 _ _ cno5
  have cro6 := X12 _ _ cro5
  have T6 := T5.pg X12.pg
  have V6 := V5.pg X12.pg
  have H6 := H2.ext X12
  generalize upd C8 l11 (.lst [.int 1 t10]) = C12 at S12 X12 X13 cg6 cn6 cno6 cro6 T6 V6 H6
  clear S5 S7 S9 S10 S11 cg5 cn5 cno5 cro5 T5 V5 H2 H9
  -- the sizes
  have hhalf := R.half W
  refine wpB_execs_cons (wpB_If (b_isTrue_BoolOp (b_Or_cons (wpB_isTrue_Compare1 (b_MethodCall (r_cell S12 rfl cg6 (wpB_any (r_meth S12 D H6.x H6.dx (pl_617 w _) (m_size w) (fn_606 w) rfl ?_))))))))
  refine b_callK0 (D.X.keeps S12.keep) (kp_606 w) ?_
  refine size_spec S12 D BM hh (by show A.depth + 1 + 24 < _; omega) H6 W V6 hnf fun v7 t7 s7 C7 G7 S7 g7 H7 K7 V7 => ?_
  rw [hhalf]
  have T7 := T6.pg K7
  have lenE : ∀ {C' : Led} {G' : Array GenState} {s' : Shared}, LawAt C' nl el mk nvs evs mkv σ.nodes es → St w g L1 m1 ((L, m) :: F) C' G' O s' → True := fun _ _ => trivial
  refine r_bcall1 S7 D (nb_len w) bi_len (by decide) (r_loc S7 me (r_lenL S7 T7.e (by omega) fun t8 s8 S8 => PyProof.Rows.ne_int (wpAny_truthy_bool ?_)))
  rw [show ((es.length : Int) != (evs.length : Int)) = false by rw [hlen2]; simp]
  rw [if_neg Bool.false_ne_true]
  refine wpB_any (wpAny_allTrue_Or_cons (wpAny_isTrue_Compare1 (r_bcall1 S8 D (nb_len w) bi_len (by decide) (Attribute_name (r_cell S8 rfl (K7 _ _ cg6 trivial rfl) (wpB_to (edges_any S8 D hh (by show A.depth + 1 + 16 < _; omega) H7 V7 (.inr (.inl rfl)) fun v9 s9 C9 S9 H9 K9 V9 E9 => ?_)))))))
  refine edges_len S9 D BM hh (by show A.depth + 1 + 24 < _; omega) H9 W E9 fun t10 s10 C10 G10 S10 g10 H10 K10 => ?_
  rw [hhalf]
  have K810 := (K7.trans K9).trans K10
  have T10 := T6.pg K810
  refine r_bcall1 S10 D (nb_len w) bi_len (by decide) (r_loc S10 me (r_lenL S10 T10.e (by omega) fun t11 s11 S11 => PyProof.Rows.ne_int (wpAny_truthy_bool ?_)))
  rw [show ((es.length : Int) != (evs.length : Int)) = false by rw [hlen2]; simp]
  rw [if_neg Bool.false_ne_true]
  refine wpAny_allTrue_Or_cons (wpAny_isTrue_Compare1 (MethodCall_ (he := rfl) (r_cell S11 rfl (K810 _ _ cg6 trivial rfl) (r_meth S11 D H10.x H10.dx (pl_617 w _) (m_614 w) (fn_614 w) rfl ?_))))
  refine callWith_K0 (D.X.keeps S11.keep) (kp_614 w) ?_
  have V10 := V9.pg K10
  refine number_spec S11 D BM hh (by show A.depth + 1 + 32 < _; omega) H10 W V10 (.inl rfl) fun v12 t12 s12 C12' G12 S12' g12 H12 K12 V12 => ?_
  rw [hhalf]
  have K13 := K810.trans K12
  have T12 := T6.pg K13
  refine r_bcall1 S12' D (nb_len w) bi_len (by decide) (r_loc S12' me (r_lenL S12' T12.e (by omega) fun t13 s13 S13 => PyProof.Rows.ne_int (wpAny_truthy_bool ?_)))
  rw [show ((es.length : Int) != (evs.length : Int)) = false by rw [hlen2]; simp]
  rw [if_neg Bool.false_ne_true]
  refine wpAny_allTrue_Or_nil ?_
  rw [if_neg Bool.false_ne_true]
  refine wpB_execs_nil ?_
  have g13 := (g7.trans g10).trans g12
  have KK := X13.pg.trans K13
  have cg13 := K13 _ _ cg6 trivial rfl
  have cn13 := K13 _ _ cn6 trivial rfl
  have cno13 := K13 _ _ cno6 trivial rfl
  have cro13 := K13 _ _ cro6 trivial rfl
  clear S7 S8 S9 S10 S11 S12 S12' T6 T7 T10 V6 V7 V9 V10 H6 H7 H9 H10 E9 K810 K7 K9 K10 K12 K13 cg6 cn6 cno6 cro6 g7 g10 g12 X12 X13 lenE hnf
  -- the pairs
  refine wpB_execs_cons (wpB_any (wpAny_If (wpAny_isTrue_Compare1 (r_bcall1 S13 D (nb_sorted w) bi_sorted (by decide) ?_))))
  rw [eval_ListComp]
  refine wpAny_comprehension_free rfl (fun _ => rfl) rfl rfl (by decide) ?_
  refine Attribute_name (r_cell S13 rfl cg13 (wpB_to (edges_any S13 D hh (by show A.depth + 1 + 16 < _; omega) H12 V12 (.inr (.inl rfl)) fun v14 s14 C14 S14 H14 K14 V14 E14 => ?_)))
  refine edg_iter S14 D (by show A.depth + 1 + 8 < _; omega) H14 W E14 fun I14 gi s15 C15 G15 S15 X15 hI15 hgi15 g15 hgen => ?_
  have hgi : gi < G15.size := by
    obtain ⟨_, _, _, _, _, e, _⟩ := hgen (A.in1.in1) hh (by show A.depth + 9 < _; omega)
    exact lt_of_get e
  have hplen : (pairsE σ).length = es.length := by
    have := (R.pairs W).length_eq
    rw [List.length_map, List.length_map] at this; exact this
  refine r_compD (iter_gen (P := EdgP σ) (gi := gi) (gv := []) (I := I14) (n := (pairsE σ).length) (t := _) (by exact hh) (by show A.depth + 1 < _; omega) D.T.nolimit .nm (by simp))
    (fun D i C G' ys => KG C15 C ∧ GRx [gi] G15 G' ∧ C15 D = none ∧ All2 (PairOff C D) ys (((pairsE σ).take i).map fP)) ⟨rfl, rfl, by decide, by decide⟩ (by omega) S15 ?_ ?_ ?_ ?_ ?_
  · intro D0 hD0
    exact (hgen _ (by exact hh) (by show A.depth + 1 + 9 < _; omega)).keep (Ext.upd hD0).kc fun _ _ => rfl
  · intro D0 hD0
    exact ⟨(Ext.upd hD0).kg, .refl _ _, hD0, .nil⟩
  · intro D0 i C C' G ys _ e k
    exact k _ _ e rfl
  · intro D0 Lc i mc C16 G16 C17 G17 v s17 E' ys hi hD0 hI hJ hK hG hI' hP hD0' S17
    obtain ⟨j1, j2, j3, j4⟩ := hJ
    obtain ⟨T, u, k, t1, t2, rfl, hp, hT⟩ := hP
    refine r_asN S17 fun s18 S18 => r_if0 ?_
    rw [if_pos rfl]
    refine r_bcall1 S18 D (nb_sorted w) bi_sorted (by decide) (r_loc S18 rfl ?_)
    refine r_sortedI (ns := [u, k]) (by show 2 < 64; decide) (c_seqT S18 hT (by show 2 ≤ 1000; decide) fun s19 S19 => ⟨.cons _ _ (.cons _ _ .nil), S19⟩) fun D2 vs' ns' s20 hD2 S20 hi20 hp20 ho20 => ?_
    obtain rfl := sorted_two hp20 ho20
    obtain ⟨ta, tb, rfl⟩ := two_vals hi20
    have hne : D2 ≠ D0 := by rintro rfl; rw [hD0'] at hD2; cases hD2
    have hD3 : upd C17 D2 (.lst [.int (prOf u k).1 ta, .int (prOf u k).2 tb]) D0 = some (.lst ys) := upd_old hD0' hD2
    refine ⟨_, _, _, S20, hD3, ?_, ?_, j2.trans hG, j3, ?_⟩
    · exact hI'.keep ((Ext.upd hD2).kc.trans (KC.upd hD3)) fun _ _ => rfl
    · intro b c e hk
      have e1 := hK b c (j1 b c e hk) hk
      rw [upd_ne (by rintro rfl; rw [j3] at e; cases e)]
      exact upd_old e1 hD2
    · rw [List.take_add_one, hp, List.map_append]
      refine All2.snoc (j4.imp fun v q hq => ?_) ⟨D2, ta, tb, rfl, hne, ?_⟩
      · exact ((hq.kg hK).kg (Ext.upd hD2).kg).upd
      · rw [upd_ne hne]; exact upd_same ..
  · intro D0 Lc mc C16 G16 C17 G17 s17 ys hI hJ hK hG hD0 S17
    obtain ⟨j1, j2, j3, j4⟩ := hJ
    refine compPost_val S15 S17 fun s18 S18 => ?_
    rw [List.take_length] at j4
    have j5 := j4.imp fun v q hq => (hq.kg hK).to
    have k17 := j1.trans hK
    have r17 := j2.trans hG
    have gg17 : GG G12 G17 := by
      refine ⟨fun j x e => ?_, fun hb => r17.2 (g15.2 hb)⟩
      have e4 := g15.1 j x e
      rw [r17.1 j (by rw [List.mem_singleton]; rintro rfl; rw [hgi15] at e; cases e)]; exact e4
    have K17 : KPG C12' C17 := (K14.trans X15.pg).trans k17.pg
    have H17 := (H14.ext X15).kg k17
    have V17 := V14.pg (X15.pg.trans k17.pg)
    have T17 := T12.pg K17
    have cg17 := K17 _ _ cg13 trivial rfl
    have cn17 := K17 _ _ cn13 trivial rfl
    have cno17 := K17 _ _ cno13 trivial rfl
    have cro17 := K17 _ _ cro13 trivial rfl
    have hperm := R.pairs W
    have hnd : ((pairsE σ).map fP).Nodup := hperm.nodup_iff.mpr R.nd
    have hyl := j5.length
    rw [List.length_map, hplen] at hyl
    refine r_sortP (xs := ys) j5 hnd (fun q hq => R.rng W q (hperm.mem_iff.mp hq)) (by rw [List.length_map, hplen]; omega) (by show A.units + 3 + 8 < _; omega) (c_seqL S18 hD0 (by omega) fun s19 S19 => ⟨rfl, S19⟩) fun D3 vs3 ps3 s20 hD3 S20 a3 p3 o3 => ?_
    have X20 := Ext.upd (c := .lst vs3) hD3
    refine r_bcall1 S20 D (nb_sorted w) bi_sorted (by decide) ?_
    rw [eval_ListComp]
    refine r_compL (l := el) (vs := evs) (R := fun i Cx ys => All2 (PairAt Cx) ys ((es.take i).map (·.1))) .tu ⟨rfl, rfl, by decide, by decide⟩ hh (by show A.depth + 1 < _; omega) (by omega) (r_loc S20 me ⟨rfl, X20 _ _ T17.e, S20⟩) (fun _ => All2.nil) (fun i C C' ys hr x => hr.imp fun _ _ q => q.ext x) ?_ ?_
    · intro Lc i mc C21 v s21 E' ys hv X21 hr S21
      obtain ⟨e, he1, ea, ep, ed, kvs, eep, rfl, hea, hep, hed, hek⟩ := T17.ei.get hv
      refine r_asP S21 hh (X21 _ _ (X20 _ _ hea)) fun s22 S22 => r_if0 ?_
      rw [if_pos rfl]
      refine r_loc S22 rfl ⟨_, _, S22, .refl _, fun Cx xb _ hx => ?_⟩
      rw [List.take_add_one, he1, List.map_append]
      exact All2.snoc hx (hep.ext (X20.trans xb))
    · intro D4 Lc mc C21 s21 zs hD4 X21 hr21 hD4' S21
      refine compPost_val S20 S21 fun s22 S22 => ?_
      rw [hlen2, List.take_length] at hr21
      have hzl := hr21.length
      rw [List.length_map] at hzl
      refine r_sortP (xs := zs) hr21 R.nd (R.rng W) (by rw [List.length_map]; omega) (by show A.units + 3 + 8 < _; omega) (c_seqL S22 hD4' (by omega) fun s23 S23 => ⟨rfl, S23⟩) fun D5 vs5 ps5 s24 hD5 S24 a5 p5 o5 => ?_
      have X24 := Ext.upd (c := .lst vs5) hD5
      have X2024 := X20.trans (X21.trans X24)
      obtain rfl : ps3 = ps5 := perm_sorted_eq (p3.trans (hperm.trans p5.symm)) o3 o5
      refine r_neP S24 (X24 _ _ (X21 _ _ (upd_same ..))) (upd_same ..) (a3.imp fun _ _ q => q.ext X2024) (a5.imp fun _ _ q => q.ext X24) (by show A.units + 3 + 64 < _; omega) (wpAny_truthy_bool ?_)
      rw [show (!decide (ps3 = ps3)) = false by simp]
      rw [if_neg Bool.false_ne_true]
      refine wpAny_execs_nil ?_
      have H24 := H17.ext X2024
      have T24 := T17.pg X2024.pg
      have V24 := V17.pg X2024.pg
      have cg24 := X2024 _ _ cg17
      have cn24 := X2024 _ _ cn17
      have cno24 := X2024 _ _ cno17
      have cro24 := X2024 _ _ cro17
      have K24 := KK.trans (K17.trans X2024.pg)
      have g24 := g13.trans gg17
      clear S13 S14 S15 S17 S18 S20 S21 S22 H12 H14 T12 V12 V14 H17 T17 V17 cg13 cn13 cno13 cro13 cg17 cn17 cno17 cro17 E14 hgen hI hr21 a3 a5 j1 j2 j3 j4 j5
      generalize upd C21 D5 (.lst vs5) = C24 at S24 X24 X2024 H24 T24 V24 cg24 cn24 cno24 cro24 K24
      clear X24 X2024 X20 X21 X15 K14 k17 r17 g15 gg17 K17 hgi15 hI15 hperm hnd hyl hD0 hD3 hD4 hD4' hD5
      refine wpB_any ?_
      refine wpAny_execs_cons (r_asComp rfl ?_)
      refine wpAny_comprehension_free rfl (fun _ => rfl) rfl rfl (by decide) ?_
      refine MethodCall_ (he := rfl) (r_cell S24 rfl cg24 (r_meth S24 D H24.x H24.dx (pl_617 w _) (m_545 w) (fn_545 w) rfl ?_))
      refine callWith_K0 (D.X.keeps S24.keep) (kp_545 w) ?_
      refine adj_spec S24 D (by show A.depth + 1 + 5 < _; omega) H24 fun it v25 s25 ak ea hv25 hit had hak hrows S25 => ?_
      have X25 := Ext.upd (c := .obj (itemsView a.ad)) hv25
      generalize upd C24 v25 (.obj (itemsView a.ad)) = C25 at S25 X25 hit
      have I0 : upd C25 it (.iit a.ad 0 ak.length ea) it = some (.iit a.ad 0 ak.length ea) ∧ upd C25 it (.iit a.ad 0 ak.length ea) a.ad = some (.di .adj ak ea) := ⟨upd_same .., upd_old (X25 _ _ had) hit⟩
      have hakl : ak.length ≤ 6 := by have := W.len; rw [← W.an, ← hak, List.length_map] at this; exact this
      have hadit : a.ad ≠ it := by rintro e; rw [← e, X25 _ _ had] at hit; cases hit
      refine (iter_itemsI (w := w) (elts := []) (k := 0) (p := ⟨0, 0, 0, 0⟩)).self S25 I0 ?_
      refine r_compG iter_itemsI (fun i Cx ys => All2 (RowTup Cx) ys (ak.take i)) ⟨rfl, rfl, by decide, by decide⟩ hh (by show A.depth + 1 + 0 < _; omega) (by omega) hit S25 I0 (fun i C G h => ⟨_, h.1⟩) (fun D0 i C' C'' G h1 h2 h3 h4 => ⟨h4 _ _ h1.symm h3.1, h4 _ _ (by rintro rfl; rw [X25 _ _ had] at h2; cases h2) h3.2⟩) (fun _ => All2.nil) (fun i C C' ys hr x => hr.imp fun _ _ q => q.ext x) ?_ ?_
      · intro Lc i mc C26 v s26 E' ys hi X26 hP hr S26
        obtain ⟨ta, nn, uu, tt, hkk, rfl, hta⟩ := hP
        refine r_asP S26 hh hta fun s27 S27 => r_if0 ?_
        rw [if_pos rfl]
        refine r_tup (wpAny_items_cons (he := rfl) (r_loc S27 rfl (wpAny_items_cons (he := rfl) (r_loc S27 rfl (wpAny_items_nil ⟨by simp, _, _, _, _, _, _, _, S27, fun tu s28 htu S28 => ?_⟩)))))
        refine ⟨_, _, S28, Ext.upd htu, fun Cx xb hnew hx => ?_⟩
        rw [List.take_add_one, hkk]
        exact All2.snoc hx ⟨tu, tt, rfl, hnew _ _ htu (upd_same ..)⟩
      · intro D6 Lc mc C26 s26 rs hD6 X26 hr26 hD6' S26
        refine compPost_as S25 S26 fun s27 S27 => ?_
        rw [List.take_length] at hr26
        have X2426 := X25.trans X26
        have T27 := T24.pg X2426.pg
        have H27 := H24.ext X2426
        have V27 := V24.pg X2426.pg
        have cg27 := X2426 _ _ cg24
        have cn27 := X2426 _ _ cn24
        have cno27 := X2426 _ _ cno24
        have cro27 := X2426 _ _ cro24
        have K27 := K24.trans X2426.pg
        have had27 := X2426 _ _ had
        have hrows27 : ∀ q ∈ ak, ∃ b, q.2 = .ref b ∧ RowAt C26 σ q.1 b := fun q hq => by
          obtain ⟨ak', ea', h1, h2, h3⟩ := H27.ad
          rw [had27] at h1; cases h1
          exact h3 q hq
        have hrl := hr26.length
        obtain ⟨m2, S27, me, mr⟩ : ∃ m2, St w g L1 m2 ((L, m) :: F) C26 G17 O s27 ∧ m2.lookup (Str.ofString "edges") = some (.ref el) ∧ m2.lookup (Str.ofString "rows") = some (.ref D6) := ⟨_, S27, me, rfl⟩
        clear S24 S25 S26 H24 T24 V24 cg24 cn24 cno24 cro24 K24 X25 X26 X2426 I0 had hrows hit
        refine wpAny_execs_cons (wpAny_If (wpAny_isTrue_Compare1 ?_))
        rw [eval_ListComp]
        refine r_compL (l := D6) (vs := rs) (R := fun i _ zs => IntsAre zs ((ak.take i).map fun q : Int × Value => q.1)) .tu ⟨rfl, rfl, by decide, by decide⟩ hh (by show A.depth + 1 < _; omega) (by omega) (r_loc S27 mr ⟨rfl, hD6', S27⟩) (fun _ => IntsAre.nil) (fun _ _ _ _ q _ => q) ?_ ?_
        · intro Lc i mc C28 v s28 E' ys hv X28 hr S28
          obtain ⟨q, hq, ta, tt, rfl, hta⟩ := hr26.get hv
          refine r_asP S28 hh (X28 _ _ hta) fun s29 S29 => r_if0 ?_
          rw [if_pos rfl]
          refine r_loc S29 rfl ⟨_, _, S29, .refl _, fun Cx xb _ hx => ?_⟩
          rw [List.take_add_one, hq, List.map_append]
          exact ints_snoc hx _ _
        intro D7 Lc2 mc2 C28 s28 zs hD7 X28 hr28 hD7' S28
        refine compPost_val S27 S28 fun s29 S29 => ?_
        rw [hrl, List.take_length, hak, W.an] at hr28
        refine r_cell S29 rfl (X28 _ _ cn27) ?_
        refine r_neI S29 hD7' (X28 _ _ T27.n) hr28 T27.ni (by show A.units + 3 + 64 < _; omega) (wpAny_truthy_bool ?_)
        rw [show (!decide (σ.nodes = σ.nodes)) = false by simp]
        rw [if_neg Bool.false_ne_true]
        refine wpAny_execs_nil ?_
        -- the rows
        have cno29 := X28 _ _ cno27
        have cro29 := X28 _ _ cro27
        refine wpAny_execs_cons (wpAny_For (hs := fun _ => rfl) (r_loc S29 mr ?_))
        refine r_iterL S29 (X28 _ _ hD6') fun it2 s30 hit2 S30 => ?_
        have X30 := Ext.upd (c := .lit D6 0) hit2
        have hnc : L1 + 1 + 1 + 1 ≠ L1 + 1 + 1 + 1 + 1 := Nat.ne_of_lt (Nat.lt_succ_self _)
        have hnoit : L1 + 1 + 1 + 1 ≠ it2 := by rintro e; rw [← e, cno29] at hit2; cases hit2
        have hroit : L1 + 1 + 1 + 1 + 1 ≠ it2 := by rintro e; rw [← e, cro29] at hit2; cases hit2
        refine r_loop (m := m2) (iter_list .tu) (fun i m' C' G' => G' = G17 ∧ m'.lookup (Str.ofString "edges") = some (.ref el) ∧ (∀ b c, b ≠ L1 + 1 + 1 + 1 → b ≠ L1 + 1 + 1 + 1 + 1 → C28 b = some c → C' b = some c) ∧ (∃ u1, C' (L1 + 1 + 1 + 1) = some (.cv u1)) ∧ ∃ u2, C' (L1 + 1 + 1 + 1 + 1) = some (.cv u2)) hh (by show A.depth + 1 + 0 < _; omega)
          S30 ⟨upd_same .., X30 _ _ (X28 _ _ hD6')⟩ ⟨rfl, me, fun b c _ _ e => X30 _ _ e, ⟨_, X30 _ _ cno29⟩, _, X30 _ _ cro29⟩ ?_ ?_
        · intro i m3 C31 G31 C32 G32 v s32 E' hlt hI hJ hKP hGB hI' hP S32
          obtain ⟨rfl, j1, j2, ⟨u1, j3⟩, u2, j4⟩ := hJ
          have hG : G32 = G31 := hGB
          subst hG
          have kk : ∀ b c, b ≠ L1 + 1 + 1 + 1 → b ≠ L1 + 1 + 1 + 1 + 1 → C28 b = some c → C32 b = some c := fun b c h1 h2 e => hKP b c (by rintro rfl; rw [hit2] at e; cases e) (j2 b c h1 h2 e)
          have q3 : C32 (L1 + 1 + 1 + 1) = some (.cv u1) := hKP _ _ hnoit j3
          have q4 : C32 (L1 + 1 + 1 + 1 + 1) = some (.cv u2) := hKP _ _ hroit j4
          obtain ⟨⟨n, rv⟩, hq, ta, tt, rfl, hta⟩ := hr26.get hP
          have hmem := List.mem_of_getElem? hq
          obtain ⟨rb, hrb, r, er, hrc, hrk, hrd⟩ := hrows27 _ hmem
          dsimp only at hrb hta hrk hrc hrd
          subst hrb
          have hnn : n ∈ σ.nodes := by rw [← W.an, ← hak]; exact List.mem_map.mpr ⟨_, hmem, rfl⟩
          have nocv : ∀ {b c}, C28 b = some c → (∀ u, c ≠ .cv u) → C32 b = some c := fun {b c} e hc => kk b c (by rintro rfl; rw [cno29] at e; cases e; exact hc _ rfl) (by rintro rfl; rw [cro29] at e; cases e; exact hc _ rfl) e
          refine r_asPC S32 hh (nocv (X28 _ _ hta) (by intro u q; cases q)) rfl rfl q3 q4 hnc fun s33 S33 => ?_
          have k33 : ∀ b c, b ≠ L1 + 1 + 1 + 1 → b ≠ L1 + 1 + 1 + 1 + 1 → C32 b = some c → upd (upd C32 (L1 + 1 + 1 + 1) (.cv (some (.int n tt)))) (L1 + 1 + 1 + 1 + 1) (.cv (some (.ref rb))) b = some c := fun b c h1 h2 e => by rw [upd_ne h2, upd_ne h1]; exact e
          have cn33 : upd (upd C32 (L1 + 1 + 1 + 1) (.cv (some (.int n tt)))) (L1 + 1 + 1 + 1 + 1) (.cv (some (.ref rb))) (L1 + 1 + 1 + 1) = some (.cv (some (.int n tt))) := by rw [upd_ne hnc]; exact upd_same ..
          have cr33 : upd (upd C32 (L1 + 1 + 1 + 1) (.cv (some (.int n tt)))) (L1 + 1 + 1 + 1 + 1) (.cv (some (.ref rb))) (L1 + 1 + 1 + 1 + 1) = some (.cv (some (.ref rb))) := upd_same ..
          have I33 : upd (upd C32 (L1 + 1 + 1 + 1) (.cv (some (.int n tt)))) (L1 + 1 + 1 + 1 + 1) (.cv (some (.ref rb))) it2 = some (.lit D6 (i + 1)) ∧ upd (upd C32 (L1 + 1 + 1 + 1) (.cv (some (.int n tt)))) (L1 + 1 + 1 + 1 + 1) (.cv (some (.ref rb))) D6 = some (.lst rs) :=
            ⟨k33 _ _ hnoit.symm hroit.symm hI'.1, k33 _ _ (by rintro e; rw [← e, X28 _ _ hD6'] at cno29; cases cno29) (by rintro e; rw [← e, X28 _ _ hD6'] at cro29; cases cro29) hI'.2⟩
          generalize upd (upd C32 (L1 + 1 + 1 + 1) (.cv (some (.int n tt)))) (L1 + 1 + 1 + 1 + 1) (.cv (some (.ref rb))) = C33 at S33 k33 cn33 cr33 I33
          have kk33 : ∀ b c, b ≠ L1 + 1 + 1 + 1 → b ≠ L1 + 1 + 1 + 1 + 1 → C28 b = some c → C33 b = some c := fun b c h1 h2 e => k33 b c h1 h2 (kk b c h1 h2 e)
          have nocv33 : ∀ {b c}, C28 b = some c → (∀ u, c ≠ .cv u) → C33 b = some c := fun {b c} e hc => kk33 b c (by rintro rfl; rw [cno29] at e; cases e; exact hc _ rfl) (by rintro rfl; rw [cro29] at e; cases e; exact hc _ rfl) e
          have T33e : All2 (EdgeAt C33) evs es := T27.ei.imp fun v e hq => by
            obtain ⟨ea, ep, ed, kvs, eep, h1, h2, ⟨pa, pt, pu, h3, h3'⟩, h4, h5⟩ := hq
            exact ⟨ea, ep, ed, kvs, eep, h1, nocv33 (X28 _ _ h2) (by intro u q; cases q), ⟨pa, pt, pu, h3, nocv33 (X28 _ _ h3') (by intro u q; cases q)⟩, nocv33 (X28 _ _ h4) (by intro u q; cases q), h5⟩
          have hrc33 := nocv33 (X28 _ _ hrc) (by intro u q; cases q)
          have hel33 := nocv33 (X28 _ _ T27.e) (by intro u q; cases q)
          have hdat : ∀ v, v ∈ σ.nbrs n → ∃ kvs ep, C33 (σ.da (min n v) (max n v)) = some (.ds (.data (min n v) (max n v)) kvs ep) ∧ KvsOk kvs (σ.wt (min n v) (max n v)) ∧ valueAt r v = some (.ref (σ.da (min n v) (max n v))) := fun v hv => by
            rw [← hrk] at hv
            obtain ⟨⟨v', x⟩, hq2, rfl⟩ := List.mem_map.mp hv
            obtain ⟨e1, kvs, ep, e2, e3⟩ := hrd _ hq2
            dsimp only at e1 e2 e3
            subst e1
            refine ⟨kvs, ep, nocv33 (X28 _ _ e2) (by intro u q; cases q), e3, valueAt_of_mem ?_ hq2⟩
            rw [hrk]; exact W.nn n
          have hdue := R.due W n
          have hwt := R.wt
          have hord := R.ord
          clear S29 S30 S32 hI hI' hKP hP q3 q4 k33 kk nocv
          -- due
          refine wpAny_execs_cons (r_asCompL (l := el) (vs := evs) (R := fun i Cx ys => All2 (DueAt n Cx) ys ((es.take i).filter fun e => hasN n e.1)) rfl S33 .tu ⟨rfl, rfl, by decide, by decide⟩ hh (by show A.depth + 1 < _; omega) (by omega) (r_loc S33 j1 ⟨rfl, hel33, S33⟩) (fun _ => All2.nil) (fun i C C' ys hr x => hr.imp fun _ _ q => q.ext x) ?_ ?_)
          · intro Lc i2 mc C34 v s34 E2 ys hv X34 hr S34
            obtain ⟨e, he1, ea, epv, ed, kvs, eep, rfl, hea, hep, hed, hek⟩ := T33e.get hv
            obtain ⟨pa, pxs, rfl, hpa, hpi⟩ := pair_ints (hep.ext X34)
            refine r_asP S34 hh (X34 _ _ hea) fun s35 S35 => r_if1 (wpAny_isTrue_Compare1 (r_cell S35 rfl (X34 _ _ cn33) (r_loc S35 rfl (r_inL S35 hpa hpi (wpAny_truthy_bool ?_)))))
            rw [has_dec]
            obtain ⟨mz, S35, lp, ldd⟩ : ∃ mz, St w g Lc mz ((L1, m3) :: (L, m) :: F) C34 G32 O s35 ∧ mz.lookup (Str.ofString "pair") = some (.ref pa) ∧ mz.lookup (Str.ofString "data") = some (.ref ed) := ⟨_, S35, rfl, rfl⟩
            by_cases hh2 : hasN n e.1 = true
            · rw [hh2, if_pos rfl]
              obtain ⟨pt, pu, rfl⟩ := two_vals hpi
              refine r_tup (wpAny_items_cons (he := rfl) (wpAny_mono (Q := fun v s' => ∃ t, v = .int (oth n e.1) t ∧ St w g Lc mz ((L1, m3) :: (L, m) :: F) C34 G32 O s') (wpAny_IfExp (wpAny_isTrue_Compare1 (Subscript_ (r_loc S35 lp (r_int S35 fun t36 s36 S36 => r_subL (j := 1) S36 hpa rfl (by omega) ?_))))) ?_ fun _ _ e => e))
              · refine r_cell S36 rfl (X34 _ _ cn33) (PyProof.Rows.eq_int (wpAny_truthy_bool ?_))
                by_cases h36 : e.1.2 = n
                · rw [show (e.1.2 == n) = true from beq_iff_eq.mpr h36, if_pos rfl]
                  refine Subscript_ (r_loc S36 lp (r_int S36 fun t37 s37 S37 => r_subL (j := 0) S37 hpa rfl (by omega) ⟨pt, ?_, S37⟩))
                  unfold oth; rw [if_pos h36]
                · rw [show (e.1.2 == n) = false from beq_eq_false_iff_ne.mpr h36, if_neg Bool.false_ne_true]
                  refine Subscript_ (r_loc S36 lp (r_int S36 fun t37 s37 S37 => r_subL (j := 1) S37 hpa rfl (by omega) ⟨pu, ?_, S37⟩))
                  unfold oth; rw [if_neg h36]
              · rintro v s37 ⟨t37, rfl, S37⟩
                refine wpAny_items_cons (he := rfl) (r_loc S37 ldd (wpAny_items_nil ⟨by show 2 ≤ 1000; decide, _, _, _, _, _, _, _, S37, fun tu s38 htu S38 => ?_⟩))
                refine ⟨_, _, S38, Ext.upd htu, fun Cx xb hnew hx => ?_⟩
                rw [filter_take _ he1, if_pos hh2]
                exact All2.snoc hx ⟨tu, t37, ed, kvs, eep, rfl, hnew _ _ htu (upd_same ..), xb _ _ hed, hek⟩
            · rw [show hasN n e.1 = false by simpa using hh2, if_neg Bool.false_ne_true]
              refine ⟨_, _, S35, .refl _, fun Cx xb hx => ?_⟩
              rw [filter_take _ he1, if_neg hh2, List.append_nil]
              exact hx
          intro D8 C34 s34 ds hD8 X34 hr34 hD8' S34
          rw [hlen2, List.take_length] at hr34
          have hr34 : All2 (DueAt n C34) ds (dueE es n) := hr34
          have hdl := hr34.length
          have hdl2 : (dueE es n).length ≤ es.length := List.length_filter_le ..
          have hnl := W.lenN n
          obtain ⟨m4, S34, lee, ldue⟩ : ∃ m4, St w g L1 m4 ((L, m) :: F) C34 G32 O s34 ∧ m4.lookup (Str.ofString "edges") = some (.ref el) ∧ m4.lookup (Str.ofString "due") = some (.ref D8) := ⟨_, S34, j1, rfl⟩
          refine wpAny_execs_cons (wpAny_If (wpAny_isTrue_Compare1 (r_bcall1 S34 D (nb_sorted w) bi_sorted (by decide) (r_cell S34 rfl (X34 _ _ cr33) ?_))))
          refine r_sortedI (ns := σ.nbrs n) (by omega) (c_dictI hh S34 (X34 _ _ hrc33) (by have := congrArg List.length hrk; rw [List.length_map] at this; omega) fun vs s35 S35 hi => ⟨by rw [hrk] at hi; exact hi, S35⟩) fun D9 vs9 ns9 s35 hD9 S35 hi9 hp9 ho9 => ?_
          have X35 := Ext.upd (c := .lst vs9) hD9
          refine r_bcall1 S35 D (nb_sorted w) bi_sorted (by decide) ?_
          rw [eval_ListComp]
          refine r_compL (l := D8) (vs := ds) (R := fun i Cx zs => IntsAre zs (((dueE es n).take i).map fun e : Edg => oth n e.1)) .tu ⟨rfl, rfl, by decide, by decide⟩ hh (by show A.depth + 1 < _; omega) (by omega) (r_loc S35 ldue ⟨rfl, X35 _ _ hD8', S35⟩) (fun _ => IntsAre.nil) (fun _ _ _ _ q _ => q) ?_ ?_
          · intro Lc i2 mc C36 v s36 E2 ys hv X36 hr S36
            obtain ⟨e, he1, ta2, tt2, dd2, kvs2, ep2, rfl, hta2, _, _⟩ := hr34.get hv
            refine r_asP S36 hh (X36 _ _ (X35 _ _ hta2)) fun s37 S37 => r_if0 ?_
            rw [if_pos rfl]
            refine r_loc S37 rfl ⟨_, _, S37, .refl _, fun Cx xb _ hx => ?_⟩
            rw [List.take_add_one, he1, List.map_append]
            exact ints_snoc hx _ _
          intro D10 Lc3 mc3 C36 s36 zs hD10 X36 hr36 hD10' S36
          refine compPost_val S35 S36 fun s37 S37 => ?_
          rw [hdl, List.take_length] at hr36
          have hzl := IntsAre.length hr36
          rw [List.length_map] at hzl
          refine r_sortedI (ns := (dueE es n).map fun e : Edg => oth n e.1) (by rw [List.length_map]; omega) (c_seqL S37 hD10' (by omega) fun s38 S38 => ⟨hr36, S38⟩) fun D11 vs11 ns11 s38 hD11 S38 hi11 hp11 ho11 => ?_
          have X38 := Ext.upd (c := .lst vs11) hD11
          obtain rfl : ns9 = ns11 := ksm_same (hp9.trans (hp11.trans hdue).symm) ho9 ho11
          refine r_neI S38 (X38 _ _ (X36 _ _ (upd_same ..))) (upd_same ..) hi9 hi11 (by show A.units + 3 + 64 < _; omega) (wpAny_truthy_bool ?_)
          rw [show (!decide (ns9 = ns9)) = false by simp]
          rw [if_neg Bool.false_ne_true]
          refine wpAny_execs_nil ?_
          have X3438 := X35.trans (X36.trans X38)
          generalize upd C36 D11 (.lst vs11) = C38 at S38 X38 X3438
          refine wpAny_execs_cons (wpAny_If (wpAny_isTrue_Compare1 ?_))
          rw [eval_ListComp]
          refine r_compL (l := D8) (vs := ds) (R := fun _ _ zs => zs = []) .tu ⟨rfl, rfl, by decide, by decide⟩ hh (by show A.depth + 1 < _; omega) (by omega) (r_loc S38 ldue ⟨rfl, X3438 _ _ hD8', S38⟩) (fun _ => rfl) (fun _ _ _ _ q _ => q) ?_ ?_
          · intro Lc i2 mc C39 v s39 E2 ys hv X39 hr S39
            obtain ⟨e, he1, ta2, tt2, dd2, kvs2, ep2, rfl, hta2, hdd2, hk2⟩ := hr34.get hv
            have hed := List.mem_of_getElem? he1
            obtain ⟨hes, hhas⟩ := List.mem_filter.mp hed
            have hpo : prOf n (oth n e.1) = e.1 := prOf_oth (hord e hes) (of_decide_eq_true hhas)
            obtain ⟨kvs3, ep3, hd3, hk3, hva⟩ := hdat (oth n e.1) (hdue.mem_iff.mp (List.mem_map.mpr ⟨e, hed, rfl⟩))
            have hw3 : σ.wt (min n (oth n e.1)) (max n (oth n e.1)) = e.2 := by
              have := hwt e hes
              rw [← hpo] at this
              rw [hpo] at this
              have e1 : e.1.1 = min n (oth n e.1) := (congrArg Prod.fst hpo).symm
              have e2 : e.1.2 = max n (oth n e.1) := (congrArg Prod.snd hpo).symm
              rw [← e1, ← e2]; exact this
            rw [hw3] at hk3
            have X3439 := X34.trans (X3438.trans X39)
            refine r_asP S39 hh ((X3438.trans X39) _ _ hta2) fun s40 S40 => r_if1 (wpAny_isTrue_Compare1 (Subscript_ (r_cell S40 rfl (X3439 _ _ cr33) (r_loc S40 rfl (r_subI S40 (X3439 _ _ hrc33) hva fun s41 S41 => ?_)))))
            obtain ⟨k1, k2⟩ := kvsOk_ne hk3 hk2
            refine r_loc S41 rfl (r_neKv S41 (X3439 _ _ hd3) ((X3438.trans X39) _ _ hdd2) (by show A.units + 3 + 8 < _; omega) k1 k2 (wpAny_truthy_bool ?_))
            rw [if_neg Bool.false_ne_true]
            exact ⟨_, _, S41, .refl _, fun _ _ hx => hx⟩
          intro D12 Lc4 mc4 C39 s39 zs2 hD12 X39 hr39 hD12' S39
          obtain rfl := hr39
          refine compPost_val S38 S39 fun s40 S40 => ?_
          refine r_lst (wpAny_items_nil ⟨Nat.zero_le _, _, _, _, _, _, _, _, S40, fun e0 s41 he0 S41 => ?_⟩)
          refine r_neNil S41 (upd_old hD12' he0) (upd_same ..) (by show A.units + 3 + 64 < _; omega) (wpAny_truthy_bool ?_)
          rw [show (!([] : List Value).isEmpty) = false from rfl]
          rw [if_neg Bool.false_ne_true]
          refine wpAny_execs_nil (wpAny_execs_nil ?_)
          have XF := X34.trans (X3438.trans (X39.trans (Ext.upd (c := .lst []) he0)))
          exact ⟨m4, _, _, S41, ⟨XF _ _ I33.1, XF _ _ I33.2⟩, rfl, lee, fun b c h1 h2 e => XF _ _ (kk33 b c h1 h2 e), ⟨_, XF _ _ cn33⟩, _, XF _ _ cr33⟩
        · intro m3 C31 G31 C32 G32 s32 hI hJ hKP hGB S32
          obtain ⟨rfl, j1, j2, _, _⟩ := hJ
          have hG : G32 = G31 := hGB
          subst hG
          have kk : ∀ b c, b ≠ L1 + 1 + 1 + 1 → b ≠ L1 + 1 + 1 + 1 + 1 → C28 b = some c → C32 b = some c := fun b c h1 h2 e => hKP b c (by rintro rfl; rw [hit2] at e; cases e) (j2 b c h1 h2 e)
          refine wpAny_execs_cons (wpAny_Return_some (wpAny_Constant_bool ?_))
          refine h s32 C32 _ v12 v14 (S.pop S32) g24 ?_ ?_ ?_
          · refine (H27.ext X28).mono fun b c e hg => kk b c ?_ ?_ e
            · rintro rfl; rw [cno29] at e; cases e; rcases hg with ⟨_, _, _, q⟩ | ⟨_, _, _, q⟩ | ⟨_, q⟩ | ⟨_, q⟩ | q <;> cases q
            · rintro rfl; rw [cro29] at e; cases e; rcases hg with ⟨_, _, _, q⟩ | ⟨_, _, _, q⟩ | ⟨_, q⟩ | ⟨_, q⟩ | q <;> cases q
          · intro b c e h1 h2
            exact kk b c (by rintro rfl; rw [cno0] at e; cases e) (by rintro rfl; rw [cro0] at e; cases e) ((K27.trans X28.pg) b c e h1 h2)
          · refine (V27.pg X28.pg).mono fun b c e hg => kk b c ?_ ?_ e
            · rintro rfl; rw [cno29] at e; cases e; rcases hg with ⟨_, q⟩ | ⟨_, _, _, q⟩ <;> cases q
            · rintro rfl; rw [cro29] at e; cases e; rcases hg with ⟨_, q⟩ | ⟨_, _, _, q⟩ <;> cases q
end
end Mine
end
section -- H0
open PySem PySem.W PySem.Calls PyProof.Rows
namespace Mine
section
variable {K : Frag} {p : Program} {loose : List Str} {mg mb : Str → Option Value} {nf : Bool}
  {w : World} {g : Heap} {O : OsState} {G : Array GenState} {s : Shared} {A : Around}
/-- the first frame -/
theorem St.start {C₀ : Led} {scope : Scope} {binds : List (Str × Value)} {s' : Shared} {kd : Str → Option NameKind} (hk : ∀ b o, g.get? b = some o → s.heap.get? b = some o) (hab : g.objs.size ≤ s.heap.objs.size) (hi : sysModules < s.heap.objs.size) (hg : s.gens = G) (ho : s.os = O)
    (hC : ∀ a c, C₀ a = some c → Sat w s.heap a c ∧ g.get? a = none ∧ sysModules < a) (ok : OkC scope binds) (hkd : ∀ x, kd x = scope.names.lookup x)
    (X : InCallC s s.heap.objs.size (bindL kd binds fun _ => none) (cellsFrom (s.heap.objs.size + 1) scope.names []) (bindC kd binds fun _ => none) s') :
    ∃ C', Ext C₀ C' ∧ (∀ n c, (cellsFrom (s.heap.objs.size + 1) scope.names []).lookup n = some c → C' c = some (.cv (bindC kd binds (fun _ => none) n))) ∧ St w g s.heap.objs.size (locOf scope binds) [] C' G O s' := by
  have hnd := cells_nd scope.names (s.heap.objs.size + 1) [] ok.nd List.nodup_nil (fun _ _ h => by cases h)
  obtain ⟨h', tk, rfl⟩ := X.toInCall.same
  have hlt : ∀ a c, C₀ a = some c → a < s.heap.objs.size := fun a c e => by
    obtain ⟨o, ho'⟩ := (hC a c e).1.some
    exact Heap.lt_size ho'
  have gnone : ∀ a, s.heap.objs.size ≤ a → g.get? a = none := fun a ha => Heap.get?_none_of_le (Nat.le_trans hab ha)
  have S1 : St w g s.heap.objs.size (locOf scope binds) [] C₀ G O { s with heap := h', toks := tk } := by
    refine ⟨⟨_, X.toInCall.ns, fun x v h => ?_⟩, fun b o e => X.toInCall.keep b o (hk b o e), gnone _ (Nat.le_refl _), (fun p hp => nomatch hp), fun a c e => (hC a c e).1.move fun o q => X.toInCall.keep a o q, fun a c e => ⟨⟨Nat.ne_of_lt (hlt a c e), (fun p hp => nomatch hp)⟩, (hC a c e).2.1, fun _ => (hC a c e).2.2⟩, hi, hg, ho, hab, (fun p hp => nomatch hp)⟩
    have hm := Mine.mem_of_lookup h
    unfold locOf at hm
    obtain ⟨hm, hk'⟩ := List.mem_filter.mp hm
    exact bindL_get ok.bd (.inl ⟨hm, (hkd x).trans (by simpa using hk')⟩)
  have key : ∀ ds : List (Str × Addr), (∀ n c, (n, c) ∈ ds → s.heap.objs.size < c) → (∀ n c, (n, c) ∈ ds → h'.IsCell c (bindC kd binds (fun _ => none) n)) →
      St w g s.heap.objs.size (locOf scope binds) [] (laid C₀ ds (bindC kd binds fun _ => none)) G O { s with heap := h', toks := tk } := by
    intro ds
    induction ds with
    | nil => intro _ _; exact S1
    | cons x r ih =>
      obtain ⟨n, c⟩ := x
      intro h1 h2
      refine (ih (fun n c h => h1 n c (.tail _ h)) fun n c h => h2 n c (.tail _ h)).learnOff ⟨⟨Nat.ne_of_gt (h1 n c (.head _)), (fun p hp => nomatch hp)⟩, gnone c (Nat.le_of_lt (h1 n c (.head _))), Nat.lt_trans hi (h1 n c (.head _))⟩ (h2 n c (.head _))
  refine ⟨_, laid_ext fun n c h => ?_, fun n c h => ?_, key _ (fun n c h => X.above n c h) fun n c h => X.cell n c (lookup_nd hnd h)⟩
  · cases q : C₀ c with
    | none => rfl
    | some c' => exact absurd (hlt c c' q) (Nat.not_lt.mpr (Nat.le_of_lt (X.above n c h)))
  · exact laid_get X.apart n c h
/-- the law entered -/
theorem b_enter0 {Q : Value → Shared → Prop} {C₀ : Led} {name qual : Str} {params : Arguments} {body : List Stmt} {scope : Scope} {dV kV doc pm cdv ct oc : Value} {an od : Option Addr} {osl : Array (Option Value)} {f : Addr} {pos : List Value} {kw : List (Str × Value)} {binds : List (Str × Value)}
    (hk0 : ∀ b o, g.get? b = some o → s.heap.get? b = some o) (hab : g.objs.size ≤ s.heap.objs.size) (hi : sysModules < s.heap.objs.size) (hg : s.gens = G) (hos : s.os = O)
    (hC : ∀ a c, C₀ a = some c → Sat w s.heap a c ∧ g.get? a = none ∧ sysModules < a) (D : Wd K p loose mg mb g)
    (ho : K.lookup f = some ⟨oc, od, .func (fnOf name qual params body scope dV kV doc pm an cdv ct), osl⟩) (hcd : codeIn K cdv qual = true) (hroom : A.depth < recursionLimit)
    (hbind : BindsTo s (fnOf name qual params body scope dV kV doc pm an cdv ct) ⟨pos, kw⟩ binds) (ok : OkC scope binds)
    (h : ∀ L' C' s', Ext C₀ C' → (∀ n c, (cellsFrom (L' + 1) scope.names []).lookup n = some c → ∃ u, C' c = some (.cv u)) → St w g L' (locOf scope binds) [] C' G O s' →
      wpB nf (model PR w) (A.deeper (envX qual scope L' f cdv (cellsFrom (L' + 1) scope.names []))) (execs body (envX qual scope L' f cdv (cellsFrom (L' + 1) scope.names [])))
        (fun fl s'' => Q (match fl with | .ret v => v | _ => .none) s'') s')
    (hco : scope.isCoroutine = false := by rfl) (hgen : scope.isGenerator = false := by rfl) (hk : scope.kind = .function := by rfl) : wpB nf (model PR w) A (call (.ref f) pos kw) Q s := by
  have X := D.X.keeps hk0
  refine wpB_call (codeB_call_function (fd := fnOf name qual params body scope dV kV doc pm an cdv ct) (body := body) hroom (X _ _ ho) rfl hco hgen rfl (codeRec_of X hcd) (hbind _ _ _ _ ?_))
  refine wpAny_newFunctionEnv_cells hk ok.kindOk (fun env he s1 x => ?_)
  subst he
  obtain ⟨C', N1, N2, S1⟩ := St.start hk0 hab hi hg hos hC ok (fun _ => rfl) x
  exact ⟨(D.T.nolimit.keeps S1.keep), codeB_func (h _ C' s1 N1 (fun n c e => ⟨_, N2 n c e⟩) S1)⟩
end
end Mine
end
section -- L0
open PySem PySem.W PySem.Calls PyProof.Rows
namespace Mine
section
variable {w : World} {g : Heap} {L : Addr} {m : List (Str × Value)} {F : List (Addr × List (Str × Value))} {C : Led} {G : Array GenState} {O : OsState} {s : Shared} {A : Around} {E Q : Value → Shared → Prop} {env : Env}
/-- an expression that is an int, nothing changed by it -/
def IEv (w : World) (A : Around) (g : Heap) (L : Addr) (m : List (Str × Value)) (F : List (Addr × List (Str × Value))) (G : Array GenState) (O : OsState) (E : Value → Shared → Prop) (env : Env) (e : PySem.Expr) (i : Int) : Prop :=
  ∀ (C : Led) (s : Shared) (Q : Value → Shared → Prop), St w g L m F C G O s → (∀ t s', St w g L m F C G O s' → Q (.int i t) s') → wpAny (model PR w) A (eval e env) Q E s
theorem r_callKw {func : PySem.Expr} {args : List PySem.Expr} {kws : List Keyword} {pos : Pos} (h : wpAny (model PR w) A (eval func env) (fun f s₁ => wpAny (model PR w) A (callWith pos f [] (backTo pos (starEach args env)) (backToKw pos (keywordEach kws env))) Q E s₁) E s)
    (he : eval (.Call func args kws pos) env = (do callWith pos (← eval func env) [] (backTo pos (starEach args env)) (backToKw pos (keywordEach kws env))) := by rfl) : wpAny (model PR w) A (eval (.Call func args kws pos) env) Q E s := by
  rw [he]; exact wpAny_bind h
theorem r_methKw {o : PySem.Expr} {name : Str} {apos pos : Pos} {args : List PySem.Expr} {kws : List Keyword} {pl : Sem Bool}
    (h : wpAny (model PR w) A (eval o env) (fun ov s₁ => wpAny (model PR w) A (getMethod ov name pl) (fun fx s₂ => wpAny (model PR w) A (callWith pos fx.1 fx.2 (backTo pos (starEach args env)) (backToKw pos (keywordEach kws env))) Q E s₂) E s₁) E s)
    (he : eval (.Call (.Attribute o name apos) args kws pos) env = (do
      let ov ← eval o env
      standAt apos.atName
      let (f, first) ← holding [ov] (getMethod ov name pl)
      callWith pos f first (backTo pos (starEach args env)) (backToKw pos (keywordEach kws env))) := by rfl) : wpAny (model PR w) A (eval (.Call (.Attribute o name apos) args kws pos) env) Q E s := by
  rw [he]
  exact wpAny_bind (wpAny_mono h (fun ov s₁ h₁ => wpAny_bind (wpAny_standAt (wpAny_bind (wpAny_holding h₁)))) fun _ _ e => e)
theorem r_mod {a b : Int} {t u : Tok} (S : St w g L m F C G O s) (hb : ¬(b == 0) = true) (h : ∀ t' s', St w g L m F C G O s' → Q (.int (a.fmod b) t') s') : wpAny (model PR w) A (binaryOp .Mod (.int a t) (.int b u)) Q E s :=
  PySem.AutoIntOps.mod_1 hb (h _ _ (S.toks _))
theorem r_fdiv {a b : Int} {t u : Tok} (S : St w g L m F C G O s) (hb : ¬(b == 0) = true) (hp : ¬Builtin.divisionGoesByPylong a b = true) (h : ∀ t' s', St w g L m F C G O s' → Q (.int (a.fdiv b) t') s') : wpAny (model PR w) A (binaryOp .FloorDiv (.int a t) (.int b u)) Q E s :=
  PySem.AutoIntOps.floordiv_1 hb hp (h _ _ (S.toks _))
theorem r_plus {a b : Int} {t u : Tok} (S : St w g L m F C G O s) (h : ∀ t' s', St w g L m F C G O s' → Q (.int (a + b) t') s') : wpAny (model PR w) A (binaryOp .Add (.int a t) (.int b u)) Q E s :=
  PySem.P.add_int (h _ _ (S.toks _))
/-- {k: e} -/
theorem r_dict1 {k : Str} {kk : Nat} {kp pos : Pos} {e : PySem.Expr} {i : Int} (S : St w g L m F C G O s) (he : IEv w A g L m F G O E env e i) (h : ∀ d t ep s', C d = none → St w g L m F (upd C d (.ds .none [(k, .int i t)] ep)) G O s' → Q (.ref d) s') :
    wpAny (model PR w) A (eval (.Dict [some (.Constant (.str k) kk kp)] [e] pos) env) Q E s := by
  have hd := S.free
  have S0 : St w g L m F (upd C s.heap.objs.size (.ds .none [] 0)) G O { s with heap := s.heap.push { cls := .type "dict", data := .dict #[] } } := S.push (o := { cls := .type "dict", data := .dict #[] }) (t := s.toks) (empty_at s.heap)
  refine wpAny_Dict_walk (knd := strKind PR w) rfl rfl (by simp) (by simp) ?_
  refine pairTrees_cons_walk (r_str S0 fun t1 s1 S1 => he _ _ _ S1 fun t2 s2 S2 => pairTrees_nil_walk ?_)
  refine ⟨[(k, .int i t2)], ⟨strKind_is PR w k t1, rfl, trivial⟩, S2.dictS (upd_same ..), fun h' hm hs => ?_⟩
  obtain ⟨ep, S3⟩ := S2.putS (tg := .none) (s' := { s2 with heap := h', toks := s2.toks + 1 }) (upd_same ..) hm hs S2.gens S2.os
  rw [upd_twice] at S3
  exact h _ t2 ep _ hd S3
/-- {k: e, k2: e2} -/
theorem r_dict2 {k k2 : Str} {kk kk2 : Nat} {kp kp2 pos : Pos} {e e2 : PySem.Expr} {i i2 : Int} (S : St w g L m F C G O s) (he : IEv w A g L m F G O E env e i) (he2 : IEv w A g L m F G O E env e2 i2) (hne : k ≠ k2)
    (h : ∀ d t t2 ep s', C d = none → St w g L m F (upd C d (.ds .none [(k, .int i t), (k2, .int i2 t2)] ep)) G O s' → Q (.ref d) s') :
    wpAny (model PR w) A (eval (.Dict [some (.Constant (.str k) kk kp), some (.Constant (.str k2) kk2 kp2)] [e, e2] pos) env) Q E s := by
  have hd := S.free
  have S0 : St w g L m F (upd C s.heap.objs.size (.ds .none [] 0)) G O { s with heap := s.heap.push { cls := .type "dict", data := .dict #[] } } := S.push (o := { cls := .type "dict", data := .dict #[] }) (t := s.toks) (empty_at s.heap)
  refine wpAny_Dict_walk (knd := strKind PR w) rfl rfl (by simp) (by simp) ?_
  refine pairTrees_cons_walk (r_str S0 fun t1 s1 S1 => he _ _ _ S1 fun t2 s2 S2 => pairTrees_cons_walk (r_str S2 fun t3 s3 S3 => he2 _ _ _ S3 fun t4 s4 S4 => pairTrees_nil_walk ?_))
  refine ⟨[(k, .int i t2), (k2, .int i2 t4)], ⟨strKind_is PR w k t1, rfl, strKind_is PR w k2 t3, rfl, trivial⟩, S4.dictS (upd_same ..), fun h' hm hs => ?_⟩
  obtain ⟨ep, S5⟩ := S4.putS (tg := .none) (s' := { s4 with heap := h', toks := s4.toks + 2 }) (upd_same ..) hm hs S4.gens S4.os
  rw [upd_twice] at S5
  have e1 : merged [] [(k, Value.int i t2), (k2, .int i2 t4)] = [(k, Value.int i t2), (k2, .int i2 t4)] := merged_nil_of_nodup _ (by simp [hne])
  rw [e1] at S5
  exact h _ t2 t4 ep _ hd S5
/-- a, b, c, d = t -/
theorem r_as4 {x1 x2 x3 x4 : Str} {p1 p2 p3 p4 p5 : Pos} {k : Nat} {t : Addr} {v1 v2 v3 v4 : Value} {Q : Unit → Shared → Prop} (S : St w g L m F C G O s) (hh : A.handled = none) (ht : C t = some (.tup [v1, v2, v3, v4]))
    (h : ∀ s', St w g L ((x4, v4) :: (x3, v3) :: (x2, v2) :: (x1, v1) :: m) F C G O s' → Q () s')
    (hk : env.scope.kind = .function := by rfl) (h1 : env.kindOf x1 = some .local := by rfl) (h2 : env.kindOf x2 = some .local := by rfl) (h3 : env.kindOf x3 = some .local := by rfl) (h4 : env.kindOf x4 = some .local := by rfl) (hL : env.locals = L := by rfl) :
    wpAny (model PR w) A (assign (.Tuple [.Name x1 p1, .Name x2 p2, .Name x3 p3, .Name x4 p4] k p5) env (.ref t)) Q E s := by
  refine r_assignT S hh ht rfl rfl fun s1 S1 => ?_
  show wpAny _ _ (assignInOrder [assign (.Name x1 p1) env, assign (.Name x2 p2) env, assign (.Name x3 p3) env, assign (.Name x4 p4) env] [v1, v2, v3, v4]) _ _ _
  refine assignInOrder_cons (r_asN S1 (fun s2 S2 => ?_) hk h1 hL)
  refine assignInOrder_cons (r_asN S2 (fun s3 S3 => ?_) hk h2 hL)
  refine assignInOrder_cons (r_asN S3 (fun s4 S4 => ?_) hk h3 hL)
  refine assignInOrder_cons (r_asN S4 (fun s5 S5 => ?_) hk h4 hL)
  exact assignInOrder_nil (h _ S5)
/-- a, b, c, d = t, b and c cells -/
theorem r_as4C {x1 x2 x3 x4 : Str} {p1 p2 p3 p4 p5 : Pos} {k : Nat} {t c2 c3 : Addr} {v1 v2 v3 v4 : Value} {u2 u3 : Option Value} {Q : Unit → Shared → Prop} (S : St w g L m F C G O s) (hh : A.handled = none) (ht : C t = some (.tup [v1, v2, v3, v4]))
    (hc2 : env.cells.lookup x2 = some c2) (hc3 : env.cells.lookup x3 = some c3) (hC2 : C c2 = some (.cv u2)) (hC3 : C c3 = some (.cv u3)) (hne : c2 ≠ c3)
    (h : ∀ s', St w g L ((x4, v4) :: (x1, v1) :: m) F (upd (upd C c2 (.cv (some v2))) c3 (.cv (some v3))) G O s' → Q () s')
    (hk : env.scope.kind = .function := by rfl) (h1 : env.kindOf x1 = some .local := by rfl) (h2 : env.kindOf x2 = some .cell := by rfl) (h3 : env.kindOf x3 = some .cell := by rfl) (h4 : env.kindOf x4 = some .local := by rfl) (hL : env.locals = L := by rfl) :
    wpAny (model PR w) A (assign (.Tuple [.Name x1 p1, .Name x2 p2, .Name x3 p3, .Name x4 p4] k p5) env (.ref t)) Q E s := by
  refine r_assignT S hh ht rfl rfl fun s1 S1 => ?_
  show wpAny _ _ (assignInOrder [assign (.Name x1 p1) env, assign (.Name x2 p2) env, assign (.Name x3 p3) env, assign (.Name x4 p4) env] [v1, v2, v3, v4]) _ _ _
  refine assignInOrder_cons (r_asN S1 (fun s2 S2 => ?_) hk h1 hL)
  refine assignInOrder_cons (wpAny_assign_Name (r_storec S2 hc2 hC2 (fun s3 S3 => ?_) hk h2))
  refine assignInOrder_cons (wpAny_assign_Name (r_storec S3 hc3 (by rw [upd_ne hne.symm]; exact hC3) (fun s4 S4 => ?_) hk h3))
  refine assignInOrder_cons (r_asN S4 (fun s5 S5 => ?_) hk h4 hL)
  exact assignInOrder_nil (h _ S5)
/-- the swapped stores of two and of three names -/
theorem r_sw2 {x1 x2 : Str} {t : Addr} {v1 v2 : Value} {Q : Unit → Shared → Prop} (S : St w g L m F C G O s) (hh : A.handled = none) (ht : C t = some (.tup [v1, v2])) (h : ∀ s', St w g L ((x1, v1) :: (x2, v2) :: m) F C G O s' → Q () s')
    (hk : env.scope.kind = .function := by rfl) (h1 : env.kindOf x1 = some .local := by rfl) (h2 : env.kindOf x2 = some .local := by rfl) (hL : env.locals = L := by rfl) :
    wpAny (model PR w) A (unpackItems (.ref t) 2 none) (fun items s₂ => wpAny (model PR w) A (assignInOrder ([x1, x2].reverse.map fun n => bindName env n) items.reverse) Q E s₂) E s := by
  refine r_unpackItems S hh ht rfl fun s1 S1 => ?_
  show wpAny _ _ (assignInOrder [bindName env x2, bindName env x1] [v2, v1]) _ _ _
  refine assignInOrder_cons (bindName_ (r_store S1 (fun s2 S2 => ?_) hk h2 hL))
  refine assignInOrder_cons (bindName_ (r_store S2 (fun s3 S3 => ?_) hk h1 hL))
  exact assignInOrder_nil (h _ S3)
theorem r_sw3 {x1 x2 x3 : Str} {t : Addr} {v1 v2 v3 : Value} {Q : Unit → Shared → Prop} (S : St w g L m F C G O s) (hh : A.handled = none) (ht : C t = some (.tup [v1, v2, v3])) (h : ∀ s', St w g L ((x1, v1) :: (x2, v2) :: (x3, v3) :: m) F C G O s' → Q () s')
    (hk : env.scope.kind = .function := by rfl) (h1 : env.kindOf x1 = some .local := by rfl) (h2 : env.kindOf x2 = some .local := by rfl) (h3 : env.kindOf x3 = some .local := by rfl) (hL : env.locals = L := by rfl) :
    wpAny (model PR w) A (unpackItems (.ref t) 3 none) (fun items s₂ => wpAny (model PR w) A (assignInOrder ([x1, x2, x3].reverse.map fun n => bindName env n) items.reverse) Q E s₂) E s := by
  refine r_unpackItems S hh ht rfl fun s1 S1 => ?_
  show wpAny _ _ (assignInOrder [bindName env x3, bindName env x2, bindName env x1] [v3, v2, v1]) _ _ _
  refine assignInOrder_cons (bindName_ (r_store S1 (fun s2 S2 => ?_) hk h3 hL))
  refine assignInOrder_cons (bindName_ (r_store S2 (fun s3 S3 => ?_) hk h2 hL))
  refine assignInOrder_cons (bindName_ (r_store S3 (fun s4 S4 => ?_) hk h1 hL))
  exact assignInOrder_nil (h _ S4)
end
end Mine
end
section -- L1
open PySem PySem.W PySem.Calls PyProof.Rows
namespace Mine
example : hd.heap_39 = hd.heap_39 ∧ PySem.Challenge.rw_ez0179_01 = PySem.Challenge.rw_ez0179_01 := by k_fill; exact ⟨rfl, rfl⟩
theorem g_Graph (w : World) : nsIn (hd.heap_39 w.params) mainGlobals "Graph" = some (some (.ref 617)) := by kernel_rfl
theorem g_cell (w : World) : nsIn (hd.heap_39 w.params) mainGlobals "_law_cell" = some (some (.ref 632)) := by kernel_rfl
theorem g_joined (w : World) : nsIn (hd.heap_39 w.params) mainGlobals "_law_joined" = some (some (.ref 637)) := by kernel_rfl
theorem g_without (w : World) : nsIn (hd.heap_39 w.params) mainGlobals "_law_without" = some (some (.ref 642)) := by kernel_rfl
theorem g_known (w : World) : nsIn (hd.heap_39 w.params) mainGlobals "_law_known" = some (some (.ref 649)) := by kernel_rfl
theorem g_taken (w : World) : nsIn (hd.heap_39 w.params) mainGlobals "_law_taken" = some (some (.ref 656)) := by kernel_rfl
theorem g_right (w : World) : nsIn (hd.heap_39 w.params) mainGlobals "_law_right" = some (some (.ref 661)) := by kernel_rfl
theorem kp_617 (w : World) : keepIn (hd.heap_39 w.params) (.ref 617) = true := by kernel_rfl
theorem kp_632 (w : World) : keepIn (hd.heap_39 w.params) (.ref 632) = true := by kernel_rfl
theorem kp_637 (w : World) : keepIn (hd.heap_39 w.params) (.ref 637) = true := by kernel_rfl
theorem kp_642 (w : World) : keepIn (hd.heap_39 w.params) (.ref 642) = true := by kernel_rfl
theorem kp_649 (w : World) : keepIn (hd.heap_39 w.params) (.ref 649) = true := by kernel_rfl
theorem kp_656 (w : World) : keepIn (hd.heap_39 w.params) (.ref 656) = true := by kernel_rfl
theorem kp_661 (w : World) : keepIn (hd.heap_39 w.params) (.ref 661) = true := by kernel_rfl
theorem m_485 (w : World) : findIn (hd.heap_39 w.params) (.ref 617) "add_edge" = some (some (.ref 485)) := by kernel_rfl
theorem m_492 (w : World) : findIn (hd.heap_39 w.params) (.ref 617) "add_edges_from" = some (some (.ref 492)) := by kernel_rfl
theorem m_506 (w : World) : findIn (hd.heap_39 w.params) (.ref 617) "remove_edges_from" = some (some (.ref 506)) := by kernel_rfl
theorem m_447 (w : World) : findIn (hd.heap_39 w.params) (.ref 617) "remove_nodes_from" = some (some (.ref 447)) := by kernel_rfl
theorem m_426 (w : World) : findIn (hd.heap_39 w.params) (.ref 617) "add_node" = some (some (.ref 426)) := by kernel_rfl
theorem m_569 (w : World) : findIn (hd.heap_39 w.params) (.ref 617) "clear_edges" = some (some (.ref 569)) := by kernel_rfl
theorem m_562 (w : World) : findIn (hd.heap_39 w.params) (.ref 617) "clear" = some (some (.ref 562)) := by kernel_rfl
theorem fn_485 (w : World) : isFn (hd.heap_39 w.params) (.ref 485) = true := by kernel_rfl
theorem fn_492 (w : World) : isFn (hd.heap_39 w.params) (.ref 492) = true := by kernel_rfl
theorem fn_506 (w : World) : isFn (hd.heap_39 w.params) (.ref 506) = true := by kernel_rfl
theorem fn_447 (w : World) : isFn (hd.heap_39 w.params) (.ref 447) = true := by kernel_rfl
theorem fn_426 (w : World) : isFn (hd.heap_39 w.params) (.ref 426) = true := by kernel_rfl
theorem fn_569 (w : World) : isFn (hd.heap_39 w.params) (.ref 569) = true := by kernel_rfl
theorem fn_562 (w : World) : isFn (hd.heap_39 w.params) (.ref 562) = true := by kernel_rfl
theorem kp_485 (w : World) : keepIn (hd.heap_39 w.params) (.ref 485) = true := by kernel_rfl
theorem kp_492 (w : World) : keepIn (hd.heap_39 w.params) (.ref 492) = true := by kernel_rfl
theorem kp_506 (w : World) : keepIn (hd.heap_39 w.params) (.ref 506) = true := by kernel_rfl
theorem kp_447 (w : World) : keepIn (hd.heap_39 w.params) (.ref 447) = true := by kernel_rfl
theorem kp_426 (w : World) : keepIn (hd.heap_39 w.params) (.ref 426) = true := by kernel_rfl
theorem kp_569 (w : World) : keepIn (hd.heap_39 w.params) (.ref 569) = true := by kernel_rfl
theorem kp_562 (w : World) : keepIn (hd.heap_39 w.params) (.ref 562) = true := by kernel_rfl
theorem no_pl10 (x : Int) : ¬ Builtin.divisionGoesByPylong x 10 = true := by
  unfold Builtin.divisionGoesByPylong
  simp only [Bool.and_eq_true, decide_eq_true_eq, not_and]
  intro h; exact absurd h (by decide)
theorem no_pl60 (x : Int) : ¬ Builtin.divisionGoesByPylong x 60 = true := by
  unfold Builtin.divisionGoesByPylong
  simp only [Bool.and_eq_true, decide_eq_true_eq, not_and]
  intro h; exact absurd h (by decide)
theorem no_pl360 (x : Int) : ¬ Builtin.divisionGoesByPylong x 360 = true := by
  unfold Builtin.divisionGoesByPylong
  simp only [Bool.and_eq_true, decide_eq_true_eq, not_and]
  intro h; exact absurd h (by decide)
def Mk (gk mkv : List (Str × Value)) : Prop := gk.length = mkv.length ∧ ∀ p ∈ gk, ∃ i t u, p.2 = .int i t ∧ valueAt mkv p.1 = some (.int i u)
/-- what holds between two deeds -/
def LO (w : World) (g : Heap) (L : Addr) (O : OsState) (a : GA) (sc : Addr) (m : List (Str × Value)) (C : Led) (G : Array GenState) (s : Shared) : Prop :=
  ∃ dv ev gk σ nl el mk nvs evs mkv es, St w g L m [] C G O s ∧ (∀ x ∈ G, x.bare = true) ∧ Gr C a dv ev gk σ ∧ PS.WF σ ∧ Vok C a dv ev ∧ Rel σ es ∧ LawAt C nl el mk nvs evs mkv σ.nodes es ∧ Mk gk mkv ∧ gk.length ≤ 10 ∧
    m.lookup (Str.ofString "script") = some (.ref sc) ∧ m.lookup (Str.ofString "graph") = some (.ref a.x) ∧ m.lookup (Str.ofString "nodes") = some (.ref nl) ∧ m.lookup (Str.ofString "edges") = some (.ref el) ∧ m.lookup (Str.ofString "mark") = some (.ref mk) ∧
    (∃ u, C (L + 1) = some (.cv u)) ∧ ∃ u, C (L + 1 + 1) = some (.cv u)
theorem Vok.mono2 {C C' : Led} {a : GA} {dv ev : Option Value} (x : Vok C a dv ev) (k : ∀ b c, C b = some c → ((∃ cls d, c = .obj (instObj cls d)) ∨ ∃ f n h, c = .sm f n h) → C' b = some c) : Vok C' a dv ev := by
  refine ⟨fun v e => ?_, fun v e => ?_⟩
  · obtain ⟨b, e', d, h1, h2⟩ := x.1 v e
    exact ⟨b, e', d, k _ _ h1 (.inl ⟨_, _, rfl⟩), k _ _ h2 (.inr ⟨_, _, _, rfl⟩)⟩
  · obtain ⟨b, e', d, h1, h2⟩ := x.2 v e
    exact ⟨b, e', d, k _ _ h1 (.inl ⟨_, _, rfl⟩), k _ _ h2 (.inr ⟨_, _, _, rfl⟩)⟩
theorem LawAt.mono {C C' : Led} {nl el mk : Addr} {nvs evs : List Value} {mkv : List (Str × Value)} {ns : List Int} {es : List Edg} (x : LawAt C nl el mk nvs evs mkv ns es)
    (k : ∀ b c, C b = some c → ((∃ vs, c = .lst vs) ∨ (∃ vs, c = .tup vs) ∨ ∃ kvs ep, c = .ds .none kvs ep) → C' b = some c) : LawAt C' nl el mk nvs evs mkv ns es := by
  refine ⟨k _ _ x.n (.inl ⟨_, rfl⟩), x.ni, k _ _ x.e (.inl ⟨_, rfl⟩), x.ei.imp fun v e hq => ?_, ?_⟩
  · obtain ⟨ea, ep, ed, kvs, eep, h1, h2, ⟨pa, pt, pu, h3, h3'⟩, h4, h5⟩ := hq
    exact ⟨ea, ep, ed, kvs, eep, h1, k _ _ h2 (.inr (.inl ⟨_, rfl⟩)), ⟨pa, pt, pu, h3, k _ _ h3' (.inl ⟨_, rfl⟩)⟩, k _ _ h4 (.inr (.inr ⟨_, _, rfl⟩)), h5⟩
  · obtain ⟨ep, h1⟩ := x.m
    exact ⟨ep, k _ _ h1 (.inr (.inr ⟨_, _, rfl⟩))⟩
theorem known1_mem (ns : List Int) (k : Int) : k ∈ known1 ns k := by
  unfold known1; split
  · assumption
  · simp
theorem known1_keep {ns : List Int} {k x : Int} (h : x ∈ ns) : x ∈ known1 ns k := by
  unfold known1; split
  · exact h
  · simp [h]
theorem known_three (ns : List Int) (a b c : Int) : known (known ns [a, b]) [b, c] = known ns [a, b, c] := by
  show known1 (known1 (known1 (known1 ns a) b) b) c = known1 (known1 (known1 ns a) b) c
  congr 1
  exact if_pos (known1_mem _ _)
theorem notin_dec (n a b : Int) : (!([a, b].any (· == n))) = decide (n ∉ [a, b]) := by
  by_cases h1 : n = a
  · subst h1; simp
  · by_cases h2 : n = b
    · subst h2; simp
    · rw [decide_eq_true (by simp [h1, h2])]
      show (!((a == n) || ((b == n) || false))) = true
      rw [beq_eq_false_iff_ne.mpr (Ne.symm h1), beq_eq_false_iff_ne.mpr (Ne.symm h2)]; rfl
section
variable {p : Program} {loose : List Str} {mg mb : Str → Option Value}
  {w : World} {g : Heap} {O : OsState} {s : Shared} {A : Around}
set_option maxHeartbeats 8000000 in
theorem law_spec (D : Wd (hd.heap_39 w.params) p loose mg mb g) (BM : BMd mg g) (hk0 : ∀ b o, g.get? b = some o → s.heap.get? b = some o) (hab : g.objs.size ≤ s.heap.objs.size) (hi0 : sysModules < s.heap.objs.size) (hgs : s.gens = #[]) (hos : s.os = O)
    (ht1 : s.heap.get? 230 = some (tabObj #[])) (ht2 : s.heap.get? 601 = some (tabObj #[])) (hn1 : g.get? 230 = none) (hn2 : g.get? 601 = none) {sc : Addr} {vs : List Value} {ns : List Int} (hsc : g.IsList sc vs.toArray) (hns : IntsAre vs ns) (hl : ns.length ≤ 63)
    (hh : A.handled = none) (hfr : A.frames = some []) (hroom : A.depth + 100 < recursionLimit) (hu : A.units + 1000 < cLine) {Q : Value → Shared → Prop}
    (h : ∀ s', (∀ b o, g.get? b = some o → s'.heap.get? b = some o) → s'.os = O → (∀ x ∈ s'.gens, x.bare = true) → (∃ ps, s'.heap.get? 230 = some (tabObj ps)) → (∃ ps, s'.heap.get? 601 = some (tabObj ps)) → Q (.bool true) s') :
    wpB true (model PR w) A (call (.ref 666) [.ref sc]) Q s := by
  have hvl := IntsAre.length hns
  refine' b_enter0 (C₀ := fun b => if b = 230 ∨ b = 601 then some (.tab #[]) else none) (binds := [(Str.ofString "script", .ref sc)]) hk0 hab hi0 hgs hos ?hC D ?ho ?hcd ?room ?hb (OkC.of (by kernel_rfl)) ?_ ?c1 ?c2 ?c3
  case hC =>
    intro b c e
    by_cases hb : b = 230 ∨ b = 601
    · rw [if_pos hb] at e
      cases e
      rcases hb with rfl | rfl
      · exact ⟨⟨ht1, trivial⟩, hn1, by decide⟩
      · exact ⟨⟨ht2, trivial⟩, hn2, by decide⟩
    · rw [if_neg hb] at e; cases e
  case ho => k_is
  case hcd => k_is
  case room => omega
  case hb => exact .of_eq rfl
  case c1 => rfl
  case c2 => rfl
  case c3 => rfl
  intro L1 C1 s1 X1 N1 S1
  obtain ⟨u1, c1⟩ := N1 (Str.ofString "one") _ rfl
  obtain ⟨u2, c2⟩ := N1 (Str.ofString "other") _ rfl
  replace c1 : C1 (L1 + 1) = some (.cv u1) := c1
  replace c2 : C1 (L1 + 1 + 1) = some (.cv u2) := c2
  have tb : (∃ ps, C1 230 = some (.tab ps)) ∧ ∃ ps, C1 601 = some (.tab ps) := ⟨⟨_, X1 _ _ (if_pos (.inl rfl))⟩, _, X1 _ _ (if_pos (.inr rfl))⟩
  refine wpB_execs_cons (wpB_any (Assign_Tuple (hs := rfl) (hw := rfl) ?_))
  refine r_tup (wpAny_items_cons (he := by rfl) ?_)
  refine r_callKw (r_glob S1 D (g_Graph w) ?_)
  refine callWith_KW0 D.X (kp_617 w) rfl ?_
  refine kwAll_cons (r_int S1 fun t2 s2 S2 => kwAll_nil ⟨D.X.keeps S2.keep, ?_⟩)
  refine new_graph_spec (A := A.deeper _) S2 D (by show A.depth + 1 + 8 < _; omega) tb fun s3 C3 a S3 H3 X3 => ?_
  refine wpAny_items_cons (he := by rfl) ?_
  refine r_lst ?_
  refine wpAny_items_nil ?_
  refine ⟨Nat.zero_le _, ?_⟩
  refine ⟨_, _, _, _, _, _, _, S3, fun nl s4 hnl S4 => ?_⟩
  refine wpAny_items_cons (he := by rfl) ?_
  refine r_lst ?_
  refine wpAny_items_nil ?_
  refine ⟨Nat.zero_le _, ?_⟩
  refine ⟨_, _, _, _, _, _, _, S4, fun el s5 hel S5 => ?_⟩
  refine wpAny_items_cons (he := by rfl) ?_
  refine r_dict1 (i := 5) S5 (fun C s Q S h => r_int S h) ?_
  intro mk t6 ep6 s6 hmk S6
  refine wpAny_items_nil ?_
  refine ⟨by show 4 ≤ 1000; decide, ?_⟩
  refine ⟨_, _, _, _, _, _, _, S6, fun tu s7 htu S7 => ?_⟩
  refine r_as4 S7 hh (upd_same ..) fun s8 S8 => ?_
  have Y4 := Ext.upd (c := .lst []) hnl
  have Y5 := Y4.trans (Ext.upd (c := .lst []) hel)
  have Y6 := Y5.trans (Ext.upd (c := .ds .none [(Str.ofString "k", .int 5 t6)] ep6) hmk)
  have Y7 := Y6.trans (Ext.upd (c := .tup [.ref a.x, .ref nl, .ref el, .ref mk]) htu)
  have Y8 := X3.trans Y7
  have q1 := upd_old (c := .tup [.ref a.x, .ref nl, .ref el, .ref mk]) (upd_old (c := .ds .none [(Str.ofString "k", .int 5 t6)] ep6) (upd_old (c := .lst []) (upd_same C3 nl (.lst [])) hel) hmk) htu
  have q2 := upd_old (c := .tup [.ref a.x, .ref nl, .ref el, .ref mk]) (upd_old (c := .ds .none [(Str.ofString "k", .int 5 t6)] ep6) (upd_same (upd C3 nl (.lst [])) el (.lst [])) hmk) htu
  have q3 := upd_old (c := .tup [.ref a.x, .ref nl, .ref el, .ref mk]) (upd_same (upd (upd C3 nl (.lst [])) el (.lst [])) mk (.ds .none [(Str.ofString "k", .int 5 t6)] ep6)) htu
  generalize upd (upd (upd (upd C3 nl (.lst [])) el (.lst [])) mk (.ds .none [(Str.ofString "k", .int 5 t6)] ep6)) tu (.tup [.ref a.x, .ref nl, .ref el, .ref mk]) = C8 at S8 Y7 Y8 q1 q2 q3
  have H8 := H3.ext Y7
  have d1 := Y8 _ _ c1
  have d2 := Y8 _ _ c2
  clear S2 S3 S4 S5 S6 S7 Y4 Y5 Y6 Y7 Y8 H3 hnl hel hmk htu N1 tb c1 c2
  obtain ⟨m8, S8, l1, l2, l3, l4, l5⟩ : ∃ m8, St w g L1 m8 [] C8 #[] O s8 ∧ m8.lookup (Str.ofString "script") = some (.ref sc) ∧ m8.lookup (Str.ofString "graph") = some (.ref a.x) ∧ m8.lookup (Str.ofString "nodes") = some (.ref nl) ∧ m8.lookup (Str.ofString "edges") = some (.ref el) ∧ m8.lookup (Str.ofString "mark") = some (.ref mk) := ⟨_, S8, rfl, rfl, rfl, rfl, rfl⟩
  have lo : LO w g L1 O a sc m8 C8 #[] s8 := by
    refine ⟨none, none, [(Str.ofString "k", .int 5 t2)], σ₀, nl, el, mk, [], [], [(Str.ofString "k", .int 5 t6)], [], S8, (fun x hx => by simp at hx), H8, PS.WF.nil (fun _ => rfl) rfl rfl, ⟨fun v e => (nomatch e), fun v e => (nomatch e)⟩, Rel.nil (fun _ => rfl), ⟨q1, .nil, q2, .nil, ep6, q3⟩, ⟨rfl, ?_⟩, by show 1 ≤ 10; decide, l1, l2, l3, l4, l5, ⟨u1, d1⟩, u2, d2⟩
    intro q hq
    rw [List.mem_singleton] at hq; subst hq
    exact ⟨5, t2, t6, rfl, rfl⟩
  refine wpB_execs_cons (wpB_For (hs := fun _ => rfl) ?_)
  refine r_tcall1 S8 D (nb_range w) bi_range (by decide) ?_
  refine r_bcall2 S8 D (nb_max w) bi_max (by decide) ?_
  refine r_int S8 fun t9 s9 S9 => ?_
  refine r_bcall2 S9 D (nb_min w) bi_min (by decide) ?_
  refine r_int S9 fun t10 s10 S10 => ?_
  refine r_bcall1 S10 D (nb_len w) bi_len (by decide) ?_
  refine r_loc S10 l1 ?_
  have hsc10 : s10.heap.IsList sc vs.toArray := by obtain ⟨o, ho, r⟩ := hsc; exact ⟨o, S10.keep _ _ ho, r⟩
  refine r_lenH S10 hsc10 (by omega) fun t11 s11 S11 => ?_
  refine r_min hh S11 fun t12 s12 S12 => ?_
  refine r_max hh S12 fun t13 s13 S13 => ?_
  obtain ⟨N, hN, hN1⟩ : ∃ N : Nat, max (1 : Int) (min 16 (vs.length : Int)) = (N : Int) ∧ N ≤ 16 := ⟨max 1 (min 16 vs.length), by omega, by omega⟩
  rw [hN]
  refine r_range S13 (by omega) fun r s14 ta tb' tc hr S14 => ?_
  refine r_iterR S14 (upd_same ..) (by omega) fun it s15 hit S15 => ?_
  have Xr := (Ext.upd (c := .obj (rangeObj N ta tb' tc)) hr).trans (Ext.upd (c := .obj (rangeIt 0 N)) hit)
  have cit : upd (upd C8 r (.obj (rangeObj N ta tb' tc))) it (.obj (rangeIt 0 N)) it = some (.obj (rangeIt 0 N)) := upd_same ..
  generalize upd (upd C8 r (.obj (rangeObj N ta tb' tc))) it (.obj (rangeIt 0 N)) = C15 at S15 Xr cit
  have lo15 : LO w g L1 O a sc m8 C15 #[] s15 := by
    obtain ⟨dv, ev, gk, σ, nl, el, mk, nvs, evs, mkv, es, _, b1, b2, b3, b4, b5, b6, b7, b8, b9, b10, b11, b12, b13, ⟨u3, b14⟩, u4, b15⟩ := lo
    exact ⟨dv, ev, gk, σ, nl, el, mk, nvs, evs, mkv, es, S15, b1, b2.ext Xr, b3, b4.pg Xr.pg, b5, b6.pg Xr.pg, b7, b8, b9, b10, b11, b12, b13, ⟨u3, Xr _ _ b14⟩, u4, Xr _ _ b15⟩
  clear S8 S9 S10 S11 S12 S13 S14 lo H8 q1 q2 q3 d1 d2 hr hit hN
  refine codeB_forLoop (I := fun k s' => ∃ (i : Nat) (m' : List (Str × Value)) (C' : Led) (G' : Array GenState), k = N - i ∧ i ≤ N ∧ LO w g L1 O a sc m' C' G' s' ∧ C' it = some (.obj (rangeIt (i : Int) ((N : Int) - (i : Int))))) ?_ N ?_
  · rintro k s16 ⟨i, m', C', G', rfl, hiN, lo, hit⟩
    obtain ⟨dv, ev, gk, σ, nl, el, mk, nvs, evs, mkv, es, S16, hbare, H, W, V, R, T, hmk, hgk, l1, l2, l3, l4, l5, ⟨u3, c1⟩, u4, c2⟩ := lo
    by_cases hin : i = N
    · refine wpAny_pyNext_range_end hh (S16.sat it _ hit) (by omega) fun h' hx => ?_
      have S17 := S16.lose (tk := s16.toks) hit hx
      refine wpB_execs_nil ?_
      refine wpB_any (wpAny_execs_cons (wpAny_Return_some (wpAny_Constant_bool ?_)))
      have tabAt : ∀ b, (∃ ps, C' b = some (.tab ps)) → ∃ ps, h'.get? b = some (tabObj ps) := fun b ⟨ps, e⟩ => by
        have e2 : del C' it b = some (.tab ps) := by
          unfold Mine.del
          rw [if_neg (by rintro rfl; rw [hit] at e; cases e)]; exact e
        exact ⟨ps, (S17.sat b _ e2).1⟩
      exact h _ S17.keep S17.os (by rw [S17.gens]; exact hbare) (tabAt 230 H.tb.1) (tabAt 601 H.tb.2)
    · refine wpAny_pyNext_range_item (S16.sat it _ hit) (by omega) fun h' hit' hs' => ?_
      have e16 : (i : Int) + 1 = ((i + 1 : Nat) : Int) ∧ (N : Int) - i - 1 = (N : Int) - ((i + 1 : Nat) : Int) := ⟨by omega, by omega⟩
      rw [e16.1, e16.2] at hit'
      have S17 := S16.put (c := .obj (rangeIt ((i + 1 : Nat) : Int) ((N : Int) - ((i + 1 : Nat) : Int)))) (s' := { s16 with heap := h', toks := s16.toks + 1 }) hit hs' hit' S16.gens S16.os
      have kb : KeepsBut it C' (upd C' it (.obj (rangeIt ((i + 1 : Nat) : Int) ((N : Int) - ((i + 1 : Nat) : Int))))) := KeepsBut.upd
      have nit : ∀ {b c}, C' b = some c → c ≠ .obj (rangeIt (i : Int) ((N : Int) - (i : Int))) → b ≠ it := fun {b c} e hc => by rintro rfl; rw [hit] at e; cases e; exact hc rfl
      have H17 := H.mono (KeepsBut.g (a := a) kb hit (by rintro (⟨_, _, _, q⟩ | ⟨_, _, _, q⟩ | ⟨_, q⟩ | ⟨_, q⟩ | q) <;> cases q))
      have V17 := V.mono2 fun b c e hg => kb b c (nit e (by rintro rfl; rcases hg with ⟨_, _, q⟩ | ⟨_, _, _, q⟩ <;> cases q)) e
      have T17 := T.mono fun b c e hg => kb b c (nit e (by rintro rfl; rcases hg with ⟨_, q⟩ | ⟨_, q⟩ | ⟨_, _, q⟩ <;> cases q)) e
      have c117 := kb _ _ (nit c1 (by intro q; cases q)) c1
      have c217 := kb _ _ (nit c2 (by intro q; cases q)) c2
      have it17 : upd C' it (.obj (rangeIt ((i + 1 : Nat) : Int) ((N : Int) - ((i + 1 : Nat) : Int)))) it = some (.obj (rangeIt ((i + 1 : Nat) : Int) ((N : Int) - ((i + 1 : Nat) : Int)))) := upd_same ..
      generalize upd C' it (.obj (rangeIt ((i + 1 : Nat) : Int) ((N : Int) - ((i + 1 : Nat) : Int)))) = C17 at S17 kb H17 V17 T17 c117 c217 it17
      clear S16 H V T c1 c2 kb nit hit hs' hit' lo15 S15 cit Xr
      refine r_asN S17 fun s18 S18 => ?_
      -- the cell
      refine wpB_execs_cons (wpB_any (wpAny_Assign_Name (hs := rfl) ?_))
      refine Call_ (r_glob S18 D (g_cell w) ?_)
      refine callWith_K D.X (kp_632 w) ?_ rfl
      refine wpAny_items_cons (he := by rfl) ?_
      refine r_loc S18 l1 ?_
      refine wpAny_items_cons (he := by rfl) ?_
      refine r_loc S18 rfl ?_
      refine wpAny_items_nil ⟨D.X.keeps S18.keep, ?_⟩
      refine cell_spec (A := A.deeper _) S18 D (by show A.depth + 1 + 4 < _; omega) hsc hns hl (by omega) fun t19 s19 S19 => ?_
      refine r_store S19 fun s20 S20 => ?_
      generalize cellOf ns i = cc at S20
      obtain ⟨m20, S20, hcc, l1, l2, l3, l4, l5⟩ : ∃ m20, St w g L1 m20 [] C17 G' O s20 ∧ m20.lookup (Str.ofString "cell") = some (.int cc t19) ∧ m20.lookup (Str.ofString "script") = some (.ref sc) ∧ m20.lookup (Str.ofString "graph") = some (.ref a.x) ∧ m20.lookup (Str.ofString "nodes") = some (.ref nl) ∧ m20.lookup (Str.ofString "edges") = some (.ref el) ∧ m20.lookup (Str.ofString "mark") = some (.ref mk) := ⟨_, S20, rfl, l1, l2, l3, l4, l5⟩
      refine wpB_execs_cons (wpB_any (Assign_Tuple (hs := rfl) (hw := rfl) ?_))
      refine r_tup ?_
      refine wpAny_items_cons (he := by rfl) ?_
      refine wpAny_BinOp (r_loc S20 hcc ?_)
      refine r_int S20 fun t21 s21 S21 => ?_
      refine r_mod S21 (by decide) fun t22 s22 S22 => ?_
      refine wpAny_items_cons (he := by rfl) ?_
      refine wpAny_BinOp (wpAny_BinOp (r_loc S22 hcc ?_))
      refine r_int S22 fun t23 s23 S23 => ?_
      refine r_fdiv S23 (by decide) (no_pl10 _) fun t24 s24 S24 => ?_
      refine r_int S24 fun t25 s25 S25 => ?_
      refine r_mod S25 (by decide) fun t26 s26 S26 => ?_
      refine wpAny_items_cons (he := by rfl) ?_
      refine wpAny_BinOp (wpAny_BinOp (r_loc S26 hcc ?_))
      refine r_int S26 fun t27 s27 S27 => ?_
      refine r_fdiv S27 (by decide) (no_pl60 _) fun t28 s28 S28 => ?_
      refine r_int S28 fun t29 s29 S29 => ?_
      refine r_mod S29 (by decide) fun t30 s30 S30 => ?_
      refine wpAny_items_cons (he := by rfl) ?_
      refine wpAny_BinOp (wpAny_BinOp (r_loc S30 hcc ?_))
      refine r_int S30 fun t31 s31 S31 => ?_
      refine r_fdiv S31 (by decide) (no_pl360 _) fun t32 s32 S32 => ?_
      refine r_int S32 fun t33 s33 S33 => ?_
      refine r_mod S33 (by decide) fun t34 s34 S34 => ?_
      refine wpAny_items_nil ?_
      refine ⟨by show 4 ≤ 1000; decide, ?_⟩
      refine ⟨_, _, _, _, _, _, _, S34, fun tz s35 htz S35 => ?_⟩
      have Xz := Ext.upd (c := .tup [.int (cc.fmod 10) t22, .int ((cc.fdiv 10).fmod 6) t26, .int ((cc.fdiv 60).fmod 6) t30, .int ((cc.fdiv 360).fmod 5) t34]) htz
      refine r_as4C S35 hh (upd_same ..) rfl rfl (Xz _ _ c117) (Xz _ _ c217) (Nat.ne_of_lt (Nat.lt_succ_self _)) fun s36 S36 => ?_
      obtain ⟨r1, r1'⟩ : 0 ≤ (cc.fdiv 10).fmod 6 ∧ (cc.fdiv 10).fmod 6 < 6 := ⟨Int.fmod_nonneg_of_pos _ (by decide), Int.fmod_lt_of_pos _ (by decide)⟩
      obtain ⟨r2, r2'⟩ : 0 ≤ (cc.fdiv 60).fmod 6 ∧ (cc.fdiv 60).fmod 6 < 6 := ⟨Int.fmod_nonneg_of_pos _ (by decide), Int.fmod_lt_of_pos _ (by decide)⟩
      generalize (cc.fdiv 10).fmod 6 = one at S36 Xz S35 r1 r1'
      generalize (cc.fdiv 60).fmod 6 = other at S36 Xz S35 r2 r2'
      generalize (cc.fdiv 360).fmod 5 = number at S36 Xz S35
      generalize cc.fmod 10 = kind at S36 Xz S35
      have hne12 : L1 + 1 ≠ L1 + 1 + 1 := Nat.ne_of_lt (Nat.lt_succ_self _)
      have k36 : ∀ {b c}, C17 b = some c → (∀ u, c ≠ .cv u) → upd (upd (upd C17 tz (.tup [.int kind t22, .int one t26, .int other t30, .int number t34])) (L1 + 1) (.cv (some (.int one t26)))) (L1 + 1 + 1) (.cv (some (.int other t30))) b = some c := fun {b c} e hc => by
        rw [upd_ne (by rintro rfl; rw [c217] at e; cases e; exact hc _ rfl), upd_ne (by rintro rfl; rw [c117] at e; cases e; exact hc _ rfl)]
        exact Xz _ _ e
      have H36 := H17.mono fun b c e hg => k36 e (by rintro u rfl; rcases hg with ⟨_, _, _, q⟩ | ⟨_, _, _, q⟩ | ⟨_, q⟩ | ⟨_, q⟩ | q <;> cases q)
      have V36 := V17.mono2 fun b c e hg => k36 e (by rintro u rfl; rcases hg with ⟨_, _, q⟩ | ⟨_, _, _, q⟩ <;> cases q)
      have T36 := T17.mono fun b c e hg => k36 e (by rintro u rfl; rcases hg with ⟨_, q⟩ | ⟨_, q⟩ | ⟨_, _, q⟩ <;> cases q)
      have it36 := k36 it17 (by intro u q; cases q)
      have e1 : upd (upd (upd C17 tz (.tup [.int kind t22, .int one t26, .int other t30, .int number t34])) (L1 + 1) (.cv (some (.int one t26)))) (L1 + 1 + 1) (.cv (some (.int other t30))) (L1 + 1) = some (.cv (some (.int one t26))) := by rw [upd_ne hne12]; exact upd_same ..
      have e2 := upd_same (upd (upd C17 tz (.tup [.int kind t22, .int one t26, .int other t30, .int number t34])) (L1 + 1) (.cv (some (.int one t26)))) (L1 + 1 + 1) (.cv (some (.int other t30)))
      generalize upd (upd (upd C17 tz (.tup [.int kind t22, .int one t26, .int other t30, .int number t34])) (L1 + 1) (.cv (some (.int one t26)))) (L1 + 1 + 1) (.cv (some (.int other t30))) = C36 at S36 k36 H36 V36 T36 it36 e1 e2
      clear k36 H17 V17 T17 it17 c117 c217 Xz htz S17 S18 S19 S20 S21 S22 S23 S24 S25 S26 S27 S28 S29 S30 S31 S32 S33 S34 S35
      -- third
      refine wpB_execs_cons (wpB_any (wpAny_Assign_Name (hs := rfl) ?_))
      refine wpAny_BinOp (wpAny_BinOp (r_cell S36 rfl e1 ?_))
      refine r_int S36 fun t37 s37 S37 => ?_
      refine r_plus S37 fun t38 s38 S38 => ?_
      refine r_int S38 fun t39 s39 S39 => ?_
      refine r_mod S39 (by decide) fun t40 s40 S40 => ?_
      refine r_store S40 fun s41 S41 => ?_
      obtain ⟨r3, r3'⟩ : 0 ≤ (one + 2).fmod 6 ∧ (one + 2).fmod 6 < 6 := ⟨Int.fmod_nonneg_of_pos _ (by decide), Int.fmod_lt_of_pos _ (by decide)⟩
      generalize (one + 2).fmod 6 = third at S41 r3 r3'
      obtain ⟨m41, S41, lk, lnu, lth, l1, l2, l3, l4, l5⟩ : ∃ m41, St w g L1 m41 [] C36 G' O s41 ∧ m41.lookup (Str.ofString "kind") = some (.int kind t22) ∧ m41.lookup (Str.ofString "number") = some (.int number t34) ∧ m41.lookup (Str.ofString "third") = some (.int third t40) ∧
        m41.lookup (Str.ofString "script") = some (.ref sc) ∧ m41.lookup (Str.ofString "graph") = some (.ref a.x) ∧ m41.lookup (Str.ofString "nodes") = some (.ref nl) ∧ m41.lookup (Str.ofString "edges") = some (.ref el) ∧ m41.lookup (Str.ofString "mark") = some (.ref mk) := ⟨_, S41, rfl, rfl, rfl, l1, l2, l3, l4, l5⟩
      clear S36 S37 S38 S39 S40
      refine wpB_execs_cons (wpB_any (wpAny_mono (Q := fun f s' => f = .next ∧ ∃ m' C' G', LO w g L1 O a sc m' C' G' s' ∧ C' it = some (.obj (rangeIt ((i + 1 : Nat) : Int) ((N : Int) - ((i + 1 : Nat) : Int))))) ?_ ?_ fun _ _ e => e))
      · have fin : ∀ {dv ev gk σ nl el mk nvs evs mkv es m' C' s'}, St w g L1 m' [] C' G' O s' → Gr C' a dv ev gk σ → PS.WF σ → Vok C' a dv ev → Rel σ es → LawAt C' nl el mk nvs evs mkv σ.nodes es → Mk gk mkv → gk.length ≤ 10 → m'.lookup (Str.ofString "script") = some (.ref sc) → m'.lookup (Str.ofString "graph") = some (.ref a.x) → m'.lookup (Str.ofString "nodes") = some (.ref nl) → m'.lookup (Str.ofString "edges") = some (.ref el) → m'.lookup (Str.ofString "mark") = some (.ref mk) → KPG C36 C' →
          ∃ m' C' G', LO w g L1 O a sc m' C' G' s' ∧ C' it = some (.obj (rangeIt ((i + 1 : Nat) : Int) ((N : Int) - ((i + 1 : Nat) : Int)))) := fun {dv ev gk σ nl el mk nvs evs mkv es m' C' s'} a1 a2 a3 a4 a5 a6 a7 a8 a9 a10 a11 a12 a13 k =>
          ⟨m', C', G', ⟨dv, ev, gk, σ, nl, el, mk, nvs, evs, mkv, es, a1, hbare, a2, a3, a4, a5, a6, a7, a8, a9, a10, a11, a12, a13, ⟨_, k _ _ e1 trivial rfl⟩, _, k _ _ e2 trivial rfl⟩, k _ _ it36 trivial rfl⟩
        refine wpAny_If (wpAny_isTrue_Compare1 (r_loc S41 lk (r_int S41 fun t42 s42 S42 => PyProof.Rows.lt_int (wpAny_truthy_bool ?_))))
        have T36n := T36.ni
        have len36 := IntsAre.length T36.ni
        have wl := W.len
        have hlen2 := T36.ei.length
        have hel := R.len W
        by_cases hk3 : kind < 3
        · rw [decide_eq_true hk3]
          show wpAny _ _ (execs _ _) _ _ _
          refine wpAny_execs_cons (wpAny_Expr (hi := rfl) (hs := rfl) (r_methKw (he := by rfl) (r_loc S42 l2 ?_)))
          refine r_meth S42 D H36.x H36.dx (pl_617 w _) (m_485 w) (fn_485 w) rfl ?_
          refine callWith_KW D.X (kp_485 w) rfl ?_
          refine wpAny_items_cons (he := by rfl) (r_cell S42 rfl e1 (wpAny_items_cons (he := by rfl) (r_cell S42 rfl e2 (wpAny_items_nil ?_))))
          refine kwAll_cons (r_loc S42 lnu (kwAll_nil ⟨D.X.keeps S42.keep, ?_⟩))
          refine add_edge_spec (A := A.deeper _) S42 D (by show A.depth + 1 + 5 < _; omega) hh H36 W ⟨r1, r1'⟩ ⟨r2, r2'⟩ fun s43 C43 d S43 H43 K43 => ?_
          have T43 := T36.pg K43.pg
          have e143 := K43 _ _ e1 trivial
          have e243 := K43 _ _ e2 trivial
          refine wpAny_execs_cons (Assign_Tuple_swapped (hs := rfl) (hw := rfl) ?_)
          refine r_tup (wpAny_items_cons (he := by rfl) ?_)
          refine Call_ (r_glob S43 D (g_known w) ?_)
          refine callWith_K D.X (kp_649 w) ?_ rfl
          refine wpAny_items_cons (he := by rfl) (r_loc S43 l3 ?_)
          refine wpAny_items_cons (he := by rfl) ?_
          refine r_lst (wpAny_items_cons (he := by rfl) (r_cell S43 rfl e143 (wpAny_items_cons (he := by rfl) (r_cell S43 rfl e243 (wpAny_items_nil ⟨by simp, _, _, _, _, _, _, _, S43, fun q s44 hq S44 => ?_⟩)))))
          have X44 := Ext.upd (c := .lst [.int one t26, .int other t30]) hq
          refine wpAny_items_nil ⟨D.X.keeps S44.keep, ?_⟩
          refine known_spec (A := A.deeper _) S44 D (by show A.depth + 1 + 4 < _; omega) hh (X44 _ _ T43.n) T43.ni (upd_same ..) (.cons _ _ (.cons _ _ .nil)) (by simp; omega) fun r s45 C45 vs' S45 X45 hr45 hi45 => ?_
          have X4345 := X44.trans X45
          refine wpAny_items_cons (he := by rfl) ?_
          refine Call_ (r_glob S45 D (g_joined w) ?_)
          refine callWith_K D.X (kp_637 w) ?_ rfl
          refine wpAny_items_cons (he := by rfl) (r_loc S45 l4 ?_)
          refine wpAny_items_cons (he := by rfl) (r_cell S45 rfl (X4345 _ _ e143) ?_)
          refine wpAny_items_cons (he := by rfl) (r_cell S45 rfl (X4345 _ _ e243) ?_)
          refine wpAny_items_cons (he := by rfl) (r_dict1 (i := number) S45 (fun C s Q S h => r_loc S lnu (h _ _ S)) ?_)
          intro d46 t46 ep46 s46 hd46 S46
          have X46 := X4345.trans (Ext.upd (c := .ds .none [(Str.ofString "w", .int number t46)] ep46) hd46)
          have T46 := T43.pg X46.pg
          refine wpAny_items_nil ⟨D.X.keeps S46.keep, ?_⟩
          refine joined_spec (A := A.deeper _) S46 D (by show A.depth + 1 + 8 < _; omega) (by show A.units + 3 + 128 < _; omega) hh T46.e T46.ei (xx := (number, none)) (upd_same ..) ⟨_, rfl⟩ (by omega) fun q2 s47 C47 vs47 S47 X47 hq47 he47 => ?_
          refine wpAny_items_nil ⟨by show 2 ≤ 1000; decide, _, _, _, _, _, _, _, S47, fun tu s48 htu S48 => ?_⟩
          have X48 := X47.trans (Ext.upd (c := .tup [.ref r, .ref q2]) htu)
          have X4348 := X46.trans X48
          refine r_sw2 S48 hh (upd_same ..) fun s49 S49 => ?_
          refine wpAny_execs_nil ?_
          have hr48 := X48 _ _ (upd_old (c := .ds .none [(Str.ofString "w", .int number t46)] ep46) hr45 hd46)
          have hq48 := upd_old (c := .tup [.ref r, .ref q2]) hq47 htu
          have he48 := he47.imp fun _ _ q => q.ext (Ext.upd (c := .tup [.ref r, .ref q2]) htu)
          refine ⟨rfl, fin S49 (H43.ext X4348) (W.add1 (e := (one, other, none)) ⟨r1, r1'⟩ ⟨r2, r2'⟩ number d) (V36.pg (K43.pg.trans X4348.pg)) (R.add1 W (one, other, none) number d ⟨r1, r1'⟩ ⟨r2, r2'⟩) ⟨hr48, ?_, hq48, he48, (T43.pg X4348.pg).m⟩ hmk hgk l1 l2 rfl rfl l5 (K43.pg.trans X4348.pg)⟩
          show IntsAre vs' (σ.add1 (one, other, none) number d).nodes
          rw [add1_nodes]; exact hi45
        rw [decide_eq_false hk3]
        show wpAny _ _ (execs _ _) _ _ _
        refine wpAny_execs_cons (wpAny_If (wpAny_isTrue_Compare1 (r_loc S42 lk (r_int S42 fun t43 s43 S43 => PyProof.Rows.eq_int (wpAny_truthy_bool ?_)))))
        cases hke : (kind == 3)
        rotate_left
        · show wpAny _ _ (execs _ _) _ _ _
          refine wpAny_execs_cons (wpAny_Expr (hi := rfl) (hs := rfl) (r_methKw (he := by rfl) (r_loc S43 l2 ?_)))
          refine r_meth S43 D H36.x H36.dx (pl_617 w _) (m_492 w) (fn_492 w) rfl ?_
          refine callWith_KW D.X (kp_492 w) rfl ?_
          refine wpAny_items_cons (he := by rfl) (r_lst ?_)
          refine wpAny_items_cons (he := by rfl) (r_tup (wpAny_items_cons (he := by rfl) (r_cell S43 rfl e1 (wpAny_items_cons (he := by rfl) (r_cell S43 rfl e2 (wpAny_items_nil ⟨by simp, _, _, _, _, _, _, _, S43, fun ta s44 hta S44 => ?_⟩))))))
          have X44 := Ext.upd (c := .tup [.int one t26, .int other t30]) hta
          refine wpAny_items_cons (he := by rfl) (r_tup (wpAny_items_cons (he := by rfl) (r_cell S44 rfl (X44 _ _ e2) (wpAny_items_cons (he := by rfl) (r_loc S44 lth (wpAny_items_cons (he := by rfl) (r_dict1 (i := number) S44 (fun C s Q S h => r_loc S lnu (h _ _ S)) ?_)))))))
          intro da t45 ep45 s45 hda S45
          have X45 := X44.trans (Ext.upd (c := .ds .none [(Str.ofString "v", .int number t45)] ep45) hda)
          refine wpAny_items_nil ⟨by simp, _, _, _, _, _, _, _, S45, fun tb s46 htb S46 => ?_⟩
          have X4546 := Ext.upd (c := .tup [.int other t30, .int third t40, .ref da]) htb
          refine wpAny_items_nil ⟨by simp, _, _, _, _, _, _, _, S46, fun li s47 hli S47 => ?_⟩
          have X4647 := Ext.upd (c := .lst [.ref ta, .ref tb]) hli
          have X47 := X45.trans (X4546.trans X4647)
          refine wpAny_items_nil ?_
          refine kwAll_cons (r_int S47 fun t48 s48 S48 => kwAll_nil ⟨D.X.keeps S48.keep, ?_⟩)
          have cta := X4647 _ _ (X4546 _ _ (upd_old (c := .ds .none [(Str.ofString "v", .int number t45)] ep45) (upd_same C36 ta (.tup [.int one t26, .int other t30])) hda))
          have cda := X4647 _ _ (X4546 _ _ (upd_same ..))
          have ctb := X4647 _ _ (upd_same ..)
          refine add_edges_spec (A := A.deeper _) S48 D (by show A.depth + 1 + 5 < _; omega) hh (H36.ext X47) W (e1 := (one, other, none)) (e2 := (other, third, some number)) (upd_same ..) ⟨ta, t26, t30, rfl, cta⟩ ⟨tb, t30, t40, rfl, da, ep45, t45, ctb, cda⟩ ⟨⟨r1, r1'⟩, r2, r2'⟩ ⟨⟨r2, r2'⟩, r3, r3'⟩ fun s49 C49 G49 d1 d2 S49 g49 H49 K49 => ?_
          have g49' : G49 = G' := g49
          subst g49'
          have K3649 := X47.keepsP.trans K49
          have T49 := T36.pg K3649.pg
          have e149 := K3649 _ _ e1 trivial
          have e249 := K3649 _ _ e2 trivial
          have R1 := R.add1 W (one, other, none) 7 d1 ⟨r1, r1'⟩ ⟨r2, r2'⟩
          have W1 := W.add1 (e := (one, other, none)) ⟨r1, r1'⟩ ⟨r2, r2'⟩ 7 d1
          have R2 := R1.add1 W1 (other, third, some number) 7 d2 ⟨r2, r2'⟩ ⟨r3, r3'⟩
          have W2 := W1.add1 (e := (other, third, some number)) ⟨r2, r2'⟩ ⟨r3, r3'⟩ 7 d2
          have n2 : ((σ.add1 (one, other, none) 7 d1).add1 (other, third, some number) 7 d2).nodes = known σ.nodes [one, other, third] := by
            rw [add1_nodes, add1_nodes]; exact known_three σ.nodes one other third
          clear S43 S44 S45 S46 S47 S48 X44 X45 X4546 X4647 X47 cta cda ctb K49
          -- nodes
          refine wpAny_execs_cons (wpAny_Assign_Name (hs := rfl) ?_)
          refine Call_ (r_glob S49 D (g_known w) ?_)
          refine callWith_K D.X (kp_649 w) ?_ rfl
          refine wpAny_items_cons (he := by rfl) (r_loc S49 l3 ?_)
          refine wpAny_items_cons (he := by rfl) ?_
          refine r_lst (wpAny_items_cons (he := by rfl) (r_cell S49 rfl e149 (wpAny_items_cons (he := by rfl) (r_cell S49 rfl e249 (wpAny_items_cons (he := by rfl) (r_loc S49 lth (wpAny_items_nil ⟨by simp, _, _, _, _, _, _, _, S49, fun q s50 hq S50 => ?_⟩)))))))
          have X50 := Ext.upd (c := .lst [.int one t26, .int other t30, .int third t40]) hq
          refine wpAny_items_nil ⟨D.X.keeps S50.keep, ?_⟩
          refine known_spec (A := A.deeper _) S50 D (by show A.depth + 1 + 4 < _; omega) hh (X50 _ _ T49.n) T49.ni (upd_same ..) (.cons _ _ (.cons _ _ (.cons _ _ .nil))) (by simp; omega) fun r s51 C51 vs' S51 X51 hr51 hi51 => ?_
          have X4951 := X50.trans X51
          refine r_store S51 fun s52 S52 => ?_
          -- edges
          refine wpAny_execs_cons (wpAny_Assign_Name (hs := rfl) ?_)
          refine Call_ (r_glob S52 D (g_joined w) ?_)
          refine callWith_K D.X (kp_637 w) ?_ rfl
          refine wpAny_items_cons (he := by rfl) (r_loc S52 l4 ?_)
          refine wpAny_items_cons (he := by rfl) (r_cell S52 rfl (X4951 _ _ e149) ?_)
          refine wpAny_items_cons (he := by rfl) (r_cell S52 rfl (X4951 _ _ e249) ?_)
          refine wpAny_items_cons (he := by rfl) (r_dict1 (i := 7) S52 (fun C s Q S h => r_int S h) ?_)
          intro d53 t53 ep53 s53 hd53 S53
          have X53 := X4951.trans (Ext.upd (c := .ds .none [(Str.ofString "w", .int 7 t53)] ep53) hd53)
          have T53 := T49.pg X53.pg
          refine wpAny_items_nil ⟨D.X.keeps S53.keep, ?_⟩
          refine joined_spec (A := A.deeper _) S53 D (by show A.depth + 1 + 8 < _; omega) (by show A.units + 3 + 128 < _; omega) hh T53.e T53.ei (xx := (7, none)) (upd_same ..) ⟨_, rfl⟩ (by omega) fun q2 s54 C54 vs54 S54 X54 hq54 he54 => ?_
          have X4954 := X53.trans X54
          have hr54 := X54 _ _ (upd_old (c := .ds .none [(Str.ofString "w", .int 7 t53)] ep53) hr51 hd53)
          refine r_store S54 fun s55 S55 => ?_
          refine wpAny_execs_cons (wpAny_Assign_Name (hs := rfl) ?_)
          refine Call_ (r_glob S55 D (g_joined w) ?_)
          refine callWith_K D.X (kp_637 w) ?_ rfl
          refine wpAny_items_cons (he := by rfl) (r_loc S55 rfl ?_)
          refine wpAny_items_cons (he := by rfl) (r_cell S55 rfl (X4954 _ _ e249) ?_)
          refine wpAny_items_cons (he := by rfl) (r_loc S55 lth ?_)
          refine wpAny_items_cons (he := by rfl) (r_dict2 (i := 7) (i2 := number) S55 (fun C s Q S h => r_int S h) (fun C s Q S h => r_loc S lnu (h _ _ S)) (by decide) ?_)
          intro d56 t56 t56' ep56 s56 hd56 S56
          have X56 := Ext.upd (c := .ds .none [(Str.ofString "w", .int 7 t56), (Str.ofString "v", .int number t56')] ep56) hd56
          refine wpAny_items_nil ⟨D.X.keeps S56.keep, ?_⟩
          have hj := (R1.len W1)
          refine joined_spec (A := A.deeper _) S56 D (by show A.depth + 1 + 8 < _; omega) (by show A.units + 3 + 128 < _; omega) hh (X56 _ _ hq54) (he54.imp fun _ _ q => q.ext X56) (xx := (7, some number)) (upd_same ..) ⟨_, _, rfl⟩ (Nat.le_trans hj (by decide)) fun q3 s57 C57 vs57 S57 X57 hq57 he57 => ?_
          refine r_store S57 fun s58 S58 => wpAny_execs_nil (wpAny_execs_nil ?_)
          have X4957 := X4954.trans (X56.trans X57)
          exact ⟨rfl, fin S58 (H49.ext X4957) W2 (V36.pg (K3649.pg.trans X4957.pg)) R2 ⟨X57 _ _ (X56 _ _ hr54), by rw [n2]; exact hi51, hq57, he57, (T49.pg X4957.pg).m⟩ hmk hgk l1 l2 rfl rfl l5 (K3649.pg.trans X4957.pg)⟩
        show wpAny _ _ (execs _ _) _ _ _
        refine wpAny_execs_cons (wpAny_If (wpAny_isTrue_Compare1 (r_loc S43 lk (r_int S43 fun t44 s44 S44 => PyProof.Rows.eq_int (wpAny_truthy_bool ?_)))))
        cases hke4 : (kind == 4)
        rotate_left
        · show wpAny _ _ (execs _ _) _ _ _
          refine wpAny_execs_cons (wpAny_Expr (hi := rfl) (hs := rfl) (MethodCall_ (he := by rfl) (r_loc S44 l2 ?_)))
          refine r_meth S44 D H36.x H36.dx (pl_617 w _) (m_506 w) (fn_506 w) rfl ?_
          refine callWith_K D.X (kp_506 w) ?_ rfl
          refine wpAny_items_cons (he := by rfl) (r_lst ?_)
          refine wpAny_items_cons (he := by rfl) (r_tup (wpAny_items_cons (he := by rfl) (r_cell S44 rfl e1 (wpAny_items_cons (he := by rfl) (r_cell S44 rfl e2 (wpAny_items_nil ⟨by simp, _, _, _, _, _, _, _, S44, fun ta s45 hta S45 => ?_⟩))))))
          have X45 := Ext.upd (c := .tup [.int one t26, .int other t30]) hta
          have cta := upd_same C36 ta (.tup [.int one t26, .int other t30])
          generalize upd C36 ta (.tup [.int one t26, .int other t30]) = C45 at S45 X45 cta
          refine wpAny_items_cons (he := by rfl) (r_tup (wpAny_items_cons (he := by rfl) (r_cell S45 rfl (X45 _ _ e2) (wpAny_items_cons (he := by rfl) (r_loc S45 lth (wpAny_items_cons (he := by rfl) (r_dict1 (i := 1) S45 (fun C s Q S h => r_int S h) ?_)))))))
          intro da t46 ep46 s46 hda S46
          have X46 := Ext.upd (c := .ds .none [(Str.ofString "w", .int 1 t46)] ep46) hda
          generalize upd C45 da (.ds .none [(Str.ofString "w", .int 1 t46)] ep46) = C46 at S46 X46
          refine wpAny_items_nil ⟨by simp, _, _, _, _, _, _, _, S46, fun tb s47 htb S47 => ?_⟩
          have X47 := Ext.upd (c := .tup [.int other t30, .int third t40, .ref da]) htb
          have ctb := upd_same C46 tb (.tup [.int other t30, .int third t40, .ref da])
          generalize upd C46 tb (.tup [.int other t30, .int third t40, .ref da]) = C47 at S47 X47 ctb
          have Y47 := (X45.trans X46).trans X47
          refine wpAny_items_cons (he := by rfl) (r_tup (wpAny_items_cons (he := by rfl) (r_int S47 fun t48 s48 S48 => wpAny_items_cons (he := by rfl) (r_cell S48 rfl (Y47 _ _ e1) (wpAny_items_nil ⟨by simp, _, _, _, _, _, _, _, S48, fun tc s49 htc S49 => ?_⟩)))))
          have X49 := Ext.upd (c := .tup [.int 55 t48, .int one t26]) htc
          have ctc := upd_same C47 tc (.tup [.int 55 t48, .int one t26])
          generalize upd C47 tc (.tup [.int 55 t48, .int one t26]) = C49 at S49 X49 ctc
          have Y49 := Y47.trans X49
          refine wpAny_items_cons (he := by rfl) (r_tup (wpAny_items_cons (he := by rfl) (r_cell S49 rfl (Y49 _ _ e1) (wpAny_items_cons (he := by rfl) (r_cell S49 rfl (Y49 _ _ e1) (wpAny_items_nil ⟨by simp, _, _, _, _, _, _, _, S49, fun td s50 htd S50 => ?_⟩))))))
          have X50 := Ext.upd (c := .tup [.int one t26, .int one t26]) htd
          have ctd := upd_same C49 td (.tup [.int one t26, .int one t26])
          generalize upd C49 td (.tup [.int one t26, .int one t26]) = C50 at S50 X50 ctd
          refine wpAny_items_nil ⟨by simp, _, _, _, _, _, _, _, S50, fun li s51 hli S51 => ?_⟩
          have X51 := Ext.upd (c := .lst [.ref ta, .ref tb, .ref tc, .ref td]) hli
          have cli := upd_same C50 li (.lst [.ref ta, .ref tb, .ref tc, .ref td])
          generalize upd C50 li (.lst [.ref ta, .ref tb, .ref tc, .ref td]) = C51 at S51 X51 cli
          refine wpAny_items_nil ⟨D.X.keeps S51.keep, ?_⟩
          have Y51 := (Y49.trans X50).trans X51
          replace cta := X51 _ _ (X50 _ _ (X49 _ _ (X47 _ _ (X46 _ _ cta))))
          replace ctb := X51 _ _ (X50 _ _ (X49 _ _ ctb))
          replace ctc := X51 _ _ (X50 _ _ ctc)
          replace ctd := X51 _ _ ctd
          refine remove_edges_spec (A := A.deeper _) S51 D (by show A.depth + 1 + 5 < _; omega) hh (H36.ext Y51) W (es := [(one, other), (other, third), (55, one), (one, one)]) cli ?_ rfl fun s52 C52 G52 S52 g52 H52 K52 => ?_
          · intro j v hv
            match j, hv with
            | 0, hv => cases hv; exact ⟨_, rfl, ta, t26, t30, [], rfl, cta, by simp⟩
            | 1, hv => cases hv; exact ⟨_, rfl, tb, t30, t40, [.ref da], rfl, ctb, by simp⟩
            | 2, hv => cases hv; exact ⟨_, rfl, tc, t48, t26, [], rfl, ctc, by simp⟩
            | 3, hv => cases hv; exact ⟨_, rfl, td, t26, t26, [], rfl, ctd, by simp⟩
            | j + 4, hv => cases hv
          have g52' : G52 = G' := g52
          subst g52'
          have K3652 := Y51.keepsP.trans K52
          have T52 := T36.pg K3652.pg
          have e152 := K3652 _ _ e1 trivial
          have e252 := K3652 _ _ e2 trivial
          have hno : one ∉ ((σ.rmE one other).rmE other third).nbrs 55 := fun hm => by
            have := (((W.rmE one other).rmE other third).mem 55 one hm).1
            have := (((W.rmE one other).rmE other third).rng 55 this).2
            omega
          have hrm : rmL σ [(one, other), (other, third), (55, one), (one, one)] = ((σ.rmE one other).rmE other third).rmE one one := by
            show (((σ.rmE one other).rmE other third).rmE 55 one).rmE one one = _
            rw [PS.rmE_none ((W.rmE one other).rmE other third) hno]
          rw [hrm] at H52
          have R3 := ((R.rmE one other).rmE other third).rmE one one
          have W3 := ((W.rmE one other).rmE other third).rmE one one
          clear S44 S45 S46 S47 S48 S49 S50 S51 K52 cta ctb ctc ctd cli
          refine wpAny_execs_cons (wpAny_Assign_Name (hs := rfl) ?_)
          refine Call_ (r_glob S52 D (g_without w) ?_)
          refine callWith_K D.X (kp_642 w) ?_ rfl
          refine wpAny_items_cons (he := by rfl) ?_
          refine Call_ (r_glob S52 D (g_without w) ?_)
          refine callWith_K D.X (kp_642 w) ?_ rfl
          refine wpAny_items_cons (he := by rfl) ?_
          refine Call_ (r_glob S52 D (g_without w) ?_)
          refine callWith_K D.X (kp_642 w) ?_ rfl
          refine wpAny_items_cons (he := by rfl) (r_loc S52 l4 ?_)
          refine wpAny_items_cons (he := by rfl) (r_cell S52 rfl e152 ?_)
          refine wpAny_items_cons (he := by rfl) (r_cell S52 rfl e252 ?_)
          refine wpAny_items_nil ⟨D.X.keeps S52.keep, ?_⟩
          refine without_spec (A := A.deeper _) S52 D (by show A.depth + 1 + 4 < _; omega) (by show A.units + 3 + 128 < _; omega) hh T52.e T52.ei (by omega) fun q1 s53 C53 vs53 S53 X53 hq53 he53 => ?_
          refine wpAny_items_cons (he := by rfl) (r_cell S53 rfl (X53 _ _ e252) ?_)
          refine wpAny_items_cons (he := by rfl) (r_loc S53 lth ?_)
          refine wpAny_items_nil ⟨D.X.keeps S53.keep, ?_⟩
          refine without_spec (A := A.deeper _) S53 D (by show A.depth + 1 + 4 < _; omega) (by show A.units + 3 + 128 < _; omega) hh hq53 he53 (Nat.le_trans (List.length_filter_le ..) (by omega)) fun q2 s54 C54 vs54 S54 X54 hq54 he54 => ?_
          have X5254 := X53.trans X54
          refine wpAny_items_cons (he := by rfl) (r_cell S54 rfl (X5254 _ _ e152) ?_)
          refine wpAny_items_cons (he := by rfl) (r_cell S54 rfl (X5254 _ _ e152) ?_)
          refine wpAny_items_nil ⟨D.X.keeps S54.keep, ?_⟩
          refine without_spec (A := A.deeper _) S54 D (by show A.depth + 1 + 4 < _; omega) (by show A.units + 3 + 128 < _; omega) hh hq54 he54 (Nat.le_trans (List.length_filter_le ..) (Nat.le_trans (List.length_filter_le ..) (by omega))) fun q3 s55 C55 vs55 S55 X55 hq55 he55 => ?_
          have X5255 := X5254.trans X55
          refine r_store S55 fun s56 S56 => wpAny_execs_nil (wpAny_execs_nil (wpAny_execs_nil ?_))
          have T55 := T52.pg X5255.pg
          exact ⟨rfl, fin S56 (H52.ext X5255) W3 (V36.pg (K3652.pg.trans X5255.pg)) R3 ⟨T55.n, T55.ni, hq55, he55, T55.m⟩ hmk hgk l1 l2 l3 rfl l5 (K3652.pg.trans X5255.pg)⟩
        show wpAny _ _ (execs _ _) _ _ _
        refine wpAny_execs_cons (wpAny_If (wpAny_isTrue_Compare1 (r_loc S44 lk (r_int S44 fun t45 s45 S45 => PyProof.Rows.eq_int (wpAny_truthy_bool ?_)))))
        cases hke5 : (kind == 5)
        rotate_left
        · show wpAny _ _ (execs _ _) _ _ _
          refine wpAny_execs_cons (wpAny_Assign_Name (hs := rfl) (wpAny_Compare1 ?_))
          rw [eval_ListComp]
          refine r_compL (l := el) (vs := evs) (R := fun i Cx ys => All2 (EdgeAt Cx) ys ((es.take i).filter fun e => decide (e.1 = prOf one other))) .nm ⟨rfl, rfl, by decide, by decide⟩ hh (by show A.depth + 1 < _; omega) (by omega) (r_loc S45 l4 ⟨rfl, T36.e, S45⟩) (fun _ => .nil) (fun i C C' ys hr x => hr.imp fun _ _ q => q.ext x) ?_ ?_
          · intro Lc j mc C6 x s6 E' ys hx X6 hr S6
            obtain ⟨e, he1, he2⟩ := T36.ei.get hx
            have hev := he2
            obtain ⟨ea, pv, d', kvs, ep, rfl, ha, hp, hd', hk⟩ := he2
            refine r_asN S6 fun s7 S7 => ?_
            obtain ⟨qa, qxs, rfl, hqa, hqi⟩ := pair_ints (hp.ext X6)
            refine r_if1 (wpAny_isTrue_Compare1 (Subscript_ (r_loc S7 rfl (r_int S7 fun t8 s8 S8 => r_subT (j := 0) S8 (X6 _ _ ha) rfl (by omega) ?_))))
            refine r_lst (wpAny_items_cons (he := rfl) ?_)
            refine r_bcall2 S8 D (nb_min w) bi_min (by decide) (r_cell S8 rfl (X6 _ _ e1) (r_cell S8 rfl (X6 _ _ e2) (r_min hh S8 fun v9 s9 S9 => ?_)))
            refine wpAny_items_cons (he := rfl) (r_bcall2 S9 D (nb_max w) bi_max (by decide) (r_cell S9 rfl (X6 _ _ e1) (r_cell S9 rfl (X6 _ _ e2) (r_max hh S9 fun v10 s10 S10 => ?_))))
            refine wpAny_items_nil ⟨by simp, _, _, _, _, _, _, _, S10, fun t11 s11 ht11 S11 => ?_⟩
            refine r_eqI S11 (upd_old hqa ht11) (upd_same ..) hqi (.cons _ _ (.cons _ _ .nil)) (by show A.units + 3 + 64 < _; omega) (wpAny_truthy_bool ?_)
            rw [show decide ([e.1.1, e.1.2] = [min one other, max one other]) = decide (e.1 = prOf one other) from eq_dec e.1 (prOf one other)]
            by_cases hne : e.1 = prOf one other
            · rw [decide_eq_true hne, if_pos rfl]
              refine r_loc S11 rfl ?_
              refine ⟨_, _, S11, Ext.upd ht11, fun Cx xb _ hrx => ?_⟩
              rw [filter_take _ he1, if_pos (decide_eq_true hne)]
              exact hrx.snoc (hev.ext xb)
            · rw [decide_eq_false hne, if_neg Bool.false_ne_true]
              refine ⟨_, _, S11, Ext.upd ht11, fun Cx xb hrx => ?_⟩
              rw [filter_take _ he1, if_neg (by rw [decide_eq_false hne]; exact Bool.false_ne_true), List.append_nil]
              exact hrx
          intro K6 Lc mc C6 s6 ks hK6 X6 hr6 hK6' S6
          refine compPost_val S45 S6 fun s7 S7 => ?_
          rw [hlen2, List.take_length] at hr6
          refine r_lst (wpAny_items_nil ⟨Nat.zero_le _, _, _, _, _, _, _, _, S7, fun e0 s8 he0 S8 => ?_⟩)
          refine r_neNil S8 (upd_old hK6' he0) (upd_same ..) (by show A.units + 3 + 64 < _; omega) ?_
          have hdue : (!ks.isEmpty) = decide (other ∈ σ.nbrs one) := by
            have hl := hr6.length
            have hm := R.mem one other
            by_cases ho : other ∈ σ.nbrs one
            · rw [decide_eq_true ho]
              obtain ⟨e, he1, he2⟩ := List.mem_map.mp (hm.mp ho)
              have : e ∈ es.filter fun e => decide (e.1 = prOf one other) := List.mem_filter.mpr ⟨he1, decide_eq_true he2⟩
              cases ks with
              | nil => rw [List.length_nil] at hl; rw [List.eq_nil_of_length_eq_zero hl.symm] at this; cases this
              | cons _ _ => rfl
            · rw [decide_eq_false ho]
              cases ks with
              | nil => rfl
              | cons k ks' =>
                cases hf : es.filter fun e => decide (e.1 = prOf one other) with
                | nil => rw [hf] at hl; cases hl
                | cons e _ =>
                  have : e ∈ es.filter fun e => decide (e.1 = prOf one other) := by rw [hf]; exact .head _
                  obtain ⟨h1, h2⟩ := List.mem_filter.mp this
                  exact absurd (hm.mpr (List.mem_map.mpr ⟨e, h1, of_decide_eq_true h2⟩)) ho
          rw [hdue]
          have X8 := X6.trans (Ext.upd (c := .lst []) he0)
          generalize upd C6 e0 (.lst []) = C8 at S8 X8
          refine r_store S8 fun s9 S9 => ?_
          refine wpAny_execs_cons (wpAny_If (wpAny_isTrue_Compare1 ?_))
          refine Call_ (r_glob S9 D (g_taken w) ?_)
          refine callWith_K D.X (kp_656 w) ?_ rfl
          refine wpAny_items_cons (he := by rfl) (r_loc S9 l2 ?_)
          refine wpAny_items_cons (he := by rfl) (r_cell S9 rfl (X8 _ _ e1) ?_)
          refine wpAny_items_cons (he := by rfl) (r_cell S9 rfl (X8 _ _ e2) ?_)
          refine wpAny_items_nil ⟨D.X.keeps S9.keep, ?_⟩
          refine taken_spec (A := A.deeper _) S9 D (by show A.depth + 1 + 8 < _; omega) hh (Around.frames_deeper hfr) (fun e he => ?_) (H36.ext X8) W ⟨r1, r1'⟩ ⟨r2, r2'⟩ fun s10 C10 S10 H10 K10 => ?_
          · rw [List.mem_singleton] at he; subst he
            exact ⟨(by intro q; cases q), L1, rfl, .inl rfl⟩
          refine r_loc S10 rfl (PyProof.Rows.ne_bool (wpAny_truthy_bool ?_))
          rw [show (decide (other ∈ σ.nbrs one) != decide (other ∈ σ.nbrs one)) = false from bne_self_eq_false _]
          rw [if_neg Bool.false_ne_true]
          refine wpAny_execs_nil ?_
          have K3610 := X8.keepsP.trans K10
          have T10 := T36.pg K3610.pg
          refine wpAny_execs_cons (wpAny_Assign_Name (hs := rfl) ?_)
          refine Call_ (r_glob S10 D (g_without w) ?_)
          refine callWith_K D.X (kp_642 w) ?_ rfl
          refine wpAny_items_cons (he := by rfl) (r_loc S10 l4 ?_)
          refine wpAny_items_cons (he := by rfl) (r_cell S10 rfl (K3610 _ _ e1 trivial) ?_)
          refine wpAny_items_cons (he := by rfl) (r_cell S10 rfl (K3610 _ _ e2 trivial) ?_)
          refine wpAny_items_nil ⟨D.X.keeps S10.keep, ?_⟩
          refine without_spec (A := A.deeper _) S10 D (by show A.depth + 1 + 4 < _; omega) (by show A.units + 3 + 128 < _; omega) hh T10.e T10.ei (by omega) fun q1 s11 C11 vs11 S11 X11 hq11 he11 => ?_
          refine r_store S11 fun s12 S12 => wpAny_execs_nil (wpAny_execs_nil (wpAny_execs_nil (wpAny_execs_nil ?_)))
          have T11 := T10.pg X11.pg
          exact ⟨rfl, fin S12 (H10.ext X11) (W.rmE one other) (V36.pg (K3610.pg.trans X11.pg)) (R.rmE one other) ⟨T11.n, T11.ni, hq11, he11, T11.m⟩ hmk hgk l1 l2 l3 rfl l5 (K3610.pg.trans X11.pg)⟩
        show wpAny _ _ (execs _ _) _ _ _
        refine wpAny_execs_cons (wpAny_If (wpAny_isTrue_Compare1 (r_loc S45 lk (r_int S45 fun t46 s46 S46 => PyProof.Rows.eq_int (wpAny_truthy_bool ?_)))))
        cases hke6 : (kind == 6)
        rotate_left
        · show wpAny _ _ (execs _ _) _ _ _
          refine wpAny_execs_cons (wpAny_Expr (hi := rfl) (hs := rfl) (MethodCall_ (he := by rfl) (r_loc S46 l2 ?_)))
          refine r_meth S46 D H36.x H36.dx (pl_617 w _) (m_447 w) (fn_447 w) rfl ?_
          refine callWith_K D.X (kp_447 w) ?_ rfl
          refine wpAny_items_cons (he := by rfl) (r_lst ?_)
          refine wpAny_items_cons (he := by rfl) (r_cell S46 rfl e1 (wpAny_items_cons (he := by rfl) (r_int S46 fun t47 s47 S47 => wpAny_items_cons (he := by rfl) (r_cell S47 rfl e2 (wpAny_items_cons (he := by rfl) (r_cell S47 rfl e1 (wpAny_items_nil ⟨by simp, _, _, _, _, _, _, _, S47, fun li s48 hli S48 => ?_⟩)))))))
          have X48 := Ext.upd (c := .lst [.int one t26, .int 77 t47, .int other t30, .int one t26]) hli
          have cli := upd_same C36 li (.lst [.int one t26, .int 77 t47, .int other t30, .int one t26])
          generalize upd C36 li (.lst [.int one t26, .int 77 t47, .int other t30, .int one t26]) = C48 at S48 X48 cli
          refine wpAny_items_nil ⟨D.X.keeps S48.keep, ?_⟩
          refine remove_nodes_spec (A := A.deeper _) S48 D (by show A.depth + 1 + 5 < _; omega) hh (Around.frames_deeper hfr) (fun e he => ?_) (H36.ext X48) W (ns := [one, 77, other, one]) cli (.cons _ _ (.cons _ _ (.cons _ _ (.cons _ _ .nil)))) fun s49 C49 G49 S49 g49 H49 K49 => ?_
          · rw [List.mem_singleton] at he; subst he
            exact ⟨(by intro q; cases q), L1, rfl, .inl rfl⟩
          have g49' : G49 = G' := g49
          subst g49'
          have K3649 := X48.keepsP.trans K49
          have T49 := T36.pg K3649.pg
          have e149 := K3649 _ _ e1 trivial
          have e249 := K3649 _ _ e2 trivial
          clear S46 S47 S48 cli K49
          refine wpAny_execs_cons (r_asCompL (l := nl) (vs := nvs) (R := fun i _ ys => IntsAre ys ((σ.nodes.take i).filter fun x => decide (x ∉ [one, other]))) rfl S49 .nm ⟨rfl, rfl, by decide, by decide⟩ hh (by show A.depth + 1 < _; omega) (by omega) (r_loc S49 l3 ⟨rfl, T49.n, S49⟩) (fun _ => .nil) (fun i C C' ys hr x => hr) ?_ ?_)
          · intro Lc j mc C6 x s6 E' ys hx X6 hr S6
            obtain ⟨n, tn, rfl, hn⟩ := T49.ni.at j x hx
            refine r_asN S6 fun s7 S7 => ?_
            refine r_if1 (wpAny_isTrue_Compare1 (r_loc S7 rfl (r_tup (wpAny_items_cons (he := by rfl) (r_cell S7 rfl (X6 _ _ e149) (wpAny_items_cons (he := by rfl) (r_cell S7 rfl (X6 _ _ e249) (wpAny_items_nil ⟨by simp, _, _, _, _, _, _, _, S7, fun tu s8 htu S8 => ?_⟩))))))))
            refine notin_tuple_ints (ns := [one, other]) (S8.isTup (upd_same ..)) (.cons _ _ (.cons _ _ .nil)) (wpAny_truthy_bool ?_)
            rw [show (!([one, other].any (· == n))) = decide (n ∉ [one, other]) from notin_dec n one other]
            by_cases hc : n ∉ [one, other]
            · rw [decide_eq_true hc, if_pos rfl]
              refine r_loc S8 rfl ?_
              refine ⟨_, _, S8, Ext.upd htu, fun Cx xb _ hrx => ?_⟩
              rw [filter_take _ hn, if_pos (decide_eq_true hc)]
              exact ints_snoc hrx n tn
            · rw [decide_eq_false hc, if_neg Bool.false_ne_true]
              refine ⟨_, _, S8, Ext.upd htu, fun Cx xb hrx => ?_⟩
              rw [filter_take _ hn, if_neg (by rw [decide_eq_false hc]; exact Bool.false_ne_true), List.append_nil]
              exact hrx
          intro D6 C6 s6 ks hD6 X6 hr6 hD6' S6
          have hnl : nvs.length = σ.nodes.length := len36
          rw [hnl, List.take_length] at hr6
          refine wpAny_execs_cons (r_asCompL (l := el) (vs := evs) (R := fun i Cx ys => All2 (EdgeAt Cx) ys ((es.take i).filter fun e => decide (one ∉ [e.1.1, e.1.2] ∧ other ∉ [e.1.1, e.1.2]))) rfl S6 .nm ⟨rfl, rfl, by decide, by decide⟩ hh (by show A.depth + 1 < _; omega) (by omega) (r_loc S6 l4 ⟨rfl, X6 _ _ T49.e, S6⟩) (fun _ => .nil) (fun i C C' ys hr x => hr.imp fun _ _ q => q.ext x) ?_ ?_)
          · intro Lc j mc C7 x s7 E' ys hx X7 hr S7
            obtain ⟨e, he1, he2⟩ := T49.ei.get hx
            have hev := he2
            obtain ⟨ea, pv, d', kvs, ep, rfl, ha, hp, hd', hk⟩ := he2
            have X67 := X6.trans X7
            refine r_asN S7 fun s8 S8 => ?_
            obtain ⟨qa, qxs, rfl, hqa, hqi⟩ := pair_ints (hp.ext X67)
            refine r_if1 (wpAny_isTrue_BoolOp (wpAny_mono (Q := fun b s' => b = decide (one ∉ [e.1.1, e.1.2] ∧ other ∉ [e.1.1, e.1.2]) ∧ St w g Lc ((Str.ofString "row", .ref ea) :: mc) ((L1, (Str.ofString "nodes", .ref D6) :: m41) :: []) C7 G49 O s') ?_ ?_ fun _ _ e => e))
            · refine wpAny_allTrue_And_cons (wpAny_isTrue_Compare1 (r_cell S8 rfl (X67 _ _ e149) (Subscript_ (r_loc S8 rfl (r_int S8 fun t9 s9 S9 => r_subT (j := 0) S9 (X67 _ _ ha) rfl (by omega) ?_)))))
              refine r_notinL S9 hqa hqi (wpAny_truthy_bool ?_)
              by_cases h1 : one ∈ [e.1.1, e.1.2]
              · rw [decide_eq_true h1]
                exact ⟨by rw [decide_eq_false (fun q => q.1 h1)], S9⟩
              · rw [decide_eq_false h1]
                show wpAny _ _ (allTrue _ _ _) _ _ _
                refine wpAny_allTrue_And_cons (wpAny_isTrue_Compare1 (r_cell S9 rfl (X67 _ _ e249) (Subscript_ (r_loc S9 rfl (r_int S9 fun t10 s10 S10 => r_subT (j := 0) S10 (X67 _ _ ha) rfl (by omega) ?_)))))
                refine r_notinL S10 hqa hqi (wpAny_truthy_bool ?_)
                by_cases h2 : other ∈ [e.1.1, e.1.2]
                · rw [decide_eq_true h2]
                  exact ⟨by rw [decide_eq_false (fun q => q.2 h2)], S10⟩
                · rw [decide_eq_false h2]
                  show wpAny _ _ (allTrue _ _ _) _ _ _
                  exact wpAny_allTrue_And_nil ⟨by rw [decide_eq_true ⟨h1, h2⟩], S10⟩
            · rintro b s9 ⟨rfl, S9⟩
              by_cases hc : one ∉ [e.1.1, e.1.2] ∧ other ∉ [e.1.1, e.1.2]
              · rw [decide_eq_true hc, if_pos rfl]
                refine r_loc S9 rfl ?_
                refine ⟨_, _, S9, .refl _, fun Cx xb _ hrx => ?_⟩
                rw [filter_take _ he1, if_pos (decide_eq_true hc)]
                exact hrx.snoc (hev.ext (X6.trans xb))
              · rw [decide_eq_false hc, if_neg Bool.false_ne_true]
                refine ⟨_, _, S9, .refl _, fun Cx xb hrx => ?_⟩
                rw [filter_take _ he1, if_neg (by rw [decide_eq_false hc]; exact Bool.false_ne_true), List.append_nil]
                exact hrx
          intro D7 C7 s7 rs hD7 X7 hr7 hD7' S7
          rw [hlen2, List.take_length] at hr7
          have X67 := X6.trans X7
          have T7 := T49.pg X67.pg
          refine wpAny_execs_nil (wpAny_execs_nil (wpAny_execs_nil (wpAny_execs_nil (wpAny_execs_nil ?_))))
          have eN : (rmNs σ [one, 77, other, one]).nodes = σ.nodes.filter fun x => decide (x ∉ [one, other]) := by
            rw [rmNs_nodes]
            refine List.filter_congr fun x hx => ?_
            have := (W.rng x hx).2
            rw [decide_eq_decide]
            simp only [List.mem_cons, List.not_mem_nil, or_false]
            constructor
            · intro h q; exact h (by rcases q with q | q <;> simp [q])
            · intro h q; refine h ?_
              rcases q with q | q | q | q
              · exact .inl q
              · omega
              · exact .inr q
              · exact .inl q
          have eE : wnode es [one, 77, other, one] = es.filter fun e => decide (one ∉ [e.1.1, e.1.2] ∧ other ∉ [e.1.1, e.1.2]) := by
            unfold wnode
            refine List.filter_congr fun e he => ?_
            have hr := R.rng W e.1 (List.mem_map.mpr ⟨e, he, rfl⟩)
            have ho := R.ord e he
            rw [decide_eq_decide]
            simp only [List.mem_cons, List.not_mem_nil, or_false]
            omega
          have RR := R.rmNs [one, 77, other, one]
          rw [eE] at RR
          refine ⟨rfl, fin S7 (H49.ext X67) (rmNs_wf W _) (V36.pg (K3649.pg.trans X67.pg)) RR ⟨X7 _ _ hD6', by rw [eN]; exact hr6, hD7', hr7, T7.m⟩ hmk hgk l1 l2 rfl rfl l5 (K3649.pg.trans X67.pg)⟩
        show wpAny _ _ (execs _ _) _ _ _
        refine wpAny_execs_cons (wpAny_If (wpAny_isTrue_Compare1 (r_loc S46 lk (r_int S46 fun t47 s47 S47 => PyProof.Rows.eq_int (wpAny_truthy_bool ?_)))))
        cases hke7 : (kind == 7)
        rotate_left
        · show wpAny _ _ (execs _ _) _ _ _
          refine wpAny_execs_cons (wpAny_Expr (hi := rfl) (hs := rfl) (MethodCall_ (he := by rfl) (r_loc S47 l2 ?_)))
          refine r_meth S47 D H36.x H36.dx (pl_617 w _) (m_426 w) (fn_426 w) rfl ?_
          refine callWith_K D.X (kp_426 w) ?_ rfl
          refine wpAny_items_cons (he := by rfl) (r_cell S47 rfl e1 ?_)
          refine wpAny_items_nil ⟨D.X.keeps S47.keep, ?_⟩
          refine add_node_spec (A := A.deeper _) S47 D (by show A.depth + 1 + 5 < _; omega) hh H36 W fun s48 C48 S48 H48 K48 => ?_
          have T48 := T36.pg K48.pg
          refine wpAny_execs_cons (wpAny_Assign_Name (hs := rfl) ?_)
          refine Call_ (r_glob S48 D (g_known w) ?_)
          refine callWith_K D.X (kp_649 w) ?_ rfl
          refine wpAny_items_cons (he := by rfl) (r_loc S48 l3 ?_)
          refine wpAny_items_cons (he := by rfl) ?_
          refine r_lst (wpAny_items_cons (he := by rfl) (r_cell S48 rfl (K48 _ _ e1 trivial) (wpAny_items_nil ⟨by simp, _, _, _, _, _, _, _, S48, fun q s49 hq S49 => ?_⟩)))
          have X49 := Ext.upd (c := .lst [.int one t26]) hq
          refine wpAny_items_nil ⟨D.X.keeps S49.keep, ?_⟩
          refine known_spec (A := A.deeper _) S49 D (by show A.depth + 1 + 4 < _; omega) hh (X49 _ _ T48.n) T48.ni (upd_same ..) (.cons _ _ .nil) (by simp; omega) fun r s50 C50 vs' S50 X50 hr50 hi50 => ?_
          have X4850 := X49.trans X50
          have T50 := T48.pg X4850.pg
          refine r_store S50 fun s51 S51 => wpAny_execs_nil (wpAny_execs_nil (wpAny_execs_nil (wpAny_execs_nil (wpAny_execs_nil (wpAny_execs_nil ?_)))))
          refine ⟨rfl, fin S51 (H48.ext X4850) (W.ens ⟨r1, r1'⟩) (V36.pg (K48.pg.trans X4850.pg)) (R.ens W one) ⟨hr50, by rw [ens_nodes]; exact hi50, T50.e, T50.ei, T50.m⟩ hmk hgk l1 l2 rfl l4 l5 (K48.pg.trans X4850.pg)⟩
        show wpAny _ _ (execs _ _) _ _ _
        refine wpAny_execs_cons (wpAny_If (wpAny_isTrue_BoolOp (wpAny_mono (Q := fun _ s' => St w g L1 m41 [] C36 G' O s') ?_ ?_ fun _ _ e => e)))
        · refine wpAny_allTrue_And_cons (wpAny_isTrue_Compare1 (r_loc S47 lk (r_int S47 fun t48 s48 S48 => PyProof.Rows.eq_int (wpAny_truthy_bool ?_))))
          cases (kind == 8)
          · exact S48
          · show wpAny _ _ (allTrue _ _ _) _ _ _
            refine wpAny_allTrue_And_cons (wpAny_isTrue_Compare1 (r_loc S48 lnu (r_int S48 fun t49 s49 S49 => PyProof.Rows.lt_int (wpAny_truthy_bool ?_))))
            cases decide (number < 2)
            · exact S49
            · exact wpAny_allTrue_And_nil S49
        intro b s48 S48
        cases b
        rotate_left
        · show wpAny _ _ (execs _ _) _ _ _
          refine wpAny_execs_cons (wpAny_Expr (hi := rfl) (hs := rfl) (MethodCall_ (he := by rfl) (r_loc S48 l2 ?_)))
          refine r_meth S48 D H36.x H36.dx (pl_617 w _) (m_569 w) (fn_569 w) rfl ?_
          refine callWith_K0 (D.X.keeps S48.keep) (kp_569 w) ?_
          refine clear_edges_spec (A := A.deeper _) S48 D (by show A.depth + 1 + 5 < _; omega) hh H36 W fun s49 C49 G49 S49 g49 H49 K49 => ?_
          have g49' : G49 = G' := g49
          subst g49'
          have T49 := T36.pg K49.pg
          refine wpAny_execs_cons (wpAny_Assign_Name (hs := rfl) ?_)
          refine r_lst (wpAny_items_nil ⟨Nat.zero_le _, _, _, _, _, _, _, _, S49, fun q s50 hq S50 => ?_⟩)
          have X50 := Ext.upd (c := .lst []) hq
          have T50 := T49.pg X50.pg
          refine r_store S50 fun s51 S51 => wpAny_execs_nil (wpAny_execs_nil (wpAny_execs_nil (wpAny_execs_nil (wpAny_execs_nil (wpAny_execs_nil (wpAny_execs_nil ?_))))))
          refine ⟨rfl, fin S51 (H49.ext X50) W.clrE (V36.pg (K49.pg.trans X50.pg)) (Rel.nil fun _ => rfl) ⟨T50.n, T50.ni, upd_same .., .nil, T50.m⟩ hmk hgk l1 l2 l3 rfl l5 (K49.pg.trans X50.pg)⟩
        show wpAny _ _ (execs _ _) _ _ _
        refine wpAny_execs_cons (wpAny_If (wpAny_isTrue_BoolOp (wpAny_mono (Q := fun _ s' => St w g L1 m41 [] C36 G' O s') ?_ ?_ fun _ _ e => e)))
        · refine wpAny_allTrue_And_cons (wpAny_isTrue_Compare1 (r_loc S48 lk (r_int S48 fun t49 s49 S49 => PyProof.Rows.eq_int (wpAny_truthy_bool ?_))))
          cases (kind == 9)
          · exact S49
          · show wpAny _ _ (allTrue _ _ _) _ _ _
            refine wpAny_allTrue_And_cons (wpAny_isTrue_Compare1 (r_loc S49 lnu (r_int S49 fun t50 s50 S50 => PyProof.Rows.eq_int (wpAny_truthy_bool ?_))))
            cases (number == 0)
            · exact S50
            · exact wpAny_allTrue_And_nil S50
        intro b s49 S49
        cases b
        rotate_left
        · show wpAny _ _ (execs _ _) _ _ _
          refine wpAny_execs_cons (wpAny_Expr (hi := rfl) (hs := rfl) (MethodCall_ (he := by rfl) (r_loc S49 l2 ?_)))
          refine r_meth S49 D H36.x H36.dx (pl_617 w _) (m_562 w) (fn_562 w) rfl ?_
          refine callWith_K0 (D.X.keeps S49.keep) (kp_562 w) ?_
          refine clear_spec (A := A.deeper _) S49 D (by show A.depth + 1 + 5 < _; omega) H36 W hgk fun s50 C50 S50 H50 K50 => ?_
          refine wpAny_execs_cons (Assign_Tuple_swapped (hs := rfl) (hw := rfl) ?_)
          refine r_tup (wpAny_items_cons (he := by rfl) ?_)
          refine r_lst (wpAny_items_nil ⟨Nat.zero_le _, _, _, _, _, _, _, _, S50, fun q1 s51 hq1 S51 => ?_⟩)
          have X51 := Ext.upd (c := .lst []) hq1
          have c1 := upd_same C50 q1 (.lst [])
          generalize upd C50 q1 (.lst []) = C51 at S51 X51 c1
          refine wpAny_items_cons (he := by rfl) ?_
          refine r_lst (wpAny_items_nil ⟨Nat.zero_le _, _, _, _, _, _, _, _, S51, fun q2 s52 hq2 S52 => ?_⟩)
          have X52 := Ext.upd (c := .lst []) hq2
          have c2 := upd_same C51 q2 (.lst [])
          generalize upd C51 q2 (.lst []) = C52 at S52 X52 c2
          refine wpAny_items_cons (he := by rfl) ?_
          refine r_newds .none S52 fun q3 s53 hq3 S53 => ?_
          have X53 := Ext.upd (c := .ds .none [] 0) hq3
          have c3 := upd_same C52 q3 (.ds .none [] 0)
          generalize upd C52 q3 (.ds .none [] 0) = C53 at S53 X53 c3
          refine wpAny_items_nil ⟨by show 3 ≤ 1000; decide, _, _, _, _, _, _, _, S53, fun tu s54 htu S54 => ?_⟩
          have X54 := Ext.upd (c := .tup [.ref q1, .ref q2, .ref q3]) htu
          refine r_sw3 S54 hh (upd_same ..) fun s55 S55 => ?_
          have Y := X51.trans (X52.trans (X53.trans X54))
          refine wpAny_execs_nil (wpAny_execs_nil (wpAny_execs_nil (wpAny_execs_nil (wpAny_execs_nil (wpAny_execs_nil (wpAny_execs_nil (wpAny_execs_nil ?_)))))))
          refine ⟨rfl, fin S55 (H50.ext Y) (PS.WF.nil (fun _ => rfl) rfl rfl) (V36.pg (K50.pg.trans Y.pg)) (Rel.nil fun _ => rfl) ⟨X54 _ _ (X53 _ _ (X52 _ _ c1)), .nil, X54 _ _ (X53 _ _ c2), .nil, 0, X54 _ _ c3⟩ (mkv := []) ⟨rfl, fun p hp => by cases hp⟩ (Nat.zero_le _) l1 l2 rfl rfl rfl (K50.pg.trans Y.pg)⟩
        show wpAny _ _ (execs _ _) _ _ _
        refine wpAny_execs_nil (wpAny_execs_nil (wpAny_execs_nil (wpAny_execs_nil (wpAny_execs_nil (wpAny_execs_nil (wpAny_execs_nil (wpAny_execs_nil ?_)))))))
        exact ⟨rfl, fin S49 H36 W V36 R T36 hmk hgk l1 l2 l3 l4 l5 (.refl _)⟩
      · rintro f s42 ⟨rfl, m42, C42, G42, lo, it42⟩
        obtain ⟨dv, ev, gk, σ, nl, el, mk, nvs, evs, mkv, es, S42, hbare, H, W, V, R, T, hmk, hgk, l1, l2, l3, l4, l5, ⟨u5, c1⟩, u6, c2⟩ := lo
        refine wpB_execs_cons (wpB_If (b_isTrue_Not (b_isTrue_value ?_)))
        refine b_Call (r_glob S42 D (g_right w) ?_)
        refine b_callK D.X (kp_661 w) ?_ rfl
        refine wpAny_items_cons (he := by rfl) ?_
        refine r_loc S42 l2 ?_
        refine wpAny_items_cons (he := by rfl) ?_
        refine r_loc S42 l3 ?_
        refine wpAny_items_cons (he := by rfl) ?_
        refine r_loc S42 l4 ?_
        refine wpAny_items_cons (he := by rfl) ?_
        refine r_loc S42 l5 ?_
        refine wpAny_items_nil ⟨D.X.keeps S42.keep, ?_⟩
        refine right_spec (A := A.deeper _) S42 D BM hh (Around.frames_deeper hfr) (fun e he => ?_) (by show A.depth + 1 + 48 < _; omega) (by show A.units + 3 + 512 < _; omega) H W V (.inl rfl) T R hmk fun s43 C43 G43 v1 v2 S43 g43 H43 K43 V43 => ?_
        · rw [List.mem_singleton] at he; subst he
          exact ⟨(by intro q; cases q), L1, rfl, .inl rfl⟩
        · refine wpAny_truthy_bool ?_
          show wpB _ _ _ _ _ _
          refine wpB_execs_nil (wpB_execs_nil ?_)
          exact ⟨N - (i + 1), by omega, i + 1, m42, C43, G43, rfl, by omega, ⟨_, _, gk, σ, nl, el, mk, nvs, evs, mkv, es, S43, g43.2 hbare, H43, W, V43, R, T.pg K43, hmk, hgk, l1, l2, l3, l4, l5, ⟨_, K43 _ _ c1 trivial rfl⟩, _, K43 _ _ c2 trivial rfl⟩, K43 _ _ it42 trivial rfl⟩
  · exact ⟨0, m8, C15, #[], rfl, Nat.zero_le _, lo15, by simpa using cit⟩
end
end Mine
end
section -- J1
open PySem PySem.W PySem.Calls PyProof.Rows
namespace Mine
example : hd.heap_39 = hd.heap_39 ∧ PySem.Challenge.rw_ez0179_01 = PySem.Challenge.rw_ez0179_01 := by k_fill; exact ⟨rfl, rfl⟩
theorem c_234 (w : World) : codeHdIn (hd.heap_39 w.params) 234 230 = true := by kernel_rfl
theorem c_605 (w : World) : codeHdIn (hd.heap_39 w.params) 605 601 = true := by kernel_rfl
theorem n_tabs (w : World) : noTabs (hd.heap_39 w.params) = true := by kernel_rfl
theorem g_law (w : World) : nsIn (hd.heap_39 w.params) mainGlobals "law" = some (some (.ref 666)) := by kernel_rfl
theorem k666 {w : World} {h : Heap} (X : (hd.heap_39 w.params).In h) : ∃ o, h.get? 666 = some o := ⟨_, X _ _ (by k_is)⟩
set_option maxHeartbeats 400000 in
theorem join : PySem.Challenge.rw_ez0179_01.Holds := by
  refine hd ?_
  intro w s₀ s₁ mg mb G Y fa o pm cd doc dV kV ho hdd hcd hD hmg hg args vals as hpre hlay hrd hwl hlo
  have KX := km_in_of Y
  have hT8 := km_tabs_of Y
  refine Ground.open G ?_
  intro T B D TE TW
  have hT9 : TabsAt [(234, 230), (605, 601)] s₁.heap := fun q hq => by
    rcases List.mem_cons.mp hq with rfl | hq
    · exact ⟨codeHd_of_K KX (c_234 w), hT8 230 (.head _)⟩
    · rcases List.mem_cons.mp hq with rfl | hq
      · exact ⟨codeHd_of_K KX (c_605 w), hT8 601 (.tail _ (.head _))⟩
      · cases hq
  have e666 := mg_of KX T.g (g_law w)
  have hfa : Value.ref fa = .ref 666 := Option.some.inj (hmg.symm.trans e666)
  cases hfa
  clear hD hcd hdd ho hmg e666 D TE TW B G Y
  wrow_args hpre hlay hrd hwl hlo
  rename_i ns _ _ _ _ _ _ _ sc vs _ hL _ _ _ hI _ hc _
  have hl : ns.length ≤ 63 := by omega
  have hK := ghost_K hT9 KX (n_tabs w)
  have hTop := ghost_top hT9 T
  have hi0 : sysModules < s₁.heap.objs.size := by
    obtain ⟨o, ho⟩ := k666 KX
    exact Nat.lt_trans (by decide) (Heap.lt_size ho)
  refine law_spec (g := ghostOf s₁.heap [(234, 230), (605, 601)]) (O := s₁.os) ⟨hK, topRead_of hTop⟩ (bmod_of_top hTop) (fun b o e => of_hideAll _ e) (Nat.le_of_eq (hideAll_size _ _)) hi0 hg rfl (hT8 230 (.head _)) (hT8 601 (.tail _ (.head _)))
    (hideAll_none _ (.head _)) (hideAll_none _ (.tail _ (.head _))) (ghost_list hT9 hL) hI hl rfl rfl (by decide) (by decide) fun s' hk' hos' hbare p1 p2 => ?_
  have keep : ∀ b o, b ∉ [230, 601] → s₁.heap.get? b = some o → s'.heap.get? b = some o := fun b o hb e => hk' b o (ghost_ne e hb)
  refine ⟨.inl ⟨.bool true, .bool true, [], rfl, fun _ => rfl, .bool true, by wrow_post, fun _ => ⟨.nil, fun a ha => by cases ha⟩⟩, ⟨fun b o e => ?_, fun b o e => ?_⟩, hos', hbare⟩
  · by_cases h1 : b = 230
    · subst h1
      rw [hT8 230 (.head _)] at e; cases e
      obtain ⟨ps, e2⟩ := p1
      exact .inr (.inl ⟨((hT9 (234, 230) (.head _)).1.tab (hT8 230 (.head _))).isCodeTable, rfl, #[], ps, rfl, by rw [Array.empty_append]; exact e2⟩)
    · by_cases h2 : b = 601
      · subst h2
        rw [hT8 601 (.tail _ (.head _))] at e; cases e
        obtain ⟨ps, e2⟩ := p2
        exact .inr (.inl ⟨((hT9 (605, 601) (.tail _ (.head _))).1.tab (hT8 601 (.tail _ (.head _)))).isCodeTable, rfl, #[], ps, rfl, by rw [Array.empty_append]; exact e2⟩)
      · exact .inl (keep b o (by simp [h1, h2]) e)
  · by_cases h1 : b = 230
    · subst h1; obtain ⟨ps, e2⟩ := p1; exact ⟨_, e2⟩
    · by_cases h2 : b = 601
      · subst h2; obtain ⟨ps, e2⟩ := p2; exact ⟨_, e2⟩
      · exact ⟨_, keep b o (by simp [h1, h2]) e⟩
end Mine
end

theorem PySem.Challenge.cw_ez0179_01_holds : PySem.Challenge.rw_ez0179_01.Holds := by
  exact Mine.join
