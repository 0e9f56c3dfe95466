import PyProof.Rows.All
import Wide.All
import OpenK.AllK
import Wide.FinOn
import PySem.Challenge.RW_sr0081_01
open PySem PySem.W PyProof.Rows PySem.Calls PySem.Spec
set_option Elab.async false
set_option maxRecDepth 100000
set_option maxHeartbeats 4000000
set_option linter.unusedVariables false
namespace Mine
section
/-- the part of the state that is written out: frag0.heap_1 -/
local macro_rules | `(tactic| o_head (kmHook $k $a $p $ts)) => `(tactic| assumption)
theorem frag0 (h : PySem.Challenge.rw_sr0081_01.row.Holds) : PySem.Challenge.rw_sr0081_01.row.Holds := by km_head
end
section
noncomputable abbrev prg : Program := PySem.Challenge.pw_sr0081_01

noncomputable abbrev Facts := Addr → Option Obj
noncomputable abbrev Cell := Addr × (Obj → Prop)
noncomputable def Is (o : Obj) : Obj → Prop := fun x => x = o
/-- a dict of str keys that is the map m -/
noncomputable def NsO (m : Str → Option Value) (o : Obj) : Prop := ∃ es ep, o.data = .dict es ep ∧ StrKeys es ∧ ∀ name, nsFind es name = m name
noncomputable def Has (l : List (Str × Value)) (m : Str → Option Value) : Prop := ∀ p ∈ l, m p.1 = some p.2
/-- a frame's locals: at least these -/
noncomputable def Loc (l : List (Str × Value)) (o : Obj) : Prop := ∃ m, NsO m o ∧ Has l m
/-- an object's dict: these and no more -/
noncomputable def Exa (l : List (Str × Value)) (o : Obj) : Prop := NsO (fun x => l.lookup x) o ∧ ∃ es ep, o.data = .dict es ep ∧ UniqKeys es
noncomputable def Cel (v : Option Value) (o : Obj) : Prop := o.data = .cell v

structure Wd (B : Heap) (F : Facts) (h : Heap) (σ : List Cell) : Prop where
  base : ∀ a o, B.get? a = some o → F a = some o
  keep : ∀ a o, F a = some o → h.get? a = some o
  cell : ∀ p ∈ σ, ∃ o, h.get? p.1 = some o ∧ p.2 o
  off : ∀ p ∈ σ, F p.1 = none
  nodup : (σ.map (·.1)).Nodup

noncomputable def Le (F F' : Facts) : Prop := ∀ a o, F a = some o → F' a = some o
theorem Le.refl (F : Facts) : Le F F := fun _ _ e => e
theorem Le.trans {F F' F'' : Facts} (x : Le F F') (y : Le F' F'') : Le F F'' := fun a o e => y a o (x a o e)

/-- one cell of the ledger turned, the others left -/
inductive Up (a : Addr) (P P' : Obj → Prop) : List Cell → List Cell → Prop where
  | head {r} : Up a P P' ((a, P) :: r) ((a, P') :: r)
  | tail {x r r'} : Up a P P' r r' → Up a P P' (x :: r) (x :: r')

theorem Up.mem {a P P' σ σ'} (u : Up a P P' σ σ') : (a, P) ∈ σ := by
  induction u with
  | head => exact .head _
  | tail _ ih => exact .tail _ ih
theorem Up.keys {a P P' σ σ'} (u : Up a P P' σ σ') : σ'.map (·.1) = σ.map (·.1) := by
  induction u with
  | head => rfl
  | tail _ ih => simp only [List.map_cons, ih]
theorem Up.mem' {a P P' σ σ'} (u : Up a P P' σ σ') (nd : (σ.map (·.1)).Nodup) : ∀ p ∈ σ', p = (a, P') ∨ (p ∈ σ ∧ p.1 ≠ a) := by
  induction u with
  | @head r =>
    intro p hp
    rcases List.mem_cons.mp hp with rfl | hp
    · exact .inl rfl
    · refine .inr ⟨.tail _ hp, fun e => ?_⟩
      have := (List.nodup_cons.mp nd).1
      exact this (by have := List.mem_map_of_mem (f := fun (x : Cell) => x.1) hp; rwa [e] at this)
  | @tail x r r' u ih =>
    intro p hp
    have nd' : x.1 ∉ r.map (·.1) ∧ (r.map (·.1)).Nodup := List.nodup_cons.mp nd
    rcases List.mem_cons.mp hp with rfl | hp
    · refine .inr ⟨.head _, fun e => nd'.1 ?_⟩
      rw [e]; exact List.mem_map_of_mem (f := (·.1)) u.mem
    · rcases ih nd'.2 p hp with e | ⟨h1, h2⟩
      · exact .inl e
      · exact .inr ⟨.tail _ h1, h2⟩

/-- one cell dropped -/
inductive Dr (a : Addr) : List Cell → List Cell → Prop where
  | head {P r} : Dr a ((a, P) :: r) r
  | tail {x r r'} : Dr a r r' → Dr a (x :: r) (x :: r')
theorem Dr.sub {a σ σ'} (u : Dr a σ σ') : σ'.Sublist σ := by
  induction u with
  | head => exact List.sublist_cons_self _ _
  | tail _ ih => exact ih.cons_cons _
theorem Dr.ne {a σ σ'} (u : Dr a σ σ') (nd : (σ.map (·.1)).Nodup) : ∀ p ∈ σ', p.1 ≠ a := by
  induction u with
  | @head P r =>
    intro p hp e
    have := (List.nodup_cons.mp nd).1
    exact this (by have := List.mem_map_of_mem (f := fun (x : Cell) => x.1) hp; rwa [e] at this)
  | @tail x r r' u ih =>
    intro p hp
    have nd' : x.1 ∉ r.map (·.1) ∧ (r.map (·.1)).Nodup := List.nodup_cons.mp nd
    rcases List.mem_cons.mp hp with rfl | hp
    · intro e
      have : ∃ P, (a, P) ∈ r := by
        clear ih nd nd' hp e
        induction u with
        | @head P r => exact ⟨P, .head _⟩
        | tail _ ih => obtain ⟨P, h⟩ := ih; exact ⟨P, .tail _ h⟩
      obtain ⟨P, hP⟩ := this
      exact nd'.1 (e ▸ List.mem_map_of_mem (f := (·.1)) hP)
    · exact ih nd'.2 p hp

namespace Wd
variable {B h h' : Heap} {F F' : Facts} {σ σ' : List Cell} {a : Addr} {P P' : Obj → Prop} {o : Obj}

theorem get (x : Wd B F h σ) (m : (a, Is o) ∈ σ) : h.get? a = some o := by
  obtain ⟨o', e, rfl⟩ := x.cell _ m
  exact e
theorem fact (x : Wd B F h σ) (e : F a = some o) : h.get? a = some o := x.keep _ _ e
theorem old (x : Wd B F h σ) (e : B.get? a = some o) : h.get? a = some o := x.keep _ _ (x.base _ _ e)
theorem keepsB (x : Wd B F h σ) : ∀ b o, B.get? b = some o → h.get? b = some o := fun _ _ e => x.old e
theorem ns {m : Str → Option Value} (x : Wd B F h σ) (hm : (a, NsO m) ∈ σ) : h.Ns a m := by
  obtain ⟨o, e, es, ep, hd, hk, hf⟩ := x.cell _ hm
  exact ⟨o, es, ep, e, hd, hk, hf⟩
theorem loc {l : List (Str × Value)} (x : Wd B F h σ) (hm : (a, Loc l) ∈ σ) : ∃ m, h.Ns a m ∧ Has l m := by
  obtain ⟨o, e, m, ⟨es, ep, hd, hk, hf⟩, hl⟩ := x.cell _ hm
  exact ⟨m, ⟨o, es, ep, e, hd, hk, hf⟩, hl⟩
theorem exa {l : List (Str × Value)} (x : Wd B F h σ) (hm : (a, Exa l) ∈ σ) : ∃ o, h.get? a = some o ∧ Exa l o := x.cell _ hm
theorem cel {v : Option Value} (x : Wd B F h σ) (hm : (a, Cel v) ∈ σ) : h.IsCell a v := x.cell _ hm

/-- nothing that stood was touched -/
theorem grow (x : Wd B F h σ) (k : ∀ b o, h.get? b = some o → h'.get? b = some o) : Wd B F h' σ :=
  ⟨x.base, fun a o e => k _ _ (x.keep a o e), fun p hp => let ⟨o, e, q⟩ := x.cell p hp; ⟨o, k _ _ e, q⟩, x.off, x.nodup⟩
/-- one cell touched -/
theorem turn (x : Wd B F h σ) (u : Up a P P' σ σ') (k : ∀ b o, b ≠ a → h.get? b = some o → h'.get? b = some o) (n : ∃ o, h'.get? a = some o ∧ P' o) : Wd B F h' σ' := by
  have fa := x.off _ u.mem
  refine ⟨x.base, fun b o e => k b o (fun q => ?_) (x.keep b o e), fun p hp => ?_, fun p hp => ?_, ?_⟩
  · rw [q] at e; rw [fa] at e; cases e
  · rcases u.mem' x.nodup p hp with rfl | ⟨hp, hne⟩
    · exact n
    · obtain ⟨o, e, q⟩ := x.cell p hp
      exact ⟨o, k _ _ hne e, q⟩
  · rcases u.mem' x.nodup p hp with rfl | ⟨hp, hne⟩
    · exact fa
    · exact x.off p hp
  · rw [u.keys]; exact x.nodup
theorem same (x : Wd B F h σ) (u : Up a P P' σ σ') (k : Heap.SameBut a h h') (n : ∃ o, h'.get? a = some o ∧ P' o) : Wd B F h' σ' := x.turn u (fun b o hb e => k.extBut b o hb e) n
theorem update (x : Wd B F h σ) {f : Obj → Obj} (u : Up a (Is o) P' σ σ') (hf : (f o).isFreed = false) (n : P' (f o)) : Wd B F (h.update a f) σ' :=
  x.same u (Heap.SameBut.update ..) ⟨_, Heap.get?_update_self _ (x.get u.mem) hf, n⟩
theorem drop (x : Wd B F h σ) (u : Dr a σ σ') : Wd B F h σ' :=
  ⟨x.base, x.keep, fun p hp => x.cell p (u.sub.subset hp), fun p hp => x.off p (u.sub.subset hp), x.nodup.sublist (u.sub.map _)⟩
/-- one cell touched and forgotten -/
theorem turnDrop (x : Wd B F h σ) (u : Dr a σ σ') (hm : F a = none) (k : ∀ b o, b ≠ a → h.get? b = some o → h'.get? b = some o) : Wd B F h' σ' :=
  ⟨x.base, fun b o e => k b o (fun q => by rw [q, hm] at e; cases e) (x.keep b o e), fun p hp => let ⟨o, e, q⟩ := x.cell p (u.sub.subset hp); ⟨o, k _ _ (u.ne x.nodup p hp) e, q⟩,
    fun p hp => x.off p (u.sub.subset hp), x.nodup.sublist (u.sub.map _)⟩
theorem fresh (x : Wd B F h σ) {q : Addr} (e : h.get? q = none) : F q = none ∧ ∀ p ∈ σ, p.1 ≠ q := by
  refine ⟨?_, fun p hp => ?_⟩
  · cases z : F q with
    | none => rfl
    | some o => rw [x.keep _ _ z] at e; cases e
  · rintro rfl
    obtain ⟨o, e', _⟩ := x.cell p hp
    rw [e] at e'; cases e'
/-- a new cell -/
theorem new (x : Wd B F h σ) {q : Addr} (e : h.get? q = none) (k : ∀ b o, h.get? b = some o → h'.get? b = some o) (n : ∃ o, h'.get? q = some o ∧ P o) : Wd B F h' ((q, P) :: σ) := by
  obtain ⟨f1, f2⟩ := x.fresh e
  refine ⟨x.base, fun a o e => k _ _ (x.keep a o e), fun p hp => ?_, fun p hp => ?_, ?_⟩
  · rcases List.mem_cons.mp hp with rfl | hp
    · exact n
    · exact let ⟨o, e, q⟩ := x.cell p hp; ⟨o, k _ _ e, q⟩
  · rcases List.mem_cons.mp hp with rfl | hp
    · exact f1
    · exact x.off p hp
  · rw [List.map_cons, List.nodup_cons]
    refine ⟨fun hm => ?_, x.nodup⟩
    obtain ⟨p, hp, e⟩ := List.mem_map.mp hm
    exact f2 p hp e
theorem size_none (h : Heap) : h.get? h.objs.size = none := by
  cases z : h.get? h.objs.size with
  | none => rfl
  | some o => exact absurd (Heap.lt_size z) (Nat.lt_irrefl _)
theorem push (x : Wd B F h σ) (o : Obj) (hf : o.isFreed = false := by rfl) : Wd B F (h.push o) ((h.objs.size, Is o) :: σ) :=
  x.new (size_none h) (fun _ _ e => Heap.get?_push_of_some _ e) ⟨o, Heap.get?_push_size _ hf, rfl⟩
theorem imp (x : Wd B F h σ) (u : Up a P P' σ σ') (i : ∀ o, P o → P' o) : Wd B F h σ' := by
  obtain ⟨o, e, p⟩ := x.cell _ u.mem
  exact x.turn u (fun _ _ _ e => e) ⟨o, e, i o p⟩
/-- a cell that will not turn again becomes a fact -/
noncomputable def addF (F : Facts) (a : Addr) (o : Obj) : Facts := fun b => if b = a then some o else F b
theorem freeze (x : Wd B F h σ) (u : Dr a σ σ') (hm : (a, Is o) ∈ σ) : Wd B (addF F a o) h σ' ∧ Le F (addF F a o) ∧ addF F a o a = some o := by
  have fa := x.off _ hm
  have g := x.get hm
  have le : Le F (addF F a o) := fun b o' e => by
    unfold addF
    by_cases hb : b = a
    · rw [hb, fa] at e; cases e
    · rw [if_neg hb]; exact e
  refine ⟨⟨fun b o' e => le _ _ (x.base _ _ e), fun b o' e => ?_, fun p hp => x.cell p (u.sub.subset hp), fun p hp => ?_, x.nodup.sublist (u.sub.map _)⟩, le, by simp [addF]⟩
  · unfold addF at e
    by_cases hb : b = a
    · rw [if_pos hb] at e; cases e; rw [hb]; exact g
    · rw [if_neg hb] at e; exact x.keep _ _ e
  · unfold addF
    rw [if_neg (u.ne x.nodup p hp)]
    exact x.off p (u.sub.subset hp)
theorem perm (x : Wd B F h σ) (p : σ.Perm σ') : Wd B F h σ' :=
  ⟨x.base, x.keep, fun q hq => x.cell q (p.mem_iff.mpr hq), fun q hq => x.off q (p.mem_iff.mpr hq), (p.map _).nodup_iff.mp x.nodup⟩
end Wd

theorem Loc.get {l : List (Str × Value)} {m : Str → Option Value} {x : Str} {v : Value} (h : Has l m) (hm : (x, v) ∈ l) : m x = some v := h _ hm
/-- a store into the locals that are told -/
inductive Put (x : Str) (v : Value) : List (Str × Value) → List (Str × Value) → Prop where
  | nil : Put x v [] [(x, v)]
  | here {u r r'} : Put x v r r' → Put x v ((x, u) :: r) r'
  | there {y u r r'} : y ≠ x → Put x v r r' → Put x v ((y, u) :: r) ((y, u) :: r')
theorem Put.has {x v l l'} {m : Str → Option Value} (p : Put x v l l') (h : Has l m) : Has l' (fun y => if y = x then some v else m y) := by
  induction p with
  | nil => intro q hq; simp at hq; subst hq; simp
  | here _ ih => exact ih fun q hq => h q (.tail _ hq)
  | there hne _ ih =>
    intro q hq
    rcases List.mem_cons.mp hq with rfl | hq
    · show (if _ = x then _ else _) = _
      rw [if_neg hne]; exact h _ (.head _)
    · exact ih (fun q hq => h q (.tail _ hq)) q hq

structure Bs (w : World) (mg mb : Str → Option Value) (B : Heap) : Prop where
  X : (frag0.heap_1 w.params).In B
  g : B.Ns mainGlobals mg
  b : B.Ns builtinsNs mb
  nolimit : B.NoLimit
  builtins : ∀ x : Str, x ≠ "__name__" → mb x = bootBuiltins x
  nodigits : ∃ mc, B.Ns cStatics mc ∧ mc "sys.int_max_str_digits" = none
  bmain : ∃ bm ob, mg "__builtins__" = some (.ref bm) ∧ bm ≠ builtinsNs ∧ B.get? bm = some ob ∧ ob.cls = .type "module" ∧ ob.dict = some builtinsNs ∧ ob.data = .plain

structure Rm (A : Around) (k : Nat) : Prop where
  hh : A.handled = none
  d : A.depth + k < 900
  u : A.units + 10 * k < 9000
theorem Rm.in1 {A k} (r : Rm A (k + 1)) : Rm A.in1 k := ⟨r.hh, by have := r.d; show A.depth + k < 900; omega, by have := r.u; show A.units + 1 + 10 * k < 9000; omega⟩
theorem Rm.deeper {A k} (r : Rm A (k + 1)) (env : Env) : Rm (A.deeper env) k := ⟨r.hh, by have := r.d; show A.depth + 1 + k < 900; omega, by have := r.u; show A.units + 3 + 10 * k < 9000; omega⟩
theorem Rm.le {A k j} (r : Rm A k) (h : j ≤ k) : Rm A j := ⟨r.hh, by have := r.d; omega, by have := r.u; omega⟩
theorem Rm.room {A k} (r : Rm A k) : A.depth < recursionLimit := by have := r.d; show _ < 1000; omega
theorem Rm.units {A k} (r : Rm A k) : A.units < cLine := by have := r.u; show _ < 9900; omega
end
section
structure St (B : Heap) (os : OsState) (F : Facts) (s : Shared) (σ : List Cell) : Prop where
  wd : Wd B F s.heap σ
  bare : ∀ y ∈ s.gens, y.bare = true
  os : s.os = os
namespace St
variable {B : Heap} {os : OsState} {F F' : Facts} {s : Shared} {σ σ' : List Cell} {a : Addr} {P P' : Obj → Prop} {o : Obj}
theorem with_ (x : St B os F s σ) {h' : Heap} {tk : Nat} (y : Wd B F' h' σ') : St B os F' { s with heap := h', toks := tk } σ' := ⟨y, x.bare, x.os⟩
theorem toks (x : St B os F s σ) {tk : Nat} : St B os F { s with toks := tk } σ := ⟨x.wd, x.bare, x.os⟩
theorem perm (x : St B os F s σ) (p : σ.Perm σ') : St B os F s σ' := ⟨x.wd.perm p, x.bare, x.os⟩
theorem drop (x : St B os F s σ) (u : Dr a σ σ') : St B os F s σ' := ⟨x.wd.drop u, x.bare, x.os⟩
theorem of (x : St B os F s σ) (y : Wd B F' s.heap σ') : St B os F' s σ' := ⟨y, x.bare, x.os⟩
theorem imp (x : St B os F s σ) (u : Up a P P' σ σ') (i : ∀ o, P o → P' o) : St B os F s σ' := ⟨x.wd.imp u i, x.bare, x.os⟩
theorem In {w : World} {mg mb} (x : St B os F s σ) (U : Bs w mg mb B) : (frag0.heap_1 w.params).In s.heap := U.X.keeps x.wd.keepsB
/-- the second cell goes behind the next n -/
theorem swap {p q c : Cell} (x : St B os F s (p :: q :: c :: σ)) : St B os F s (p :: c :: q :: σ) := x.perm (.cons _ (.swap ..))
end St

theorem has_binds {binds : List (Str × Value)} (h : (binds.map (·.1)).Nodup) : Has binds (fun x => binds.reverse.lookup x) := by
  intro p hp
  have key : ∀ l : List (Str × Value), (l.map (·.1)).Nodup → p ∈ l → l.lookup p.1 = some p.2 := by
    intro l
    induction l with
    | nil => intro _ h; cases h
    | cons q r ih =>
      intro nd hm
      rw [List.map_cons, List.nodup_cons] at nd
      rw [List.lookup_cons]
      rcases List.mem_cons.mp hm with rfl | hm
      · simp
      · have : (p.1 == q.1) = false := by
          cases e : p.1 == q.1 with
          | false => rfl
          | true => exact absurd (List.mem_map_of_mem (f := (·.1)) hm) ((beq_iff_eq.mp e) ▸ nd.1)
        rw [this]; exact ih nd.2 hm
  refine key _ ?_ (List.mem_reverse.mpr hp)
  rw [List.map_reverse]
  exact (List.reverse_perm _).nodup_iff.mpr h

section
variable {w : World} {mg mb : Str → Option Value} {B : Heap} {os : OsState} {F : Facts} {s : Shared} {σ : List Cell} {A : Around} {k : Nat} {E : Value → Shared → Prop}

theorem enterC {f : Addr} {oc : Value} {od : Option Addr} {osl : Array (Option Value)} {fd : FuncData} {body : List Stmt} {args : Args} {binds : List (Str × Value)} {keys : List Str} {R : Result → Shared → Prop}
    (U : Bs w mg mb B) (x : St B os F s σ) (r : Rm A (k + 1)) (ho : (frag0.heap_1 w.params).lookup f = some ⟨oc, od, .func fd, osl⟩) (hcd : codeIn (frag0.heap_1 w.params) fd.code fd.qualname = true) (hbody : fd.body = .stmts body)
    (hbind : BindsTo s fd args binds) (hcell : ∀ y ∈ fd.scope.names, y.2 ≠ .cell) (hkeys : binds.map (·.1) = keys) (hnd : keys.Nodup) (hloc : ∀ y ∈ keys, fd.scope.names.lookup y = some .local)
    (h : ∀ L s₁, St B os F s₁ ((L, Loc binds) :: σ) → Rm (A.deeper (callEnv fd L f)) k →
      _root_.PySem.wpAt (model prg w) (A.deeper (callEnv fd L f)) (.func body (callEnv fd L f)) (execs body (callEnv fd L f)) (fun fl s' => R (.ok (.ret (match fl with | .ret v => v | _ => .none))) s') (fun _ _ => False) s₁)
    (hco : fd.scope.isCoroutine = false) (hgen : fd.scope.isGenerator = false) (hk : fd.scope.kind = .function) : codeAny (model prg w) A (.call (.ref f) args) R s := by
  have X := x.In U
  refine ks_codeAny_call_defAt r.room (X _ _ ho) rfl (U.nolimit.keeps x.wd.keepsB) (codeRec_of X hcd) hbody hbind hcell (fun y hy => hloc _ (hkeys ▸ List.mem_map_of_mem hy)) (fun h₀ hns hk₀ => ?_) hco hgen hk
  refine ks_wpAt_mono (h s.heap.objs.size _ (x.with_ (x.wd.new (Wd.size_none _) hk₀ ?_)) (r.deeper _)) (fun _ _ z => z) fun _ _ z => z.elim
  obtain ⟨o, es, ep, e1, e2, e3, e4⟩ := hns
  exact ⟨o, e1, _, ⟨es, ep, e2, e3, e4⟩, has_binds (hkeys ▸ hnd)⟩

theorem enter {f : Addr} {oc : Value} {od : Option Addr} {osl : Array (Option Value)} {fd : FuncData} {body : List Stmt} {args : Args} {binds : List (Str × Value)} {keys : List Str} {R : Result → Shared → Prop}
    (U : Bs w mg mb B) (x : St B os F s σ) (r : Rm A (k + 1)) (ho : (frag0.heap_1 w.params).lookup f = some ⟨oc, od, .func fd, osl⟩) (hcd : codeIn (frag0.heap_1 w.params) fd.code fd.qualname = true) (hbody : fd.body = .stmts body)
    (hbind : BindsTo s fd args binds) (hcell : ∀ y ∈ fd.scope.names, y.2 ≠ .cell) (hkeys : binds.map (·.1) = keys) (hnd : keys.Nodup) (hloc : ∀ y ∈ keys, fd.scope.names.lookup y = some .local)
    (h : ∀ L s₁, St B os F s₁ ((L, Loc binds) :: σ) → Rm (A.deeper (callEnv fd L f)) k →
      wpAny (model prg w) (A.deeper (callEnv fd L f)) (execs body (callEnv fd L f)) (fun fl s' => R (.ok (.ret (match fl with | .ret v => v | _ => .none))) s') (fun _ _ => False) s₁)
    (hco : fd.scope.isCoroutine = false) (hgen : fd.scope.isGenerator = false) (hk : fd.scope.kind = .function) : codeAny (model prg w) A (.call (.ref f) args) R s :=
  enterC U x r ho hcd hbody hbind hcell hkeys hnd hloc (fun L s₁ x₁ r₁ => wpAt_of_wpAny (h L s₁ x₁ r₁)) hco hgen hk
end

section
variable {w : World} {mg mb : Str → Option Value} {B : Heap} {os : OsState} {F : Facts} {s : Shared} {σ : List Cell} {M : Model} {A : Around} {k : Nat} {E : Value → Shared → Prop} {env : Env} {l l' : List (Str × Value)} {n : Str} {v : Value}

theorem ld {pos : Pos} {Q : Value → Shared → Prop} (x : St B os F s ((env.locals, Loc l) :: σ)) (hv : (n, v) ∈ l) (h : Q v s)
    (hk : env.scope.kind = .function := by rfl) (hl : env.kindOf n = some .local := by rfl) (hd : (n == ("__debug__" : Str)) = false := by decide) : wpAny M A (eval (.Name n pos) env) Q E s := by
  obtain ⟨m, hn, hm⟩ := x.wd.loc (.head _)
  exact wpAny_Name (wpAny_loadName_local hk hl hn (hm _ hv) h) hd
theorem ldn {Q : Value → Shared → Prop} (x : St B os F s ((env.locals, Loc l) :: σ)) (hv : (n, v) ∈ l) (h : Q v s)
    (hk : env.scope.kind = .function := by rfl) (hl : env.kindOf n = some .local := by rfl) : wpAny M A (loadName env n) Q E s := by
  obtain ⟨m, hn, hm⟩ := x.wd.loc (.head _)
  exact wpAny_loadName_local hk hl hn (hm _ hv) h
theorem st {Q : Unit → Shared → Prop} (x : St B os F s ((env.locals, Loc l) :: σ)) (p : Put n v l l') (h : ∀ s', St B os F s' ((env.locals, Loc l') :: σ) → Q () s')
    (hk : env.scope.kind = .function := by rfl) (hl : env.kindOf n = some .local := by rfl) : wpAny M A (storeName env n v) Q E s := by
  obtain ⟨m, hn, hm⟩ := x.wd.loc (.head _)
  refine wpAny_storeName_local hl hn (fun h' hn' hs => h _ (x.with_ (x.wd.same .head hs ?_))) (by rw [hk]; rfl)
  obtain ⟨o, es, ep, e1, e2, e3, e4⟩ := hn'
  exact ⟨o, e1, _, ⟨es, ep, e2, e3, e4⟩, p.has hm⟩
/-- a global of the text's own -/
theorem ldK {pos : Pos} {Q : Value → Shared → Prop} (U : Bs w mg mb B) (x : St B os F s σ) (e : nsIn (frag0.heap_1 w.params) mainGlobals n = some (some v)) (h : Q v s)
    (hk : env.scope.kind = .function := by rfl) (hl : env.kindOf n = some .globalImplicit := by rfl) (hg : env.globals = mainGlobals := by rfl) (hd : (n == ("__debug__" : Str)) = false := by decide) : wpAny M A (eval (.Name n pos) env) Q E s :=
  Name_function_global hk hl (loadGlobal_global (env := env) (hg ▸ U.g.keeps x.wd.keepsB) (mg_of U.X U.g e) h) hd
/-- a built-in -/
theorem ldB {pos : Pos} {Q : Value → Shared → Prop} (U : Bs w mg mb B) (x : St B os F s σ) (e : nsIn (frag0.heap_1 w.params) mainGlobals n = some none) (hv : bootBuiltins n = some v) (hn : n ≠ "__name__") (h : Q v s)
    (hk : env.scope.kind = .function := by rfl) (hl : env.kindOf n = some .globalImplicit := by rfl) (hg : env.globals = mainGlobals := by rfl) (hb : env.builtins = builtinsNs := by rfl) (hd : (n == ("__debug__" : Str)) = false := by decide) : wpAny M A (eval (.Name n pos) env) Q E s :=
  Name_function_global hk hl (loadGlobal_builtin (env := env) (hg ▸ U.g.keeps x.wd.keepsB) (mg_none_of U.X U.g e) (hb ▸ U.b.keeps x.wd.keepsB) ((U.builtins n hn).trans hv) h) hd
theorem cint {i : Int} {j : Nat} {pos : Pos} {Q : Value → Shared → Prop} (x : St B os F s σ) (h : ∀ t s', St B os F s' σ → Q (.int i t) s') : wpAny M A (eval (.Constant (.int i) j pos) env) Q E s := wpAny_Constant_int (h _ _ x.toks)
theorem cstr {i : Str} {j : Nat} {pos : Pos} {Q : Value → Shared → Prop} (x : St B os F s σ) (h : ∀ t s', St B os F s' σ → Q (.str i t) s') : wpAny M A (eval (.Constant (.str i) j pos) env) Q E s := wpAny_Constant_str (h _ _ x.toks)
theorem tupN {vs : List Value} {Q : Value → Shared → Prop} (x : St B os F s σ) (hz : vs.length ≤ 1000) (h : ∀ a s', St B os F s' ((a, Is { cls := .type "tuple", data := .seq vs.toArray }) :: σ) → Q (.ref a) s') : wpAny M A (newTuple vs) Q E s :=
  wpAny_newObj_type (h _ _ (x.with_ (x.wd.push _))) (by show vs.toArray.size ≤ sizeLine; rw [List.size_toArray, sizeLine_eq]; omega)
theorem lstN {vs : List Value} {Q : Value → Shared → Prop} (x : St B os F s σ) (hz : vs.length ≤ 1000) (h : ∀ a s', St B os F s' ((a, Is { cls := .type "list", data := .seq vs.toArray }) :: σ) → Q (.ref a) s') : wpAny M A (newList vs) Q E s :=
  wpAny_newObj_type (h _ _ (x.with_ (x.wd.push _))) (by show vs.toArray.size ≤ sizeLine; rw [List.size_toArray, sizeLine_eq]; omega)
end
end
section
theorem lookIn_ns {m : Str → Option Value} {o : Obj} {name : Str} (h : NsO m o) : lookIn name o = some (m name) := by
  obtain ⟨es, ep, hd, hk, hf⟩ := h
  have hn := hf name
  unfold nsFind findBy at hn
  unfold lookIn
  rw [hd]
  dsimp only
  rw [← Array.find?_toList] at hn
  split
  · rename_i e he
    rw [he] at hn
    exact congrArg some hn
  · rename_i he
    rw [he] at hn
    have : es.toList.any (·.refKey) = false := by
      rw [List.any_eq_false]
      intro e he'
      obtain ⟨n, t, q⟩ := hk e (Array.mem_toList_iff.mp he')
      simp [DictEntry.refKey, q]
    rw [this]
    exact congrArg some hn
theorem lookIn_exa {l : List (Str × Value)} {o : Obj} {name : Str} (h : Exa l o) : lookIn name o = some (l.lookup name) := lookIn_ns h.1

/-- an object with its dict, both in the ledger -/
theorem instAt {B : Heap} {os : OsState} {F : Facts} {s : Shared} {σ : List Cell} {a d C : Addr} {o od : Obj} (e1 : s.heap.get? a = some o) (hc : o.cls = .ref C) (hn : notCls o = true) (hd : o.dict = some d) (e2 : s.heap.get? d = some od) : InstAt s.heap a o C (some od) :=
  ⟨e1, hc, hn, by rw [hd]; exact e2⟩

section
variable {w : World} {A : Around} {E : Value → Shared → Prop} {s : Shared} {K : Frag} {x C : Addr} {ox : Obj} {od : Option Obj} {name : Str} {pl : Sem Bool} {Q : Value × List Value → Shared → Prop}
/-- a method that a built-in type gives -/
theorem method_bi {id : String} {T : String} (X : K.In s.heap) (I : InstAt s.heap x ox C od) (hga : findIn K (.ref C) "__getattribute__" = some (some (.builtin "object.__getattribute__"))) (hk : findIn K (.ref C) "__getattr__" = some none)
    (hf : findIn K (.ref C) name = some (some (.builtin id))) (ht : typeIn K (.builtin id) = some (.type T)) (hT : (T == "function" || T == "method_descriptor" || T == "wrapper_descriptor") = true) (hs : shadowIn od name = some false) (h : Q (.builtin id, [.ref x]) s) :
    wpAny (model prg w) A (getMethod (.ref x) name pl) Q E s := by
  have hcan := PySem.F.canon_object_ga
  unfold getMethod specialOf
  refine wpAny_bind (wpAny_bind (I.type.here ((looks_findIn X hga).here ?_)))
  dsimp only
  rw [hcan, if_neg (by decide)]
  refine wpAny_bind (wpAny_bind (I.type.here ((looks_findIn X hk).here ?_)))
  refine wpAny_bind (wpAny_bind (I.type.here ((looks_findIn X hf).here (wpAny_bind ((looks_typeIn X ht).here ?_)))))
  rw [if_neg (by
    simp only [Bool.or_eq_true, beq_iff_eq] at hT
    rcases hT with (rfl | rfl) | rfl <;> decide +kernel)]
  refine wpAny_bind (wpAny_loadPart I.at_ ?_)
  have hd := I.dict
  cases e : ox.dict with
  | none => exact wpAny_bind (wpAny_rule (wpAny_pure h))
  | some dx =>
    cases od with
    | none => rw [e] at hd; exact hd.elim
    | some o =>
      rw [e] at hd
      obtain ⟨r, a, b⟩ := Option.map_eq_some_iff.mp hs
      refine wpAny_bind (wpAny_bind (wpAny_loadPart hd ?_))
      rw [nsLook_of a]
      refine wpAny_pure ?_
      rw [b]
      exact wpAny_bind (wpAny_rule (wpAny_pure h))
end

section
variable {w : World} {A : Around} {E : Value → Shared → Prop} {s : Shared}
/-- a call of a built-in's method, its receiver's type a heap class -/
theorem call_bi {id owner n : String} {Bi : Builtin} {self : Value} {rest : List Value} {kw : List (Str × Value)} {Q : Value → Shared → Prop} (plain : plainId id = true) (entry : entryFor table id = some Bi)
    (hk : builtinKind id = some .slot ∨ builtinKind id = some .method) (hs : splitId id = some (owner, n)) (hi : Looks (model prg w) s.heap (isInstance self (.type owner)) true) (ha : argsOk id ⟨self :: rest, kw⟩)
    (h : wpAny (model prg w) A.in1 (Bi ⟨self :: rest, kw⟩) (fun fin s' => ∃ v, fin = .done (.ret v) ∧ Q v s') E s) : wpAny (model prg w) A (call (.builtin id) (self :: rest) kw) Q E s := by
  refine wpAny_call (codeAny_call_builtin plain entry ?_)
  have fin : wpAny (model prg w) A.in1 (Bi ⟨self :: rest, kw⟩) (fun fin s' => match fin with | .done f => (match (Except.ok f : Result) with | .ok (.ret v) => Q v s' | .ok _ => False | .error e => E e s') | .again c' => c'.quiet = true ∧ codeAny (model prg w) A c' (fun r s' => match r with | .ok (.ret v) => Q v s' | .ok _ => False | .error e => E e s') s') E s :=
    wpAny_mono h (fun fin s' z => by obtain ⟨v, rfl, q⟩ := z; exact q) fun _ _ z => z
  rcases hk with hk | hk
  · exact check_slot hk hs hi ha fin
  · simp only [checkBuiltinCall, hk, hs]
    refine wpAny_bind (hi.here ?_)
    simp only [Bool.not_true, Bool.false_eq_true, if_false]
    cases hsig : Manifest.signature? id with
    | none => exact wpAny_pure fin
    | some sig =>
      simp only [argsOk, hsig] at ha
      have h2 : Bind.checkArgs id sig ⟨self :: rest, kw⟩ = pure () := ha
      show wpAny _ _ (Bind.checkArgs id sig ⟨self :: rest, kw⟩) _ _ s
      rw [h2]; exact wpAny_pure fin
end
end
section
noncomputable def accO (vs : Array Value) (n : Nat) (d : Addr) : Obj := ⟨.ref 178, some d, .seq vs n, #[]⟩
noncomputable def AccP (vs : Array Value) (d : Addr) (o : Obj) : Prop := ∃ n, o = accO vs n d
noncomputable def IniP (i : Int) (o : Obj) : Prop := ∃ tk, Exa [("_initial_size", .int i tk)] o

theorem mapSeq_acc (f : Array Value → Array Value) (vs n d) : ∃ n', Obj.mapSeq f (accO vs n d) = accO (f vs) n' d := ⟨_, rfl⟩

theorem findObj_has {K : Frag} {C : Addr} {o : Obj} {name : Str} {v : Value} (hc : hasDictIn K C = true) (ha : findIn K (.ref C) name = some none) (hl : lookIn name o = some (some v)) : findObj K C (some o) name = some (.value v) := by
  obtain ⟨cd, h1, h2⟩ := any_some hc
  unfold findObj
  rw [h1, Option.bind_some, ha, Option.bind_some, Option.bind_some]
  dsimp only
  rw [Option.bind_some]
  dsimp only
  unfold W.ownOf
  rw [h2, if_pos rfl]
  dsimp only
  rw [hl, Option.bind_some]

section
variable {w : World} {A : Around} {E : Value → Shared → Prop} {s : Shared} {K : Frag} {x C : Addr} {ox : Obj} {od : Option Obj} {name : Str}
theorem get_value_l {v : Value} {expr : Bool} {Q : Value → Shared → Prop} (X : K.In s.heap) (I : InstAt s.heap x ox C od) (hga : findIn K (.ref C) "__getattribute__" = some (some (.builtin "list.__getattribute__"))) (hk : findIn K (.ref C) "__getattr__" = some none)
    (hl : subIn K (.ref C) (.type "list") = some true) (hf : findObj K C od name = some (.value v)) (hh : handedIn v = true) (h : Q v { s with toks := s.toks + 1 }) : wpAny (model prg w) A (getAttr (.ref x) name expr) Q E s := by
  obtain ⟨hh', g, d, t, os⟩ := s
  have L0 := I.type (M := model prg w)
  have L1 := looks_findIn (M := model prg w) X hga
  have L2 := looks_findIn (M := model prg w) X hk
  have L3 := looks_find (M := model prg w) X I hf
  have L4 : Looks (model prg w) hh' (isInstance (.ref x) (.type "list")) true := L0.andThen (looks_subIn X hl)
  unfold getAttr getAttrBy
  refine wpAny_bind (wpAny_mkText (wpAny_holding (wpAny_bind (L0.at (wpAny_bind (L1.at ?_))))))
  dsimp only
  rw [show (onTheHeap (Value.ref C) && Value.builtin "list.__getattribute__" == Value.builtin "object.__getattribute__") = false from by
    rw [show (Value.builtin "list.__getattribute__" == Value.builtin "object.__getattribute__") = false from by decide +kernel, Bool.and_false], if_neg (by decide)]
  unfold getAttrByItsOwn hookBefore
  rw [if_pos (show onTheHeap (Value.ref C) = true from rfl)]
  refine wpAny_bind (L2.at (wpAny_bind (wpAny_attempt (wpAny_holding ?_))))
  unfold callGetattribute
  rw [show (expr && onTheHeap (Value.builtin "list.__getattribute__")) = false from Bool.and_false _, if_neg (by decide)]
  unfold boundAndCalled
  rw [PySem.F.slot_list_getattribute.bind]
  refine wpAny_bind (wpAny_pure ?_)
  refine call_bi (Bi := Builtin.«object.__getattribute__») (owner := "list") (n := "__getattribute__") (by decide +kernel) PySem.F.entry_list_ga (.inl (by decide +kernel)) (by decide +kernel) L4 (PySem.F.args_list_getattribute_2 _ _) ?_
  unfold Builtin.«object.__getattribute__»
  refine wpAny_bind (wpAny_pure ?_)
  dsimp only
  refine wpAny_bind (wpAny_pure (wpAny_bind (L0.at (wpAny_bind (L3.at ?_)))))
  refine wpAny_pure ⟨_, rfl, ?_⟩
  show wpAny _ _ (handedOut v) _ _ _
  rw [handedOut_of hh]; exact wpAny_pure h

theorem method_any {f : Value} {T ga : String} {pl : Sem Bool} {Q : Value × List Value → Shared → Prop} (X : K.In s.heap) (I : InstAt s.heap x ox C od) (hga : findIn K (.ref C) "__getattribute__" = some (some (.builtin ga))) (hcan : (Manifest.canonical ga != "object.__getattribute__") = false) (hk : findIn K (.ref C) "__getattr__" = some none)
    (hf : findIn K (.ref C) name = some (some f)) (ht : typeIn K f = some (.type T)) (hT : (T == "function" || T == "method_descriptor" || T == "wrapper_descriptor") = true) (hs : shadowIn od name = some false) (h : Q (f, [.ref x]) s) :
    wpAny (model prg w) A (getMethod (.ref x) name pl) Q E s := by
  unfold getMethod specialOf
  refine wpAny_bind (wpAny_bind (I.type.here ((looks_findIn X hga).here ?_)))
  dsimp only
  rw [hcan, if_neg (by decide)]
  refine wpAny_bind (wpAny_bind (I.type.here ((looks_findIn X hk).here ?_)))
  refine wpAny_bind (wpAny_bind (I.type.here ((looks_findIn X hf).here (wpAny_bind ((looks_typeIn X ht).here ?_)))))
  rw [if_neg (by
    simp only [Bool.or_eq_true, beq_iff_eq] at hT
    rcases hT with (rfl | rfl) | rfl <;> decide +kernel)]
  refine wpAny_bind (wpAny_loadPart I.at_ ?_)
  have hd := I.dict
  cases e : ox.dict with
  | none => exact wpAny_bind (wpAny_rule (wpAny_pure h))
  | some dx =>
    cases od with
    | none => rw [e] at hd; exact hd.elim
    | some o =>
      rw [e] at hd
      obtain ⟨r, a, b⟩ := Option.map_eq_some_iff.mp hs
      refine wpAny_bind (wpAny_bind (wpAny_loadPart hd ?_))
      rw [nsLook_of a]
      refine wpAny_pure ?_
      rw [b]
      exact wpAny_bind (wpAny_rule (wpAny_pure h))
end

section
variable {w : World} {mg mb : Str → Option Value} {B : Heap} {os : OsState} {F : Facts} {s : Shared} {σ σ' : List Cell} {M : Model} {A : Around} {k : Nat} {E : Value → Shared → Prop} {a d : Addr} {vs : Array Value} {v : Value} {i : Int}

theorem acc_get (x : St B os F s σ) (h : (a, AccP vs d) ∈ σ) : ∃ n, s.heap.get? a = some (accO vs n d) := by
  obtain ⟨o, e, n, rfl⟩ := x.wd.cell _ h
  exact ⟨n, e⟩
theorem acc_type (U : Bs w mg mb B) (x : St B os F s σ) (h : (a, AccP vs d) ∈ σ) : Looks M s.heap (typeOf (.ref a)) (.ref 178) := by
  obtain ⟨n, e⟩ := acc_get x h
  exact (Looks.ld e).andThen .now
theorem acc_list (U : Bs w mg mb B) (x : St B os F s σ) (h : (a, AccP vs d) ∈ σ) : Looks M s.heap (isInstance (.ref a) (.type "list")) true :=
  (acc_type U x h).andThen (looks_subIn (x.In U) (show subIn (frag0.heap_1 w.params) (.ref 178) (.type "list") = some true by k_is))
theorem acc_inst (x : St B os F s σ) (h : (a, AccP vs d) ∈ σ) (hi : (d, IniP i) ∈ σ) : ∃ n od tk, InstAt s.heap a (accO vs n d) 178 (some od) ∧ Exa [("_initial_size", .int i tk)] od := by
  obtain ⟨n, e⟩ := acc_get x h
  obtain ⟨od, e2, tk, q⟩ := x.wd.cell _ hi
  exact ⟨n, od, tk, ⟨e, rfl, rfl, e2⟩, q⟩

/-- a method met on an accumulator -/
theorem acc_m {name : Str} {f : Value} {T : String} {pl : Sem Bool} {Q : Value × List Value → Shared → Prop} (U : Bs w mg mb B) (x : St B os F s σ) (h : (a, AccP vs d) ∈ σ) (hi : (d, IniP i) ∈ σ)
    (hf : findIn (frag0.heap_1 w.params) (.ref 178) name = some (some f)) (ht : typeIn (frag0.heap_1 w.params) f = some (.type T)) (hT : (T == "function" || T == "method_descriptor" || T == "wrapper_descriptor") = true) (hn : (name == ("_initial_size" : Str)) = false)
    (q : Q (f, [.ref a]) s) : wpAny (model prg w) A (getMethod (.ref a) name pl) Q E s := by
  obtain ⟨n, od, tk, I, q'⟩ := acc_inst x h hi
  refine method_any (ga := "list.__getattribute__") (x.In U) I (by k_is) (by decide +kernel) (by k_is) hf ht hT ?_ q
  show (lookIn name od).map _ = _
  rw [lookIn_exa q', List.lookup_cons, hn]; rfl
theorem acc_size {ex : Bool} {Q : Value → Shared → Prop} (U : Bs w mg mb B) (x : St B os F s σ) (h : (a, AccP vs d) ∈ σ) (hi : (d, IniP i) ∈ σ)
    (q : ∀ tk s', St B os F s' σ → Q (.int i tk) s') : wpAny (model prg w) A (getAttr (.ref a) "_initial_size" ex) Q E s := by
  obtain ⟨n, od, tk, I, q'⟩ := acc_inst x h hi
  exact get_value_l (x.In U) I (by k_is) (by k_is) (by k_is) (findObj_has (by k_is) (by k_is) (lookIn_exa q')) rfl (q _ _ x.toks)

theorem sz_seq {vs : Array Value} (h : vs.size ≤ 1000) : vs.size ≤ sizeLine + 1 := by rw [sizeLine_eq]; omega
theorem acc_update {f : Array Value → Array Value} {Q : Unit → Shared → Prop} (x : St B os F s σ) (u : Up a (AccP vs d) (AccP (f vs) d) σ σ') (hz : (f vs).size ≤ 1000) (h : ∀ s', St B os F s' σ' → Q () s') : wpAny M A (updateSeq a f) Q E s := by
  obtain ⟨n, e⟩ := acc_get x u.mem
  unfold updateSeq
  refine wpAny_bind (wpAny_load e ?_)
  dsimp only [accO]
  have e' : (s.heap.update a (Obj.mapSeq f)).get? a = some (Obj.mapSeq f (accO vs n d)) := Heap.get?_update_self _ e rfl
  obtain ⟨n', q⟩ := mapSeq_acc f vs n d
  refine wpAny_bind (wpAny_update e ?_)
  unfold lookBehind
  refine wpAny_bind (wpAny_loadPart e' ?_)
  rw [q]
  dsimp only [accO, Data.pastItsLine]
  rw [if_neg (Nat.not_lt.mpr (sz_seq hz))]
  exact wpAny_pure (h _ (x.with_ (x.wd.same u (Heap.SameBut.update ..) ⟨_, e', n', q⟩)))

theorem acc_append {Q : Value → Shared → Prop} (U : Bs w mg mb B) (x : St B os F s σ) (u : Up a (AccP vs d) (AccP (vs.push v) d) σ σ') (hz : vs.size < 1000) (h : ∀ s', St B os F s' σ' → Q .none s') :
    wpAny (model prg w) A (call (.builtin "list.append") [.ref a, v]) Q E s := by
  refine call_bi (Bi := Builtin.«list.append») (owner := "list") (n := "append") (by decide +kernel) (entryFor_of_tree (by kernel_rfl)) (.inr (by decide +kernel)) (by decide +kernel) (acc_list U x u.mem) (by unfold argsOk; kernel_rfl) ?_
  unfold Builtin.«list.append»
  refine wpAny_bind (wpAny_pure ?_)
  dsimp only [Builtin.List.listUpdate]
  refine wpAny_bind (acc_update x u (by rw [Array.size_push]; omega) fun s' x' => ?_)
  exact wpAny_pure ⟨_, rfl, h s' x'⟩
end
end
section
structure FnAt (f : Addr) where
  fd : FuncData
  at_ : ∀ P, ∃ oc od osl, (frag0.heap_1 P).lookup f = some ⟨oc, od, .func fd, osl⟩
  code : ∀ P, codeIn (frag0.heap_1 P) fd.code fd.qualname = true
noncomputable def fInit : FnAt 35 := ⟨_, fun P => ⟨_, _, _, by k_is⟩, fun P => by k_is⟩
noncomputable def fStr_ : FnAt 42 := ⟨_, fun P => ⟨_, _, _, by k_is⟩, fun P => by k_is⟩
noncomputable def fNewline : FnAt 56 := ⟨_, fun P => ⟨_, _, _, by k_is⟩, fun P => by k_is⟩
noncomputable def fChunk : FnAt 91 := ⟨_, fun P => ⟨_, _, _, by k_is⟩, fun P => by k_is⟩
noncomputable def fAInit : FnAt 115 := ⟨_, fun P => ⟨_, _, _, by k_is⟩, fun P => by k_is⟩
noncomputable def fPush : FnAt 122 := ⟨_, fun P => ⟨_, _, _, by k_is⟩, fun P => by k_is⟩
noncomputable def fPopFrom : FnAt 130 := ⟨_, fun P => ⟨_, _, _, by k_is⟩, fun P => by k_is⟩
noncomputable def fPop : FnAt 138 := ⟨_, fun P => ⟨_, _, _, by k_is⟩, fun P => by k_is⟩
noncomputable def fLen : FnAt 145 := ⟨_, fun P => ⟨_, _, _, by k_is⟩, fun P => by k_is⟩
noncomputable def fStr : FnAt 152 := ⟨_, fun P => ⟨_, _, _, by k_is⟩, fun P => by k_is⟩
noncomputable def fReset : FnAt 160 := ⟨_, fun P => ⟨_, _, _, by k_is⟩, fun P => by k_is⟩
noncomputable def fOnlyws : FnAt 167 := ⟨_, fun P => ⟨_, _, _, by k_is⟩, fun P => by k_is⟩
noncomputable def fCount : FnAt 175 := ⟨_, fun P => ⟨_, _, _, by k_is⟩, fun P => by k_is⟩
noncomputable def fInt2 : FnAt 189 := ⟨_, fun P => ⟨_, _, _, by k_is⟩, fun P => by k_is⟩
noncomputable def fDig2 : FnAt 196 := ⟨_, fun P => ⟨_, _, _, by k_is⟩, fun P => by k_is⟩
noncomputable def fWInit : FnAt 213 := ⟨_, fun P => ⟨_, _, _, by k_is⟩, fun P => by k_is⟩
noncomputable def fIndent : FnAt 227 := ⟨_, fun P => ⟨_, _, _, by k_is⟩, fun P => by k_is⟩
noncomputable def fWord : FnAt 269 := ⟨_, fun P => ⟨_, _, _, by k_is⟩, fun P => by k_is⟩
noncomputable def fEnd : FnAt 274 := ⟨_, fun P => ⟨_, _, _, by k_is⟩, fun P => by k_is⟩
noncomputable def fLaw : FnAt 279 := ⟨_, fun P => ⟨_, _, _, by k_is⟩, fun P => by k_is⟩
theorem bb_sum : bootBuiltins "sum" = some (.builtin "sum") := by kernel_rfl
theorem bb_len : bootBuiltins "len" = some (.builtin "len") := by kernel_rfl
theorem bb_max : bootBuiltins "max" = some (.builtin "max") := by kernel_rfl
theorem bb_str : bootBuiltins "str" = some (.type "str") := by kernel_rfl
theorem bb_range : bootBuiltins "range" = some (.type "range") := by kernel_rfl
theorem bb_enumerate : bootBuiltins "enumerate" = some (.type "enumerate") := by kernel_rfl
theorem bb_tuple : bootBuiltins "tuple" = some (.type "tuple") := by kernel_rfl
theorem Le.at_ {F F' : Facts} {a o} (x : Le F F') (e : F a = some o) : F' a = some o := x _ _ e
noncomputable def tupO (vs : List Value) : Obj := { cls := .type "tuple", data := .seq vs.toArray }
section
variable {w : World} {mg mb : Str → Option Value} {B : Heap} {os : OsState} {F : Facts} {s : Shared} {σ : List Cell} {M : Model} {A : Around} {k : Nat} {E : Value → Shared → Prop} {f : Addr} {c : Cell}
/-- a new thing that will not turn -/
theorem newF {o : Obj} (x : St B os F s σ) (hf : o.isFreed = false) {tk : Nat} : ∃ F', Le F F' ∧ F' s.heap.objs.size = some o ∧ St B os F' { s with heap := s.heap.push o, toks := tk } σ := by
  obtain ⟨y, le, e⟩ := (x.wd.push o hf).freeze .head (.head _)
  exact ⟨_, le, e, x.with_ y⟩
theorem tupF {vs : List Value} {Q : Value → Shared → Prop} (x : St B os F s σ) (hz : vs.length ≤ 1000) (h : ∀ a F' s', Le F F' → F' a = some (tupO vs) → St B os F' s' σ → Q (.ref a) s') : wpAny M A (newTuple vs) Q E s := by
  obtain ⟨F', le, e, y⟩ := newF (o := tupO vs) x rfl (tk := s.toks)
  exact wpAny_newObj_type (h _ _ _ le e y) (by show vs.toArray.size ≤ sizeLine; rw [List.size_toArray, sizeLine_eq]; omega)
theorem fldF {T : String} {vs : List Value} {Q : Value → Shared → Prop} (x : St B os F s σ) (hz : vs.length ≤ 1000) (h : ∀ a F' s', Le F F' → F' a = some { cls := .type T, data := .fields vs.toArray } → St B os F' s' σ → Q (.ref a) s') : wpAny M A (newFields T vs) Q E s := by
  obtain ⟨F', le, e, y⟩ := newF (o := { cls := .type T, data := .fields vs.toArray }) x rfl (tk := s.toks)
  exact wpAny_newObj_type (h _ _ _ le e y) (by show vs.toArray.size ≤ sizeLine + 2; rw [List.size_toArray, sizeLine_eq]; omega)
/-- a new list: behind the first cell -/
theorem lstC {vs : List Value} {Q : Value → Shared → Prop} (x : St B os F s (c :: σ)) (hz : vs.length ≤ 1000) (h : ∀ a s', St B os F s' (c :: (a, Is { cls := .type "list", data := .seq vs.toArray }) :: σ) → Q (.ref a) s') : wpAny M A (newList vs) Q E s :=
  lstN x hz fun a s' x' => h a s' (x'.perm (.swap ..))
theorem enterFC (fn : FnAt f) {body : List Stmt} {args : Args} {binds : List (Str × Value)} {keys : List Str} {R : Result → Shared → Prop}
    (U : Bs w mg mb B) (x : St B os F s σ) (r : Rm A (k + 1)) (hbody : fn.fd.body = .stmts body)
    (hbind : BindsTo s fn.fd args binds) (hcell : fn.fd.scope.names.all (fun y => y.2 != .cell) = true) (hkeys : binds.map (·.1) = keys) (hnd : keys.Nodup) (hloc : keys.all (fun y => fn.fd.scope.names.lookup y == some .local) = true)
    (h : ∀ L s₁, St B os F s₁ ((L, Loc binds) :: σ) → Rm (A.deeper (callEnv fn.fd L f)) k →
      _root_.PySem.wpAt (model prg w) (A.deeper (callEnv fn.fd L f)) (.func body (callEnv fn.fd L f)) (execs body (callEnv fn.fd L f)) (fun fl s' => R (.ok (.ret (match fl with | .ret v => v | _ => .none))) s') (fun _ _ => False) s₁)
    (hco : fn.fd.scope.isCoroutine = false) (hgen : fn.fd.scope.isGenerator = false) (hk : fn.fd.scope.kind = .function) : codeAny (model prg w) A (.call (.ref f) args) R s := by
  obtain ⟨oc, od, osl, ho⟩ := fn.at_ w.params
  exact enterC U x r ho (fn.code w.params) hbody hbind (fun y hy => by have := List.all_eq_true.mp hcell y hy; simpa using this) hkeys hnd (fun y hy => by have := List.all_eq_true.mp hloc y hy; simpa using this) h hco hgen hk
theorem enterF (fn : FnAt f) {body : List Stmt} {args : Args} {binds : List (Str × Value)} {keys : List Str} {R : Result → Shared → Prop}
    (U : Bs w mg mb B) (x : St B os F s σ) (r : Rm A (k + 1)) (hbody : fn.fd.body = .stmts body)
    (hbind : BindsTo s fn.fd args binds) (hcell : fn.fd.scope.names.all (fun y => y.2 != .cell) = true) (hkeys : binds.map (·.1) = keys) (hnd : keys.Nodup) (hloc : keys.all (fun y => fn.fd.scope.names.lookup y == some .local) = true)
    (h : ∀ L s₁, St B os F s₁ ((L, Loc binds) :: σ) → Rm (A.deeper (callEnv fn.fd L f)) k →
      wpAny (model prg w) (A.deeper (callEnv fn.fd L f)) (execs body (callEnv fn.fd L f)) (fun fl s' => R (.ok (.ret (match fl with | .ret v => v | _ => .none))) s') (fun _ _ => False) s₁)
    (hco : fn.fd.scope.isCoroutine = false) (hgen : fn.fd.scope.isGenerator = false) (hk : fn.fd.scope.kind = .function) : codeAny (model prg w) A (.call (.ref f) args) R s :=
  enterFC fn U x r hbody hbind hcell hkeys hnd hloc (fun L s₁ x₁ r₁ => wpAt_of_wpAny (h L s₁ x₁ r₁)) hco hgen hk
end
/-- the statements behind kept under a name -/
theorem execsQ {M : Model} {A : Around} {E : Value → Shared → Prop} {s : Shared} {st : Stmt} {rest : List Stmt} {env : Env} {Q : Flow → Shared → Prop}
    (h : ∀ Q' : Flow → Shared → Prop, (∀ s', wpAny M A (execs rest env) Q E s' → Q' .next s') → (∀ f s', f ≠ .next → Q f s' → Q' f s') → wpAny M A (exec st env) Q' E s) : wpAny M A (execs (st :: rest) env) Q E s :=
  wpAny_execs_cons (h _ (fun _ x => x) (fun f s' hf x => by cases f <;> first | exact absurd rfl hf | exact x))
theorem useN {Q' : Flow → Shared → Prop} {P : Shared → Prop} {f : Flow} {s' : Shared} (hn : ∀ s', P s' → Q' f s') (h : P s') : Q' f s' := hn _ h
theorem useF {Q' Q : Flow → Shared → Prop} {f : Flow} {s' : Shared} (hr : ∀ f s', f ≠ .next → Q f s' → Q' f s') (hf : f ≠ .next) (h : Q f s') : Q' f s' := hr _ _ hf h
theorem useR {Q' : Flow → Shared → Prop} {P : Value → Shared → Prop} {v : Value} {s' : Shared} (hr : ∀ v s', P v s' → Q' (.ret v) s') (h : P v s') : Q' (.ret v) s' := hr _ _ h
theorem useV {α : Type} {Q' P : α → Shared → Prop} {v : α} {s' : Shared} (hr : ∀ r s, P r s → Q' r s) (h : P v s') : Q' v s' := hr _ _ h
theorem codeAny_opq {prog : Program} {w : World} {A : Around} {s : Shared} {R : Result → Shared → Prop} {c : Code} (h : ∀ R' : Result → Shared → Prop, (∀ r s₃, R r s₃ → R' r s₃) → codeAny (model prog w) A c R' s) : codeAny (model prog w) A c R s := h R fun _ _ x => x
theorem wpAny_opq {α : Type} {M : Model} {A : Around} {s : Shared} {E : Value → Shared → Prop} {c : Sem α} {Q : α → Shared → Prop} (h : ∀ Q' : α → Shared → Prop, (∀ r s₃, Q r s₃ → Q' r s₃) → wpAny M A c Q' E s) : wpAny M A c Q E s := h Q fun _ _ x => x
end
section
/- the words of k_with below are tried ahead of the library's lines -/
local macro_rules | `(tactic| walk_at "eval Name") => `(tactic| k_extra "eval Name")
theorem linesM6 : True := by
  (k_with "asm" => (assumption))
  (k_with "kis" => (k_is))
  (k_with "dec" => (decide))
  (k_with "rfl" => (rfl))
  (k_with "om" => (omega))
  (k_with "simp" => (simp))
  (k_with "deck" => (decide +kernel))
  (k_with "aom" => (first | assumption | omega))
  (k_with "aoms" => (first | assumption | omega | (simp; omega)))
  (k_with "oml" => (first | omega | (simp only [List.length_append, List.length_replicate, List.length_set]; omega)))
  (k_with "rhh" => (exact Mine.Rm.hh (by assumption)))
  (k_with "bb" => (with_reducible first | exact Mine.bb_sum | exact Mine.bb_len | exact Mine.bb_max | exact Mine.bb_str | exact Mine.bb_range | exact Mine.bb_enumerate | exact Mine.bb_tuple))
  (k_with "inU" => (exact Mine.St.In (by assumption) (by assumption)))
  (k_with "bsX" => (exact Mine.Bs.X (by assumption)))
  (k_with "inS" => (exact Mine.St.In (by k_extra "stk") (by assumption)))
  (k_with "stk" => (first | assumption | exact Mine.St.toks (by assumption) | exact Mine.St.toks (Mine.St.toks (by assumption))))
  (k_with "eval Name" => (with_unfolding_all (refine' Mine.ldK (by k_extra "asm") (by k_extra "stk") (by k_extra "kis") ?_); intros))
  (k_with "eval Name" => (with_unfolding_all (refine' Mine.ldB (by k_extra "asm") (by k_extra "stk") (by k_extra "kis") (by k_extra "bb") (by k_extra "deck") ?_); intros))
  (k_with "mem" => (first | with_reducible exact List.mem_cons_self | (with_reducible refine List.mem_cons_of_mem _ ?_; k_extra "mem")))
  (k_with "memd" => (first | exact List.mem_cons_self | (refine List.mem_cons_of_mem _ ?_; k_extra "memd")))
  (k_with "up" => (first | exact Mine.Up.head | (apply Mine.Up.tail; k_extra "up")))
  (k_with "put" => (first | exact Mine.Put.nil | (with_reducible apply Mine.Put.here; k_extra "put") | (apply Mine.Put.there; (decide); k_extra "put")))
  (k_with "sides" => ((case k2 => rfl); (case k3 => first | exact BindsTo.of_eq rfl | exact binds_K (Mine.St.In (by assumption) (by assumption)) rfl (by k_is) rfl rfl rfl); (case k4 => rfl); (case k5 => rfl); (case k6 => decide); (case k7 => rfl); (case c1 => rfl); (case c2 => rfl); (case c3 => rfl)))
  (k_with "eval Name" => (with_unfolding_all (refine' Mine.ld (by k_extra "stk") (by k_extra "mem") ?_); intros))
  (k_with "eval Constant int" => (refine' Mine.cint (by k_extra "stk") ?_; intros))
  (k_with "eval Constant str" => (refine' Mine.cstr (by k_extra "stk") ?_; intros))
  (k_with "And" => ((with_reducible show Frag.In _ _ ∧ _); refine ⟨Mine.St.In (by assumption) (by assumption), ?_⟩; (try dsimp only [List.nil_append, List.cons_append])))
  (k_with "newTuple" => (refine' Mine.tupF (by k_extra "stk") (by k_extra "simp") ?_; intros))
  (k_with "callWith ref" => (refine' callWith_K (by k_extra "bsX") (by k_extra "kis") ?_; intros))
  (k_with "callWith ref" => ((with_reducible show wpAny _ _ (callWith _ _ _ (backTo _ (starEach [] _)) _) _ _ _); refine' callWith_K0 (by k_extra "inU") (by k_extra "kis") ?_; intros))
  (k_with "getMethod ref" => (refine' Mine.acc_m (by k_extra "asm") (by k_extra "stk") (by k_extra "memd") (by k_extra "memd") (by k_extra "kis") (by k_extra "kis") (by k_extra "dec") (by k_extra "dec") ?_; intros))
  (k_with "call builtin:list.append" => (refine' Mine.acc_append (by k_extra "asm") (by k_extra "stk") (by k_extra "up") (by k_extra "aom") ?_; intros))
  (k_with "rm" => (first | assumption | exact Mine.Rm.le (by assumption) (by decide) | omega))
  (k_with "go" => (repeat' ((fail_if_success (with_reducible show _root_.PySem.wpAt _ _ _ _ _ _ _)); first | k_extra "useQ" | walk1 | (dsimp only; walk1))))
  (k_with "le" => (first | assumption | exact Mine.Le.refl _ | (refine' Mine.Le.trans ?_ (by assumption); k_extra "le")))
  (k_with "fact" => (first | assumption | (refine' Mine.Le.at_ (by assumption) ?_; k_extra "fact")))
  (k_with "storeName" => (refine' Mine.st (by k_extra "stk") (by k_extra "put") ?_; intros))
  (k_with "exec Assign" => (refine' plainObj_wpAny_Assign_Attribute ?_ (by rfl)))
  (k_with "gox" => (repeat' ((fail_if_success (with_reducible show _root_.PySem.wpAt _ _ _ _ _ _ _)); (fail_if_success (with_reducible show ∃ _, _)); first | k_extra "useQ" | walk1 | (dsimp only; walk1))))
  (k_with "goe" => (repeat' ((fail_if_success (with_reducible show _root_.PySem.wpAny _ _ (exec _ _) _ _ _)); (fail_if_success (with_reducible show ∃ _, _)); first | k_extra "useQ" | walk1 | (dsimp only; walk1))))
  (k_with "execs cons" => (refine Mine.execsQ ?_; intros))
  (k_with "useQ" => ((fail_if_success (with_reducible show _root_.PySem.wpAny _ _ _ _ _ _)); first | (refine Mine.useN (by assumption) ?_) | (refine Mine.useF (by assumption) (fun e => nomatch e) ?_) | (refine Mine.useR (by assumption) ?_) | (refine Mine.useV (by assumption) ?_)))
  (k_with "uq" => (repeat k_extra "useQ"))
  trivial
section
theorem St.back2 {B : Heap} {os : OsState} {F : Facts} {s : Shared} {σ : List Cell} {L : Addr} {P : Obj → Prop} {a d c : Cell} (x : St B os F s ((L, P) :: a :: d :: c :: σ)) : St B os F s (c :: a :: d :: σ) :=
  (x.drop .head).perm ((List.Perm.cons _ (.swap _ _ _)).trans (.swap _ _ _))
section
variable {w : World} {mg mb : Str → Option Value} {B : Heap} {os : OsState} {F : Facts} {s : Shared} {σ σ' : List Cell} {A : Around} {k : Nat} {E : Value → Shared → Prop} {a d : Addr} {vs : Array Value} {v : Value} {i : Int}
theorem push_c {c : Cell} {f p : Value} {Q : Value → Shared → Prop} (U : Bs w mg mb B) (x : St B os F s (c :: (a, AccP vs d) :: (d, IniP i) :: σ)) (r : Rm A 5) (hz : vs.size < 1000)
    (h : ∀ t F' s', Le F F' → F' t = some (tupO [f, p]) → St B os F' s' (c :: (a, AccP (vs.push (.ref t)) d) :: (d, IniP i) :: σ) → Q .none s') :
    wpAny (model prg w) A (call (.ref 122) [.ref a, f, p]) Q E s := by
  refine wpAny_call ?_
  refine' enterF fPush (binds := [("self", .ref a), ("fws", f), ("string", p)]) (keys := ["self", "fws", "string"]) U x r ?k2 ?k3 ?k4 ?k5 ?k6 ?k7 ?_ ?c1 ?c2 ?c3
  k_extra "sides"
  intro L s₁ x₁ r₁
  replace x₁ := x₁.swap.perm (.cons _ (.cons _ (.swap _ _ _)))
  clear x
  k_extra "go"
  exact h _ _ _ (by assumption) (by assumption) (St.back2 (by assumption))
end

section
variable {prog : Program} {w : World} {A : Around} {E : Value → Shared → Prop} {h : Heap} {g : Array GenState} {d : Drawn} {t : Nat} {os : OsState} {so D x C : Addr} {K : Frag}
noncomputable abbrev superO (D x C : Addr) : Obj := { cls := .type "super", dict := none, data := .fields #[.ref D, .ref x, .ref C], slots := #[] }
theorem super_ga {l₀ l : List Value} {name : Str} {tk : Tok} {Q : PySem.Fin → Shared → Prop} {id T gid : String} {Bi : Builtin}
    (hso : h.get? so = some (superO D x C)) (hno : Looks (model prog w) h (opaqueClassAbove (.ref C)) none)
    (hC : Looks (model prog w) h (mroOf (.ref C)) l₀) (hl : (l₀.dropWhile (· != .ref D)).drop 1 = l) (X : K.In h)
    (hf : alongIn K name l = some (some (.builtin id))) (ht : typeOf (.builtin id) = pure (.type T)) (slot : Slot T "__get__" gid) (entry : entryFor table gid = some Bi) (args : ∀ a b c, argsOk gid ⟨[a, b, c], []⟩)
    (hxC : x ≠ C) (hn : (name == ("__class__" : Str)) = false)
    (hrun : wpAny (model prog w) A.in1 (Bi ⟨[.builtin id, .ref x, .ref C], []⟩) (fun fin s' => ∃ v, fin = .done (.ret v) ∧ Q (.done (.ret v)) s') E ⟨h, g, d, t, os⟩) :
    wpAny (model prog w) A (Builtin.«super.__getattribute__» ⟨[.ref so, .str name tk], []⟩) Q E ⟨h, g, d, t, os⟩ := by
  have hlk := slot.lookup
  have hne : (Value.ref x == Value.ref C) = false := by simp [hxC]
  have hT : (⟨h, g, d, t, os⟩ : Shared).TypeIs (.builtin id) T := ht
  have hdt : (superO D x C).data = .fields #[.ref D, .ref x, .ref C] := rfl
  have f0 : (#[.ref D, .ref x, .ref C] : Array Value)[0]? = some (.ref D) := rfl
  have f1 : (#[.ref D, .ref x, .ref C] : Array Value)[1]? = some (.ref x) := rfl
  have f2 : (#[.ref D, .ref x, .ref C] : Array Value)[2]? = some (.ref C) := rfl
  unfold Builtin.«super.__getattribute__»
  repeat (first
    | (with_reducible refine wpAny_field hso hdt f0 ?_) | (with_reducible refine wpAny_field hso hdt f1 ?_) | (with_reducible refine wpAny_field hso hdt f2 ?_)
    | (with_reducible refine ks_wpAny_notOpaque hno ?_)
    | (with_reducible refine Looks.at hC ?_; rw [hl])
    | (refine ks_forIn_along X (fun _ _ => rfl) rfl ?_ hf)
    | (with_reducible refine wpAny_typeOf hT ?_)
    | (with_reducible refine wpAny_of_eq hlk ?_)
    | (simp only [hn, hne, Bool.or_false, Bool.false_eq_true, if_false])
    | wp_step
    | dsimp only)
  refine codeAny_call_builtin slot.plain entry (slot.check _ _ _ _ _ _ _ _ hT (args _ _ _) ?_)
  refine wpAny_mono hrun (fun fin s' z => ?_) fun _ _ z => z
  obtain ⟨v, rfl, q⟩ := z
  exact wpAny_bind (wpAny_pure (wpAny_pure (wpAny_pure q)))

theorem super_bi {l₀ l : List Value} {name : Str} {pl : Sem Bool} {Q : Value × List Value → Shared → Prop} {id T gid bt : String} {Bi : Builtin}
    (hso : h.get? so = some (superO D x C)) (hno : Looks (model prog w) h (opaqueClassAbove (.ref C)) none)
    (hC : Looks (model prog w) h (mroOf (.ref C)) l₀) (hl : (l₀.dropWhile (· != .ref D)).drop 1 = l) (X : K.In h)
    (hf : alongIn K name l = some (some (.builtin id))) (ht : typeOf (.builtin id) = pure (.type T)) (slot : Slot T "__get__" gid) (entry : entryFor table gid = some Bi) (args : ∀ a b c, argsOk gid ⟨[a, b, c], []⟩)
    (hxC : x ≠ C) (hn : (name == ("__class__" : Str)) = false)
    (hrun : ∀ A' (Q' : PySem.Fin → Shared → Prop) (E' : Value → Shared → Prop), Q' (.done (.ret (.ref h.objs.size))) ⟨h.push { cls := .type bt, data := .fields #[.builtin id, .ref x] }, g, d, t + 1, os⟩ → wpAny (model prog w) A' (Bi ⟨[.builtin id, .ref x, .ref C], []⟩) Q' E' ⟨h, g, d, t + 1, os⟩)
    (hq : Q (.ref h.objs.size, []) ⟨h.push { cls := .type bt, data := .fields #[.builtin id, .ref x] }, g, d, t + 1, os⟩) :
    wpAny (model prog w) A (getMethod (.ref so) name pl) Q E ⟨h, g, d, t, os⟩ := by
  have hlk := PySem.F.ks_slot_super_ga.lookup
  have hcan := PySem.F.ks_canon_super_ga
  have hT : ∀ t', (⟨h, g, d, t', os⟩ : Shared).TypeIs (.ref so) "super" := fun _ => ⟨_, hso, rfl⟩
  unfold getMethod
  refine wpAny_bind (wpAny_specialOf (hT _) hlk ?_)
  show wpAny _ _ (if (Manifest.canonical "super.__getattribute__" != "object.__getattribute__") = true then _ else _) _ _ _
  rw [if_pos hcan]
  unfold getAttr getAttrBy
  refine wpAny_bind (wpAny_bind (wpAny_mkText (wpAny_holding (wpAny_bind (wpAny_typeOf (hT _) (wpAny_bind (wpAny_of_eq hlk ?_)))))))
  show wpAny _ _ (getAttrByItsOwn (.ref so) (.str name t) (.type "super") (.builtin "super.__getattribute__") true false) _ _ _
  unfold getAttrByItsOwn hookBefore callGetattribute boundAndCalled
  refine wpAny_bind (wpAny_of_eq (show (if onTheHeap (.type "super") then typeLookup (.type "super") "__getattr__" else pure none) = pure none from rfl) ?_)
  refine wpAny_bind (wpAny_attempt (wpAny_holding ?_))
  show wpAny _ _ (bindSpecial (.builtin "super.__getattribute__") (.ref so) >>= _) _ _ _
  refine wpAny_bind (wpAny_of_eq (PySem.F.ks_slot_super_ga.bind _) ?_)
  refine wpAny_mono (Q := fun v s' => v = .ref h.objs.size ∧ s' = ⟨h.push { cls := .type bt, data := .fields #[.builtin id, .ref x] }, g, d, t + 1, os⟩) (E := fun _ _ => False)
    (wpAny_call_entry PySem.F.ks_slot_super_ga (hT _) PySem.F.ks_entry_super_ga (super_ga hso hno hC hl X hf ht slot entry args hxC hn (hrun _ _ _ ⟨_, rfl, _, rfl, rfl, rfl⟩)) (PySem.F.ks_gaArgs_super _ _)) (fun v s' hv => ?_) fun _ _ z => z.elim
  obtain ⟨rfl, rfl⟩ := hv
  exact wpAny_pure (wpAny_pure hq)
end

theorem type_bi (id : String) (T : String) (h : fastBuiltinType id = pure (.type T)) : typeOf (.builtin id) = pure (.type T) := by show builtinType _ = _; rw [builtinType_eq_fast]; exact h
theorem slot_wd_get : Slot "wrapper_descriptor" "__get__" "wrapper_descriptor.__get__" := .of (owner := "wrapper_descriptor") (n := "__get__") (by rw [typeLookup_type, builtinLookup_eq_fast]; kernel_rfl) (by decide +kernel) (by decide +kernel) (by decide +kernel)
  (by first | exact .inl (by decide +kernel) | exact .inr (by decide +kernel)) (by rw [isSubtype_type]; kernel_rfl)
theorem entry_wd_get : entryFor table "wrapper_descriptor.__get__" = some Builtin.«wrapper_descriptor.__get__» := entryFor_of_tree (by kernel_rfl)
theorem args_wd_get (a b c : Value) : argsOk "wrapper_descriptor.__get__" ⟨[a, b, c], []⟩ := by unfold argsOk; kernel_rfl
theorem slot_md_get : Slot "method_descriptor" "__get__" "method_descriptor.__get__" := .of (owner := "method_descriptor") (n := "__get__") (by rw [typeLookup_type, builtinLookup_eq_fast]; kernel_rfl) (by decide +kernel) (by decide +kernel) (by decide +kernel)
  (by first | exact .inl (by decide +kernel) | exact .inr (by decide +kernel)) (by rw [isSubtype_type]; kernel_rfl)
theorem entry_md_get : entryFor table "method_descriptor.__get__" = some Builtin.«method_descriptor.__get__» := entryFor_of_tree (by kernel_rfl)
theorem args_md_get (a b c : Value) : argsOk "method_descriptor.__get__" ⟨[a, b, c], []⟩ := by unfold argsOk; kernel_rfl
theorem type_len : typeOf (.builtin "list.__len__") = pure (.type "wrapper_descriptor") := by show builtinType _ = _; rw [builtinType_eq_fast]; kernel_rfl
theorem type_init : typeOf (.builtin "list.__init__") = pure (.type "wrapper_descriptor") := by show builtinType _ = _; rw [builtinType_eq_fast]; kernel_rfl
theorem type_pop : typeOf (.builtin "list.pop") = pure (.type "method_descriptor") := by show builtinType _ = _; rw [builtinType_eq_fast]; kernel_rfl
section
variable {w : World} {A : Around} {E : Value → Shared → Prop} {s : Shared} {x C : Addr}
theorem wd_run {id T : String} {Q : PySem.Fin → Shared → Prop} (hi : Looks (model prg w) s.heap (isInstance (.ref x) (.type T)) true) (ho : (".".intercalate (id.cutAt '.').dropLast) = T)
    (h : Q (.done (.ret (.ref s.heap.objs.size))) { s with heap := s.heap.push { cls := .type "method-wrapper", data := .fields #[.builtin id, .ref x] } }) :
    wpAny (model prg w) A (Builtin.«wrapper_descriptor.__get__» ⟨[.builtin id, .ref x, .ref C], []⟩) Q E s := by
  subst ho
  obtain ⟨hh, g, d, t, os⟩ := s
  unfold Builtin.«wrapper_descriptor.__get__»
  repeat lk
  exact h
theorem md_run {id T : String} {Q : PySem.Fin → Shared → Prop} (hi : Looks (model prg w) s.heap (isInstance (.ref x) (.type T)) true) (ho : (".".intercalate (id.cutAt '.').dropLast) = T) (ht : Manifest.toldItsClass.contains id = false)
    (h : Q (.done (.ret (.ref s.heap.objs.size))) { s with heap := s.heap.push { cls := .type "builtin_function_or_method", data := .fields #[.builtin id, .ref x] } }) :
    wpAny (model prg w) A (Builtin.«method_descriptor.__get__» ⟨[.builtin id, .ref x, .ref C], []⟩) Q E s := by
  subst ho
  obtain ⟨hh, g, d, t, os⟩ := s
  unfold Builtin.«method_descriptor.__get__»
  repeat (first | lk | simp only [ht, Bool.false_eq_true, if_false])
  exact h
end
end
section
section
variable {w : World} {mg mb : Str → Option Value} {B : Heap} {os : OsState} {F : Facts} {s : Shared} {σ σ' : List Cell} {M : Model} {A : Around} {k : Nat} {E : Value → Shared → Prop} {a d : Addr} {vs : Array Value} {v : Value} {i : Int}
/-- super() in a method of the accumulator's -/
theorem acc_super {f cc : Addr} (fn : FnAt f) {L : Addr} {l : List (Str × Value)} {body : List Stmt} {p0 p1 : Pos} {attr : Str} {whole : Sem Value} {ar : Arg} {fvs : Array Value} {file : Str} {tf : Tok} {cd : Option Addr} {cs : Array (Option Value)} {Q : Value → Shared → Prop}
    (U : Bs w mg mb B) (x : St B os F s ((L, Loc l) :: σ)) (hm : (a, AccP vs d) ∈ σ) (hv : (("self" : Str), Value.ref a) ∈ l)
    (hp : (fn.fd.params.posonlyargs ++ fn.fd.params.args).head? = some ar) (hself : ar.arg = ("self" : Str)) (hclo : fn.fd.closure = [(("__class__" : Str), (102 : Addr))]) (hcode : fn.fd.code = .ref cc)
    (hks : fn.fd.scope.names.lookup ("super" : Str) = some .globalImplicit) (hkc : fn.fd.scope.names.lookup ("__class__" : Str) = some .free) (hkl : fn.fd.scope.names.lookup ("self" : Str) = some .local) (hk : fn.fd.scope.kind = .function)
    (hgl : fn.fd.globals = mainGlobals) (hbi : fn.fd.builtins = builtinsNs)
    (hcc : (frag0.heap_1 w.params).lookup cc = some ⟨.type "code", cd, .fields fvs, cs⟩) (hvs : fvs[2]? = some (.str file tf)) (hfile : ((prg.main.file : Str) == file) = true) (hat : (attr == ("__class__" : Str)) = false)
    (h : ∀ so F' s', Le F F' → F' so = some (superO 178 a 178) → St B os F' s' ((L, Loc l) :: σ) → Q (.ref so) s') :
    _root_.PySem.wpAt (model prg w) A (.func body (callEnv fn.fd L f)) (attributeBase (.Call (.Name "super" p0) [] [] p1) attr (callEnv fn.fd L f) whole) Q E s := by
  have X := x.In U
  obtain ⟨oc, od, osl, ho⟩ := fn.at_ w.params
  obtain ⟨n, ea⟩ := acc_get x (.tail _ hm)
  obtain ⟨c1, c2, cdD, c3, e178⟩ : ∃ c d cd sl, List.lookup 178 (frag0.heap_1 w.params) = some ⟨c, d, .cls cd, sl⟩ := ⟨_, _, _, _, by k_is⟩
  have hD1 := X _ _ e178
  obtain ⟨c4, c5, c6, e102⟩ : ∃ c d sl, List.lookup 102 (frag0.heap_1 w.params) = some ⟨c, d, .cell (some (.ref 178)), sl⟩ := ⟨_, _, _, by k_is⟩
  have L1 : nsIn (frag0.heap_1 w.params) mainGlobals "super" = some none := by k_is
  refine ks_wpAt_super_base (env := callEnv fn.fd L f) hks hkc hat rfl (X _ _ ho) rfl hp hcode (X _ _ hcc) rfl hvs hfile (by decide +kernel) ?_
  refine ks_loadName_global hk hks (loadGlobal_builtin (env := callEnv fn.fd L f) (show s.heap.Ns fn.fd.globals mg from hgl ▸ U.g.keeps x.wd.keepsB) (mg_none_of U.X U.g L1) (show s.heap.Ns fn.fd.builtins mb from hbi ▸ U.b.keeps x.wd.keepsB) ((U.builtins _ (by decide +kernel)).trans (show bootBuiltins "super" = some (.type "super") from by kernel_rfl)) ⟨rfl, ?_⟩)
  refine wpAny_loadName_free hk hkc (c := 102) (show fn.fd.closure.lookup _ = some 102 by rw [hclo]; rfl) ⟨_, X _ _ e102, rfl⟩ ?_
  obtain ⟨m, hn, hh⟩ := x.wd.loc (.head _)
  refine wpAny_loadName_local hk (hself ▸ hkl) hn (hself ▸ hh _ hv) ?_
  obtain ⟨h9, g9, d9, t9, o9⟩ := s
  refine ks_wpAny_isType_cls hD1 rfl ⟨rfl, ?_⟩
  refine ks_wpAny_call_super hD1 rfl ea rfl (fun c e => by cases e) (looks_mroIn X (by k_is)) (fun h' e k => ?_)
  have y := x.wd.new (P := Is (superO 178 a 178)) (Wd.size_none _) k ⟨_, e, rfl⟩
  obtain ⟨y', le, e'⟩ := y.freeze .head (.head _)
  exact h _ _ _ le e' (x.with_ y')
end
end
section
section
variable {w : World} {mg mb : Str → Option Value} {B : Heap} {os : OsState} {F : Facts} {s : Shared} {σ σ' : List Cell} {M : Model} {A : Around} {k : Nat} {E : Value → Shared → Prop} {a d : Addr} {vs : Array Value} {v : Value} {i : Int}
noncomputable def bndO (bt id : String) (a : Addr) : Obj := { cls := .type bt, data := .fields #[.builtin id, .ref a] }
theorem acc_super_m {so : Addr} {name : Str} {pl : Sem Bool} {Q : Value × List Value → Shared → Prop} {id T gid bt : String} {Bi : Builtin}
    (U : Bs w mg mb B) (x : St B os F s σ) (hm : (a, AccP vs d) ∈ σ) (hso : F so = some (superO 178 a 178))
    (hf : alongIn (frag0.heap_1 w.params) name [.type "list", .type "object"] = some (some (.builtin id))) (ht : typeOf (.builtin id) = pure (.type T)) (slot : Slot T "__get__" gid) (entry : entryFor table gid = some Bi) (args : ∀ a b c, argsOk gid ⟨[a, b, c], []⟩)
    (hn : (name == ("__class__" : Str)) = false)
    (hrun : ∀ A' (Q' : PySem.Fin → Shared → Prop) (E' : Value → Shared → Prop) (s : Shared), Looks (model prg w) s.heap (isInstance (.ref a) (.type "list")) true → Q' (.done (.ret (.ref s.heap.objs.size))) { s with heap := s.heap.push (bndO bt id a) } → wpAny (model prg w) A' (Bi ⟨[.builtin id, .ref a, .ref 178], []⟩) Q' E' s)
    (hq : ∀ q F' s', Le F F' → F' q = some (bndO bt id a) → St B os F' s' σ → Q (.ref q, []) s') :
    wpAny (model prg w) A (getMethod (.ref so) name pl) Q E s := by
  have X := x.In U
  obtain ⟨n, ea⟩ := acc_get x hm
  obtain ⟨cd, hc, hmro⟩ : ∃ cd, clsIn (frag0.heap_1 w.params) 178 = some cd ∧ cd.mro = [.ref 178, .type "list", .type "object"] := ⟨_, by k_is, rfl⟩
  have hC : Looks (model prg w) s.heap (mroOf (.ref 178)) cd.mro := (looks_clsIn X hc).andThen .now
  have ho : nsIn (frag0.heap_1 w.params) cStatics "thirdparty.any" = some none := by k_is
  obtain ⟨F', le, e, y⟩ := newF (o := bndO bt id a) x rfl (tk := s.toks + 1)
  have al := acc_list (M := model prg w) U x hm
  have hne : a ≠ 178 := by
    rintro rfl
    obtain ⟨c1, c2, cdD, c3, e178⟩ : ∃ c d cd sl, List.lookup 178 (frag0.heap_1 w.params) = some ⟨c, d, .cls cd, sl⟩ := ⟨_, _, _, _, by k_is⟩
    have z := X _ _ e178
    rw [ea] at z
    cases z
  have y' := x.wd.keep _ _ hso
  obtain ⟨hh, g, dd, t, os'⟩ := s
  exact super_bi y' (looks_opaque X ho) hC (by rw [hmro]; decide +kernel) X hf ht slot entry args hne hn (fun A' Q' E' z => hrun A' Q' E' ⟨hh, g, dd, t + 1, os'⟩ al z) (hq _ _ _ le e y)
theorem keeper_bnd {h : Heap} {q : Addr} {bt id : String} (e : h.get? q = some (bndO bt id a)) (hbt : bt = "method-wrapper" ∨ bt = "builtin_function_or_method") : Looks M h (keeperOf (.ref q)) .machine := by
  refine (Looks.ld (part := none) e).andThen ?_
  rcases hbt with rfl | rfl <;> exact Looks.of_pure (by kernel_rfl)
theorem callWith_bnd0 {q : Addr} {bt id : String} {pos : Pos} {env : Env} {Q : Value → Shared → Prop} (e : s.heap.get? q = some (bndO bt id a)) (hbt : bt = "method-wrapper" ∨ bt = "builtin_function_or_method")
    (h : wpAny M A (call (.ref q) []) Q E s) : wpAny M A (callWith pos (.ref q) [] (backTo pos (starEach [] env)) []) Q E s :=
  callWith_of (P := fun h => h.get? q = some (bndO bt id a)) rfl (fun h' e' => ⟨_, .inr (.inl rfl), keeper_bnd e' hbt⟩) (evalArgs_nil3 ⟨e, h⟩)
theorem call_bnd {q : Addr} {bt id : String} {rest : List Value} {Bi : Builtin} {Q : Value → Shared → Prop} (e : s.heap.get? q = some (bndO bt id a)) (hbt : bt = "method-wrapper" ∨ bt = "builtin_function_or_method")
    (hchk : ∀ (Q' : Unit → Shared → Prop) (E' : Value → Shared → Prop) A', Q' () s → wpAny (model prg w) A' (checkBoundCall id ⟨.ref a :: rest, []⟩) Q' E' s) (plain : plainId id = true) (entry : entryFor table id = some Bi)
    (h : wpAny (model prg w) A.in1 (Bi ⟨.ref a :: rest, []⟩) (fun fin s' => ∃ v, fin = .done (.ret v) ∧ Q v s') E s) : wpAny (model prg w) A (call (.ref q) rest) Q E s := by
  refine wpAny_call (codeAny_of_tree ?_)
  show wpAny _ _ (callAny (.ref q) _) _ _ _
  have hn : (bt == "method") = false := by rcases hbt with rfl | rfl <;> decide
  have h1 : ((Value.type bt == Value.type "method") || (Value.type bt == Value.type "builtin_function_or_method") || (Value.type bt == Value.type "method-wrapper")) = true := by
    rcases hbt with rfl | rfl <;> decide +kernel
  have h2 : (Value.type bt != Value.type "method") = true := by rcases hbt with rfl | rfl <;> decide +kernel
  unfold callAny
  refine wpAny_bind (wpAny_load e ?_)
  dsimp only [bndO]
  rw [if_pos h1]

  show wpAny _ _ (if (Value.type bt != Value.type "method") = true then _ else _) _ _ _
  rw [if_pos h2]
  refine wpAny_bind (hchk _ _ _ ?_)
  refine wpAny_pure ⟨plainId_quiet plain _, ?_⟩
  refine codeAny_builtin entry ?_
  rw [Around.under_plainId plain]
  exact wpAny_mono h (fun fin s' z => by obtain ⟨v, rfl, q⟩ := z; exact q) fun _ _ z => z
end
end
section
section
variable {w : World} {mg mb : Str → Option Value} {B : Heap} {os : OsState} {F : Facts} {s : Shared} {σ σ' : List Cell} {M : Model} {A : Around} {k : Nat} {E : Value → Shared → Prop} {a d : Addr} {vs : Array Value} {v : Value} {i : Int}
theorem count_c {c : Cell} {Q : Value → Shared → Prop} (U : Bs w mg mb B) (x : St B os F s (c :: (a, AccP vs d) :: σ)) (r : Rm A 5)
    (h : ∀ tk F' s', Le F F' → St B os F' s' (c :: (a, AccP vs d) :: σ) → Q (.int vs.size tk) s') :
    wpAny (model prg w) A (call (.ref 175) [.ref a]) Q E s := by
  refine wpAny_call ?_
  refine' enterFC fCount (binds := [("self", .ref a)]) (keys := ["self"]) U x r ?k2 ?k3 ?k4 ?k5 ?k6 ?k7 ?_ ?c1 ?c2 ?c3
  k_extra "sides"
  intro L s₁ x₁ r₁
  refine ks_wpAt_execs_cons (ks_wpAt_Return_some (ks_wpAt_MethodCall ?_))
  refine acc_super (a := a) (vs := vs) (d := d) (cc := 174) fCount U x₁ (by k_extra "memd") (by k_extra "mem") rfl rfl rfl rfl rfl rfl rfl rfl rfl rfl (by k_is) rfl (by decide +kernel) (by decide) ?_
  intro so F' s' le e x₂
  refine acc_super_m (a := a) (vs := vs) (d := d) (Bi := Builtin.«wrapper_descriptor.__get__») (bt := "method-wrapper") (id := "list.__len__") U x₂ (by k_extra "memd") e (by kernel_rfl) type_len slot_wd_get entry_wd_get args_wd_get (by decide) (fun A' Q' E' s hi z => wd_run hi (by decide +kernel) z) ?_
  intro q F'' s'' le' e' x₃
  (try dsimp only)
  refine callWith_bnd0 (x₃.wd.fact e') (.inl rfl) (call_bnd (Bi := Builtin.«list.__len__») (x₃.wd.fact e') (.inl rfl) (fun Q' E' A' z => ?_) (by decide +kernel) (entryFor_of_tree (by kernel_rfl)) ?_)
  · refine wpAny_of_eq (a := ()) (by kernel_rfl) z
  obtain ⟨n, ea⟩ := acc_get x₃ (a := a) (vs := vs) (d := d) (by k_extra "memd")
  unfold Builtin.«list.__len__»
  refine wpAny_bind (wpAny_pure ?_)
  (try dsimp only)
  unfold seqSize
  refine wpAny_bind (wpAny_bind (wpAny_loadPart ea ?_))
  refine wpAny_pure ?_
  refine wpAny_bind (wpAny_mkInt (wpAny_pure ⟨_, rfl, ?_⟩))
  exact h _ _ _ (le.trans le') (x₃.toks.drop .head)
end
end
theorem linesM10 : True := by
  (k_with "call ref" => ((with_reducible show wpAny _ _ (call (Value.ref 175) _) _ _ _); refine' Mine.count_c (by k_extra "asm") (by k_extra "stk") (by k_extra "rm") ?_; intros))
  trivial
section
section
variable {w : World} {mg mb : Str → Option Value} {B : Heap} {os : OsState} {F : Facts} {s : Shared} {σ σ' : List Cell} {M : Model} {A : Around} {k : Nat} {E : Value → Shared → Prop} {a d : Addr} {vs : Array Value} {v : Value} {i : Int}
theorem pop_bound {q : Addr} {Q : Value → Shared → Prop} (U : Bs w mg mb B) (x : St B os F s σ) (u : Up a (AccP (vs.push v) d) (AccP vs d) σ σ') (hq : F q = some (bndO "builtin_function_or_method" "list.pop" a)) (hz : vs.size ≤ 1000)
    (h : ∀ s', St B os F s' σ' → Q v s') : wpAny (model prg w) A (call (.ref q) []) Q E s := by
  obtain ⟨n, ea⟩ := acc_get x u.mem
  have X := x.In U
  have L1 : Looks (model prg w) s.heap (isInstance (.ref a) (.type "module")) false := (acc_type U x u.mem).andThen (looks_subIn X (show subIn (frag0.heap_1 w.params) (.ref 178) (.type "module") = some false by k_is))
  have L2 := acc_type (M := model prg w) U x u.mem
  obtain ⟨cd, hc, hq'⟩ : ∃ cd, clsIn (frag0.heap_1 w.params) 178 = some cd ∧ cd.qualname = "_Accumulator" := ⟨_, by k_is, rfl⟩
  have L3 : Looks (model prg w) s.heap (classData 178) cd := looks_clsIn X hc
  have L4 : Looks (model prg w) s.heap (typeOf (.ref 178)) (.type "type") := looks_typeIn X (by k_is)
  refine call_bnd (Bi := Builtin.«list.pop») (x.wd.fact hq) (.inr rfl) (fun Q' E' A' z => ?_) (by decide +kernel) (entryFor_of_tree (by kernel_rfl)) ?_
  · obtain ⟨hh, g, dd, t, os'⟩ := s
    have ck : (Manifest.signature? "list.pop").map (fun sig => Bind.checkArgs "list.pop" { sig with full := s!"{(Str.ofString "_Accumulator").toString}.{Bind.lastOf "list.pop"}" } ⟨[.ref a], []⟩) = some (pure ()) := by kernel_rfl
    unfold checkBoundCall
    cases hsig : Manifest.signature? "list.pop" with
    | none => exact wpAny_pure z
    | some sig =>
      rw [hsig] at ck
      have ck := Option.some.inj ck
      rw [← hq'] at ck
      have hk : builtinKind "list.pop" = some .method := by decide +kernel
      (try dsimp only)
      rw [hk]
      repeat (first | exact z | with_reducible refine wpAny_of_eq ck ?_ | lk)
  unfold Builtin.«list.pop»
  obtain ⟨hh, g, dd, t, os'⟩ := s
  repeat lk
  have hne : ¬ (vs.push v).isEmpty = true := by simp
  have hk : ((seqIndex? (-1) (vs.push v).size).bind fun k => Option.map (fun x => (k, x)) (vs.push v)[k]?) = some (vs.size, v) := by
    have : seqIndex? (-1) (vs.push v).size = some vs.size := by
      unfold seqIndex?
      simp only [Array.size_push]
      have e1 : ((-1 : Int) < 0) := by decide
      simp only [e1, if_true]
      have e2 : (-1 : Int) + ((vs.size + 1 : Nat) : Int) = vs.size := by omega
      rw [e2]
      have e3 : (decide (0 ≤ (vs.size : Int)) && decide ((vs.size : Int) < ((vs.size + 1 : Nat) : Int))) = true := by
        rw [Bool.and_eq_true]; exact ⟨decide_eq_true (by omega), decide_eq_true (by omega)⟩
      rw [if_pos e3]; rfl
    rw [this]; simp
  rw [if_neg hne, hk]
  have he : (vs.push v).eraseIdxIfInBounds vs.size = vs := by
    unfold Array.eraseIdxIfInBounds
    rw [dif_pos (by simp)]
    apply Array.ext'
    simp [List.eraseIdx_append_of_length_le]
  refine wpAny_bind ?_
  show wpAny _ _ (updateSeq a _) _ _ _
  have u' : Up a (AccP (vs.push v) d) (AccP ((vs.push v).eraseIdxIfInBounds vs.size) d) σ σ' := he.symm ▸ u
  refine acc_update x u' (by rw [he]; exact hz) fun s' x' => wpAny_pure ⟨_, rfl, h s' x'⟩
theorem pop_c {c : Cell} {Q : Value → Shared → Prop} (U : Bs w mg mb B) (x : St B os F s (c :: (a, AccP (vs.push v) d) :: (d, IniP i) :: σ)) (r : Rm A 7) (hz : vs.size ≤ 1000)
    (h : ∀ F' s', Le F F' → St B os F' s' (c :: (a, AccP vs d) :: (d, IniP i) :: σ) → Q v s') :
    wpAny (model prg w) A (call (.ref 138) [.ref a]) Q E s := by
  refine wpAny_call ?_
  refine' enterFC fPop (binds := [("self", .ref a)]) (keys := ["self"]) U x r ?k2 ?k3 ?k4 ?k5 ?k6 ?k7 ?_ ?c1 ?c2 ?c3
  k_extra "sides"
  intro L s₁ x₁ r₁
  replace x₁ := x₁.swap.perm (.cons _ (.cons _ (.swap _ _ _)))
  clear x
  refine ks_wpAt_execs_cons (ks_wpAt_If (wpAt_of_wpAny ?_))
  k_extra "go"
  · rename (_ = (0 : Int)) => h0
    simp only [Array.size_push] at h0
    omega
  refine wpAt_of_wpAny (wpAny_execs_nil ?_)
  (try dsimp only)
  refine ks_wpAt_execs_cons (ks_wpAt_Return_some (ks_wpAt_MethodCall ?_))
  refine acc_super (a := a) (vs := vs.push v) (d := d) (cc := 137) fPop U (by assumption) (by k_extra "memd") (by k_extra "mem") rfl rfl rfl rfl rfl rfl rfl rfl rfl rfl (by k_is) rfl (by decide +kernel) (by decide) ?_
  intro so F' s' le e x₂
  refine acc_super_m (a := a) (vs := vs.push v) (d := d) (Bi := Builtin.«method_descriptor.__get__») (bt := "builtin_function_or_method") (id := "list.pop") U x₂ (by k_extra "memd") e (by kernel_rfl) type_pop slot_md_get entry_md_get args_md_get (by decide) (fun A' Q' E' s hi z => md_run hi (by decide +kernel) (by decide +kernel) z) ?_
  intro q F'' s'' le' e' x₃
  (try dsimp only)
  refine callWith_bnd0 (x₃.wd.fact e') (.inr rfl) (pop_bound (vs := vs) (v := v) (d := d) U x₃ (.tail .head) e' hz fun s₄ x₄ => ?_)
  exact h _ _ ((Le.trans (by assumption) le).trans le') (St.back2 x₄)
theorem pop_n {c : Cell} {Q : Value → Shared → Prop} (U : Bs w mg mb B) (x : St B os F s (c :: (a, AccP #[] d) :: (d, IniP i) :: σ)) (r : Rm A 7)
    (h : ∀ t t1 t2 F' s', Le F F' → F' t = some (tupO [.str "" t1, .str "" t2]) → St B os F' s' (c :: (a, AccP #[] d) :: (d, IniP i) :: σ) → Q (.ref t) s') :
    wpAny (model prg w) A (call (.ref 138) [.ref a]) Q E s := by
  refine wpAny_call ?_
  refine' enterFC fPop (binds := [("self", .ref a)]) (keys := ["self"]) U x r ?k2 ?k3 ?k4 ?k5 ?k6 ?k7 ?_ ?c1 ?c2 ?c3
  k_extra "sides"
  intro L s₁ x₁ r₁
  replace x₁ := x₁.swap.perm (.cons _ (.cons _ (.swap _ _ _)))
  clear x
  refine ks_wpAt_execs_cons (ks_wpAt_If (wpAt_of_wpAny ?_))
  k_extra "go"
  · refine wpAt_of_wpAny ?_
    k_extra "go"
    refine' h _ _ _ _ _ ?le ?e (St.back2 ?x)
    case x => assumption
    case e => k_extra "fact"
    case le => k_extra "le"
end
end
section
section
variable {w : World} {mg mb : Str → Option Value} {B : Heap} {os : OsState} {F : Facts} {s : Shared} {σ σ' : List Cell} {A : Around} {k : Nat} {E : Value → Shared → Prop} {a d : Addr} {vs : Array Value} {v : Value} {i : Int}
noncomputable abbrev litO (a : Addr) (i : Int) : Obj := { cls := .type "list_iterator", data := .fields #[.ref a, .int i 0] }
theorem acc_iter {Q : Value → Shared → Prop} (U : Bs w mg mb B) (x : St B os F s σ) (h : (a, AccP vs d) ∈ σ)
    (q : Q (.ref s.heap.objs.size) { s with heap := s.heap.push (litO a 0) }) : wpAny (model prg w) A (pyIter (.ref a)) Q E s := by
  have X := x.In U
  have L1 : Looks (model prg w) s.heap (specialOf (.ref a) "__iter__") (some (.builtin "list.__iter__")) := (acc_type U x h).andThen (looks_findIn X (by k_is))
  have hl := acc_list (M := model prg w) U x h
  have fin : ∀ (Q' : Value → Shared → Prop) (E' : Value → Shared → Prop) (A' : Around), Q' (.ref s.heap.objs.size) { s with heap := s.heap.push (litO a 0) } → wpAny (model prg w) A' (call (.builtin "list.__iter__") [.ref a]) Q' E' s := by
    intro Q' E' A' z
    refine call_bi (Bi := Builtin.«list.__iter__») (owner := "list") (n := "__iter__") (by decide +kernel) (entryFor_of_tree (by kernel_rfl)) (.inl (by decide +kernel)) (by decide +kernel) hl (by unfold argsOk; kernel_rfl) ?_
    unfold Builtin.«list.__iter__»
    refine wpAny_bind (wpAny_pure ?_)
    exact wpAny_bind (wpAny_newObj_type (wpAny_pure ⟨_, rfl, z⟩))
  unfold pyIter
  refine wpAny_bind (L1.here ?_)
  (try dsimp only)
  refine wpAny_bind ?_
  unfold callSpecialIfBoundUnlessNone? bindSpecialIfBound?
  refine wpAny_holding (wpAny_bind (wpAny_bind (L1.here ?_)))
  have hb : bindSpecial (.builtin "list.__iter__") (.ref a) = pure (.builtin "list.__iter__", [.ref a]) := slot_list_iter.bind _
  refine wpAny_mono (Q := fun r s' => r = some (.builtin "list.__iter__", [.ref a]) ∧ s' = s) (E := E) ?_ (fun r s' hr => ?_) (fun _ _ z => z)
  · dsimp only
    simp only [hb]
    refine wpAny_bind (wpAny_askSetting (wpAny_ite ?_))
    split
    · exact wpAny_bind (wpAny_pure (wpAny_pure ⟨rfl, rfl⟩))
    · exact wpAny_tryCatch (wpAny_bind (wpAny_pure (wpAny_pure ⟨rfl, rfl⟩)))
  · obtain ⟨rfl, rfl⟩ := hr
    (try dsimp only)
    rw [if_neg (by decide)]
    refine wpAny_bind (fin _ _ _ (wpAny_pure ?_))
    (try dsimp only)
    exact wpAny_bind (wpAny_specialOf (T := "list_iterator") ⟨_, Heap.get?_push_size _ rfl, rfl⟩ slot_listiter_next.lookup (wpAny_pure q))
/-- the list_iterator over an accumulator -/
theorem lit_item {it : Addr} {j : Nat} {ol : Obj} {items : Array Value} {n : Nat} {y : Value} {Q : Option Value → Shared → Prop} (hit : s.heap.IsListIter it a j) (hol : s.heap.get? a = some ol) (hdl : ol.data = .seq items n) (hx : items[j]? = some y)
    (hQ : ∀ h', h'.IsListIter it a (j + 1) → Heap.SameBut it s.heap h' → Q (some y) { s with heap := h' }) : wpAny (model prg w) A (pyNext (.ref it)) Q E s := by
  have hl : (s.heap.update a (fun o => o)).get? a = some ol := Heap.get?_update_self _ hol (Obj.isFreed_of_seq hdl)
  obtain ⟨o, ho, hc, hd⟩ := id hit
  unfold pyNext
  refine wpAny_bind (wpAny_attempt (wpAny_callSpecial?_slot (name := Str.ofString "__next__") hit.typeIs slot_listiter_next
    (wpAny_call_entry slot_listiter_next hit.typeIs entry_listiter_next ?_ (args_listiter_next _))))
  show wpAny _ _ (field (.ref it) 0 >>= _) _ _ s
  refine wpAny_bind (wpAny_field ho hd (x := .ref a) rfl ?_)
  show wpAny _ _ (if (Value.ref a == Value.none) = true then _ else _) _ _ s
  rw [if_neg (show ¬ ((Value.ref a == Value.none) = true) from Bool.false_ne_true)]
  refine wpAny_bind (wpAny_field ho hd (x := .int j 0) rfl ?_)
  refine wpAny_bind (wpAny_seqItems hol hdl ?_)
  simp only [Int.toNat_natCast, hx]
  refine wpAny_bind (wpAny_setField ho hd (by simp) (wpAny_pure ⟨y, rfl, wpAny_pure (hQ _ ?_ (Heap.SameBut.update ..))⟩))
  exact ⟨_, Heap.get?_update_self _ ho (Obj.isFreed_of_fields (Obj.data_mapFields hd _)), (Obj.cls_mapFields ..).trans hc, by
    rw [Obj.data_mapFields hd]; simp [rawInt]⟩
theorem lit_end {it : Addr} {j : Nat} {ol : Obj} {items : Array Value} {n : Nat} {Q : Option Value → Shared → Prop} (hh : A.handled = none) (hit : s.heap.IsListIter it a j) (hol : s.heap.get? a = some ol) (hdl : ol.data = .seq items n) (hx : items[j]? = none)
    (hQ : ∀ h', Heap.ExtBut it s.heap h' → Q none { s with heap := h' }) : wpAny (model prg w) A (pyNext (.ref it)) Q E s := by
  obtain ⟨o, ho, hc, hd⟩ := id hit
  unfold pyNext
  refine wpAny_bind (wpAny_attempt (wpAny_callSpecial?_slot (name := Str.ofString "__next__") hit.typeIs slot_listiter_next
    (wpAny_call_entry slot_listiter_next hit.typeIs entry_listiter_next ?_ (args_listiter_next _))))
  show wpAny _ _ (field (.ref it) 0 >>= _) _ _ s
  refine wpAny_bind (wpAny_field ho hd (x := .ref a) rfl ?_)
  show wpAny _ _ (if (Value.ref a == Value.none) = true then _ else _) _ _ s
  rw [if_neg (show ¬ ((Value.ref a == Value.none) = true) from Bool.false_ne_true)]
  refine wpAny_bind (wpAny_field ho hd (x := .int j 0) rfl ?_)
  refine wpAny_bind (wpAny_seqItems hol hdl ?_)
  simp only [Int.toNat_natCast, hx]
  refine wpAny_bind (wpAny_rule (wpAny_bind (wpAny_setField ho hd (by simp) ?_)))
  show wpAny _ _ (newExc (.type "StopIteration") [] >>= _) _ _ _
  refine wpAny_bind ?_
  simp only [newExc, newTuple]
  refine wpAny_bind (wpAny_newObj_type ?_ (by size_fits))
  refine wpAny_bind (m := firstArgMember _ _) (wpAny_of_eq (a := Value.none) (by first | rfl | (simp only [firstArgMember]; rfl)) ?_)
  refine wpAny_newObj_type ?_ (by size_fits)
  simp only [raiseNew]
  refine wpAny_bind (wpAny_handled ?_)
  rw [show A.in1.handled = none from hh]
  refine wpAny_bind (wpAny_pure (wpAny_throw ?_))
  refine wpAny_bind (wpAny_isInstance (T := "StopIteration") (b := true) ⟨_, Heap.get?_push_size _ rfl, rfl⟩ isSubtype_stop ?_)
  exact wpAny_pure (hQ _ (((Heap.SameBut.update ..).extBut.push _).push _))
theorem acc_walks {A : Around} (hh : A.handled = none) (I : Addr) (hne : a ≠ I) (ol : Obj) {n : Nat} (items : Array Value) (hdl : ol.data = .seq items n) (Ts : Nat → Addr) (vals : Nat → Array Value)
    (hit : ∀ j, j < items.size → items[j]? = some (.ref (Ts j))) (hTI : ∀ j, j < items.size → Ts j ≠ I) :
    WalksU prg w A I (I :: a :: (List.range items.size).map Ts) [I] items.size (fun j v => v = vals j)
      (fun j h => h.IsListIter I a j ∧ h.get? a = some ol ∧ ∀ k, k < items.size → h.IsTuple (Ts k) (vals k))
      (fun j T h => (j < items.size ∧ T = Ts j) ∧ h.IsListIter I a (j + 1) ∧ h.get? a = some ol ∧ ∀ k, k < items.size → h.IsTuple (Ts k) (vals k)) where
  sub := fun b hb => by simp at hb; simp [hb]
  frame := fun _ _ _ st hk => ⟨st.1.at fun o e => hk I (by simp) o e, hk a (by simp) _ st.2.1,
    fun k hk' => (st.2.2 k hk').at fun o e => hk (Ts k) (List.mem_cons_of_mem _ (List.mem_cons_of_mem _ (List.mem_map.mpr ⟨k, List.mem_range.mpr hk', rfl⟩))) o e⟩
  item := fun i s Q E hi st hQ => by
    refine lit_item st.1 st.2.1 hdl (y := .ref (Ts i)) (hit i hi) fun h' hit' hs' => ?_
    have tup : ∀ k, k < items.size → h'.IsTuple (Ts k) (vals k) := fun k hk' => (st.2.2 k hk').extBut hs'.extBut (hTI k hk')
    exact hQ (Ts i) (vals i) h' s.toks rfl (tup i hi) ⟨⟨hi, rfl⟩, hit', hs'.extBut _ _ hne st.2.1, tup⟩ fun b o hb e => hs'.extBut b o (fun h => hb (by simp [h])) e
  go := fun _ _ _ _ _ s Q _ hm hQ => wpAny_letOwnedTupleGo_listiter hm.2.1 (hQ s.heap hm.2 fun _ _ _ e => e)
  apart := fun j T _ hm hmem => by
    rcases List.mem_cons.mp hmem with e | e
    · exact hTI j hm.1.1 (hm.1.2 ▸ e)
    · cases e
  done := fun s Q E st hQ => lit_end hh st.1 st.2.1 hdl (by simp) fun h' he' => hQ h' s.toks fun b o hb e => he' b o (fun h => hb (by simp [h])) e
  self := fun _ _ _ _ st hQ => wpAny_pyIter_listiter st.1 hQ
/-- sum, with a start that is an int -/
theorem shiftS {I : Addr} {fp wr : List Addr} {G : Array GenState → Array GenState → Prop} {n : Nat} {P : Nat → Value → Prop} {Sg : Nat → Shared → Prop} (W : WalksS prg w A I fp wr G n P Sg) :
    WalksS prg w A I fp wr G (n + 1) (fun j v => ∃ i, j = i + 1 ∧ P i v) (fun j s => ∃ i, j = i + 1 ∧ Sg i s) where
  sub := W.sub
  grefl := W.grefl
  gtrans := W.gtrans
  frame := fun j s h' tk st htk hk => let ⟨i, e, st⟩ := st; ⟨i, e, W.frame i s h' tk st htk hk⟩
  item := fun j s Q E hj st hQ => by
    obtain ⟨i, rfl, st⟩ := st
    exact W.item i s Q E (by omega) st fun v s' p st' m => hQ v s' ⟨i, rfl, p⟩ ⟨i + 1, rfl, st'⟩ m
  done := fun s Q E st hQ => by
    obtain ⟨i, e, st⟩ := st
    cases e
    exact W.done s Q E st hQ
  self := fun j s Q E st hQ => by
    obtain ⟨i, rfl, st⟩ := st
    exact W.self i s Q E st hQ
noncomputable def shiftV (i : Int) (val : Nat → Int) : Nat → Int
  | 0 => i
  | k + 1 => val k
theorem call_sum2 {x : Value} {t : Tok} {Q : Value → Shared → Prop}
    (h : wpAny (model prg w) A.in1 (pyIter x) (fun it s₂ => ∃ I fp wr G n P Sg val, it = .ref I ∧ WalksS prg w A.in1 I fp wr G n P Sg ∧ Sg 0 s₂ ∧ (∀ b ∈ fp, b < s₂.heap.objs.size) ∧
      (∀ i v, P i v → ∃ t, v = .int (val i) t) ∧
      ∀ s' t', Moved wr G s₂ s' → Q (.int (preSum (shiftV i val) (n + 1)) t') s') E s) :
    wpAny (model prg w) A (call (.builtin "sum") [x, .int i t]) Q E s := by
  refine call_function_tree F.kind_sum F.plain_sum F.entry_sum (by unfold argsOk; kernel_rfl) ?_
  unfold Builtin.«sum»
  simp only [List.length_cons, List.length_nil]
  rw [if_neg (by decide)]
  refine wpAny_bind (wpAny_of_eq (show Builtin.Builtins.bindParams "sum" ["start"] 0 ⟨[.int i t], []⟩ = pure [some (.int i t)] from rfl) ?_)
  refine wpAny_bind (wpAny_mono h (fun it s₂ h₂ => ?_) fun _ _ e => e)
  obtain ⟨I, fp, wr, G, n, P, Sg, val, rfl, W, hst, hfp, hval, hQ⟩ := h₂
  have key : ∀ (u : Tok) (st : Int) (tk : Tok), (st = 0 ∨ st = 2) → s₂.toks ≤ tk → wpAny (model prg w) A.in1 (do
      let l ← newList [.int i u]
      again (.builtin "sum.loop" ⟨[.ref I, l, rawInt st, rawInt 0], []⟩)) (fun fin s' => match fin with | .done f => (match (Except.ok f : Result) with | .ok (.ret v) => Q v s' | .ok _ => False | .error e => E e s') | .again c' => c'.quiet = true ∧ codeAny (model prg w) A c' (fun r s' => match r with | .ok (.ret v) => Q v s' | .ok _ => False | .error e => E e s') s') E { s₂ with toks := tk } := by
    intro u st tk hst2 htk
    refine wpAny_bind (wpAny_newObj_type ?_)
    have hSf : s₂.heap.objs.size ∉ fp := fun hm => Nat.lt_irrefl _ (hfp _ hm)
    have W' := shiftS W
    refine wpAny_pure ⟨plainId_quiet F.plain_sum_loop _, codeAny_sum_loopAnyS W' (shiftV i val) (fun j v ⟨k, e, p⟩ => ?_) s₂.heap.objs.size hSf n 1 _ u 0 st hst2 rfl (by omega)
      ⟨0, rfl, W.frame 0 s₂ _ _ hst htk fun b _ o e => Heap.get?_push_of_some _ e⟩ ?_ fun s' t' hm => ?_⟩
    · subst e; exact hval k v p
    · have : preSum (shiftV i val) 1 = i := by simp [preSum, shiftV]
      rw [this]
      exact Heap.get?_push_size _ rfl
    · exact hQ s' t' (hm.drop_new htk)
  have tail : ∀ (u : Tok) (st : Int) (tk : Tok), (st = 0 ∨ st = 2) → s₂.toks ≤ tk → wpAny (model prg w) A.in1 (do
      for (ty, what, hint) in [("str", "strings", "''"), ("bytes", "bytes", "b''"), ("bytearray", "bytearray", "b''")] do
        if ← isInstance (.int i u) (.type ty) then
          rule "sum.start-refused"; raiseError "TypeError" s!"sum() can't sum {what} [use {hint}.join(seq) instead]"
      again (.builtin "sum.loop" ⟨[.ref I, ← newList [.int i u], rawInt st, rawInt 0], []⟩)) (fun fin s' => match fin with | .done f => (match (Except.ok f : Result) with | .ok (.ret v) => Q v s' | .ok _ => False | .error e => E e s') | .again c' => c'.quiet = true ∧ codeAny (model prg w) A c' (fun r s' => match r with | .ok (.ret v) => Q v s' | .ok _ => False | .error e => E e s') s') E { s₂ with toks := tk } := by
    intro u st tk h1 h2
    simp only [List.forIn_cons, List.forIn_nil]
    refine wpAny_bind (wpAny_bind (wpAny_bind (wpAny_isInstance (T := "int") (b := false) (typeIs_int _ _ _) PySem.sub_int_str ?_)))
    simp only [Bool.false_eq_true, if_false]
    refine wpAny_pure (wpAny_bind (wpAny_bind (wpAny_isInstance (T := "int") (b := false) (typeIs_int _ _ _) PySem.sub_int_bytes ?_)))
    simp only [Bool.false_eq_true, if_false]
    refine wpAny_pure (wpAny_bind (wpAny_bind (wpAny_isInstance (T := "int") (b := false) (typeIs_int _ _ _) PySem.sub_int_bytearray ?_)))
    simp only [Bool.false_eq_true, if_false]
    refine wpAny_pure (wpAny_pure ?_)
    exact key u st tk h1 h2
  (try dsimp only)
  split
  · exact wpAny_bind (wpAny_rule (wpAny_bind (wpAny_mkInt (wpAny_bind (wpAny_pure (tail _ _ _ (.inl rfl) (Nat.le_succ _)))))))
  · exact wpAny_bind (wpAny_pure (tail _ _ _ (.inr rfl) (Nat.le_refl _)))
end
end
section
noncomputable def CodeAt (c P : Addr) : Prop := ∀ Pm, ∃ od osl vs file tf flags tg inF text tt, (frag0.heap_1 Pm).lookup c = some ⟨.type "code", od, .fields vs, osl⟩ ∧ vs[11]? = some (.ref P) ∧ vs.getD 11 .none = .ref P ∧ vs.getD 18 .none = .str file tf ∧
    vs.getD 7 .none = .int flags tg ∧ vs.getD 9 .none = .bool inF ∧ vs.getD 10 .none = .int text tt
theorem cLen : CodeAt 144 140 := fun Pm => ⟨_, _, _, _, _, _, _, _, _, _, by k_is, rfl, rfl, rfl, rfl, rfl, rfl⟩
theorem cStr : CodeAt 151 147 := fun Pm => ⟨_, _, _, _, _, _, _, _, _, _, by k_is, rfl, rfl, rfl, rfl, rfl, rfl⟩
theorem cInt2 : CodeAt 188 184 := fun Pm => ⟨_, _, _, _, _, _, _, _, _, _, by k_is, rfl, rfl, rfl, rfl, rfl, rfl⟩
theorem cDig2 : CodeAt 195 191 := fun Pm => ⟨_, _, _, _, _, _, _, _, _, _, by k_is, rfl, rfl, rfl, rfl, rfl, rfl⟩
noncomputable def tabO (ps : Array Value) : Obj := { cls := .none, data := .fields ps }
noncomputable def TabP (ln cl : Nat) (o : Obj) : Prop := o = tabO #[] ∨ ∃ c', o = tabO #[rawInt ln, rawInt cl, .ref c']
theorem codeAmong_one (pos : Pos) (c : Value) : codeAmong pos [rawInt pos.line, rawInt pos.col, c] = some c := by simp [codeAmong, rawInt]
theorem Up.self {a : Addr} {P : Obj → Prop} {σ : List Cell} (h : (a, P) ∈ σ) : Up a P P σ σ := by
  induction σ with
  | nil => cases h
  | cons q r ih =>
    rcases List.mem_cons.mp h with rfl | h
    · exact .head
    · exact .tail (ih h)
section
variable {w : World} {mg mb : Str → Option Value} {B : Heap} {os : OsState} {F : Facts} {s : Shared} {σ σ' : List Cell} {A : Around} {k : Nat} {E : Value → Shared → Prop} {a d : Addr} {vs : Array Value} {v : Value} {i : Int}
theorem Wd.exceptF {h h' : Heap} {P : Addr} (x : Wd B F h σ) (hm : (P, (Q : Obj → Prop)) ∈ σ) (k : ∀ b o, b ≠ P → h.get? b = some o → h'.get? b = some o) (n : ∃ o, h'.get? P = some o ∧ Q o) : Wd B F h' σ := x.turn (Up.self hm) k n
theorem tab_c {c P : Addr} {env : Env} {pos : Pos} {qn : Str} {scope : Scope} {Q : Value → Shared → Prop} (U : Bs w mg mb B) (x : St B os F s σ) (hT : (P, TabP pos.line pos.col) ∈ σ) (hcP : CodeAt c P) (hcode : env.code = .ref c) (hcP' : c ≠ P)
    (h : ∀ c' h' tk, St B os F { s with heap := h', toks := tk } σ → (∀ b o, b ≠ P → s.heap.get? b = some o → h'.get? b = some o) → s.heap.objs.size ≤ h'.objs.size → Q (.ref c') { s with heap := h', toks := tk }) :
    wpAny (model prg w) A (genexprCode env pos qn scope) Q E s := by
  obtain ⟨od, osl, fv, file, tf, flags, tg, inF, text, tt, e1, e2, e3, e4, e5, e6, e7⟩ := hcP w.params
  have g1 := x.In U _ _ e1
  obtain ⟨o, g2, g3⟩ := x.wd.cell _ hT
  have sz : ∀ {b : Addr} {h h' : Heap}, b < h'.objs.size → h.objs.size ≤ b → h.objs.size ≤ h'.objs.size := fun p q => Nat.le_of_lt (Nat.lt_of_le_of_lt q p)
  rcases g3 with rfl | ⟨c', rfl⟩
  · have hok : s.heap.IsCode c P #[] := ⟨_, _, _, _, _, _, _, _, _, _, g1, rfl, e3, e4, e5, e6, e7, g2, rfl, trivial, hcP'⟩
    have htab : s.heap.TableAt c P #[] := ⟨⟨_, _, g1, rfl, rfl, e2⟩, g2⟩
    refine wpAny_genexprCodeX hcode hok htab rfl fun c' h' tk hx hge hlt _ _ ht _ => ?_
    exact h c' h' tk (x.with_ (x.wd.exceptF hT hx ⟨_, ht.2, .inr ⟨c', rfl⟩⟩)) hx (sz hlt hge)
  · have hok : s.heap.IsCode c P #[rawInt pos.line, rawInt pos.col, .ref c'] := ⟨_, _, _, _, _, _, _, _, _, _, g1, rfl, e3, e4, e5, e6, e7, g2, rfl, trivial, hcP'⟩
    exact wpAny_genexprCode_hit hcode hok (codeAmong_one _ _) (h c' s.heap s.toks x (fun _ _ _ e => e) (Nat.le_refl _))

noncomputable def Gn (w : World) (A : Around) (F : Facts) (σ : List Cell) (g : Addr) (n : Nat) (P : Nat → Value → Prop) (s : Shared) : Prop :=
  ∃ fp wr gi Sg, WalksS prg w A.in4 g fp wr (GenOnlyQ gi) n P Sg ∧ Sg 0 s ∧ (∀ j s', Sg j s' → s'.TypeIs (.ref g) "generator") ∧ g ∈ fp ∧ (∀ b ∈ fp, b < s.heap.objs.size) ∧ ∀ b ∈ wr, F b = none ∧ ∀ p ∈ σ, p.1 ≠ b
theorem St.moved {wr : List Addr} {gi : Nat} {s' : Shared} (x : St B os F s σ) (hw : ∀ b ∈ wr, F b = none ∧ ∀ p ∈ σ, p.1 ≠ b) (m : Moved wr (GenOnlyQ gi) s s') : St B os F s' σ := by
  refine ⟨⟨x.wd.base, fun b o e => m.heap b o (fun hb => ?_) (x.wd.keep b o e), fun p hp => ?_, x.wd.off, x.wd.nodup⟩, m.gens.bare x.bare, m.os.trans x.os⟩
  · rw [(hw b hb).1] at e; cases e
  · obtain ⟨o, e, q⟩ := x.wd.cell p hp
    exact ⟨o, m.heap _ _ (fun hb => (hw _ hb).2 p hp rfl) e, q⟩

theorem gen_acc {env : Env} {elt : Expr} {xa xb : Str} {pa pb pt px : Pos} {kt : Nat} {scope : Scope} {cl : List (Str × Addr)} {pos : Pos} {l : List (Str × Value)} {c P : Addr} {Q : Value → Shared → Prop} {va vb : Nat → Value} {Fv : Nat → Value → Prop} {Ts : Nat → Addr}
    (U : Bs w mg mb B) (x : St B os F s ((env.locals, Loc l) :: σ)) (r : Rm A 1) (hm : (a, AccP vs d) ∈ σ) (hT : (P, TabP pos.line pos.col) ∈ σ) (hcP : CodeAt c P) (hcode : env.code = .ref c) (hcP' : c ≠ P) (hv : (("self" : Str), Value.ref a) ∈ l)
    (hit : ∀ j, j < vs.size → vs[j]? = some (.ref (Ts j))) (hvals : ∀ j, j < vs.size → F (Ts j) = some (tupO [va j, vb j]))
    (hco : scope.isCoroutine = false) (hclos : closureFor scope env = pure cl) (hcell : ∀ y ∈ scope.names, y.2 ≠ .cell) (h0 : scope.names.lookup (".0" : Str) = some NameKind.local)
    (hxa : scope.names.lookup xa = some .local) (hxb : scope.names.lookup xb = some .local) (hab : xa ≠ xb) (hkind : scope.kind = .function)
    (hek : env.scope.kind = .function) (hel : env.kindOf "self" = some .local) (heg : env.globals = mainGlobals)
    (helt : ∀ j, j < vs.size → ∀ C code A' E' s₂, A'.handled = none → Wd B F s₂.heap [(C, Loc [(xa, va j), (xb, vb j)])] → wpAny (model prg w) A' (eval elt (genEnv scope cl C code builtinsNs env)) (fun y s₃ => Fv j y ∧ Keeps s₂ s₃) E' s₂)
    (h : ∀ g s', St B os F s' ((env.locals, Loc l) :: σ) → Gn w A F ((env.locals, Loc l) :: σ) g vs.size Fv s' → Q (.ref g) s')
    (hs : ∀ x, genFold (.Name "self" px) env x = pure x) :
    wpAny (model prg w) A (eval (.GeneratorExp elt [⟨.Tuple [.Name xa pa, .Name xb pb] kt pt, .Name "self" px, [], 0⟩] scope pos) env) Q E s := by
  refine wpAny_GeneratorExp_walksQT r.hh hco hclos hcell h0 hxa hxb hab hkind r.room (ld x hv ?_ hek hel) hs
  refine acc_iter U x (.tail _ hm) ?_
  have x₂ : St B os F { s with heap := s.heap.push (litO a 0) } ((env.locals, Loc l) :: σ) := ⟨x.wd.grow fun _ _ e => Heap.get?_push_of_some _ e, x.bare, x.os⟩
  refine ⟨U.nolimit.keeps x₂.wd.keepsB, ?_⟩
  refine tab_c U x₂ (.tail _ hT) hcP hcode hcP' fun c' h₃ tk₃ x₃ hk₃ hsz₃ => ?_
  have X := x₃.In U
  obtain ⟨n, ea⟩ := acc_get x₃ (.tail _ hm)
  obtain ⟨bm, ob, hb1, hb2, hb3, hb4, hb5, hb6⟩ := U.bmain
  refine wpAny_builtinsFor (heg ▸ U.g.keeps x₃.wd.keepsB) hb1 hb2 (x₃.wd.old hb3) hb4 hb5 hb6 ?_
  have hI : s.heap.get? s.heap.objs.size = none := Wd.size_none _
  obtain ⟨f1, f2⟩ := x.wd.fresh hI
  have hIP : s.heap.objs.size ≠ P := fun e => f2 _ (.tail _ hT) e.symm
  have haI : a ≠ s.heap.objs.size := f2 _ (.tail _ hm)
  have tk : ∀ j, j < vs.size → Ts j ≠ s.heap.objs.size := fun j hj e => by have := hvals j hj; rw [e, f1] at this; cases this
  have hsz2 : s.heap.objs.size + 1 ≤ h₃.objs.size := by have := hsz₃; rw [Heap.size_push] at this; exact this
  refine ⟨s.heap.objs.size, _, [s.heap.objs.size], vs.size, _, _, _, fun _ => true, Fv, rfl, (fun A' hh => acc_walks hh s.heap.objs.size haI _ vs (show (accO vs n d).data = .seq vs n from rfl) Ts (fun j => #[va j, vb j]) hit tk |>.bound), ?_, ⟨⟨_, hk₃ _ _ hIP (Heap.get?_push_size _ rfl), rfl, rfl⟩, ea, fun k hk => ⟨_, x₃.wd.keep _ _ (hvals k hk), rfl, _, rfl⟩⟩, ?_, U.nolimit.keeps x₃.wd.keepsB, ?_, ?_, ?_⟩
  · rintro j _ ⟨hj, rfl⟩
    exact ⟨_, _, rfl⟩
  · intro b hb
    rcases List.mem_cons.mp hb with rfl | hb
    · exact hsz2
    · rcases List.mem_cons.mp hb with rfl | hb
      · exact Heap.lt_size ea
      · obtain ⟨j, hj, rfl⟩ := List.mem_map.mp hb
        exact Heap.lt_size (x₃.wd.keep _ _ (hvals j (List.mem_range.mp hj)))
  · intro hb
    rw [List.mem_singleton] at hb
    obtain ⟨o, _, _, e, _⟩ := U.nolimit.keeps x.wd.keepsB |>.choose_spec.1
    rw [hb, hI] at e; cases e
  · intro href hhref
    have kp : ∀ (s₂ : Shared), (∀ b ∈ List.range h₃.objs.size, b ∉ [s.heap.objs.size] → ∀ o, href.get? b = some o → s₂.heap.get? b = some o) → ∀ b o, F b = some o → s₂.heap.get? b = some o := by
      intro s₂ hk b o e
      have e3 := x₃.wd.keep _ _ e
      refine hk b (List.mem_range.mpr (Heap.lt_size e3)) (fun hb => ?_) o (hhref _ _ e3)
      rw [List.mem_singleton] at hb
      rw [hb, f1] at e; cases e
    obtain ⟨f3, _⟩ := x₃.wd.fresh (Wd.size_none h₃)
    refine ⟨fun A' E' j va' vb' s₂ m₂ hh hP hn h1 h2 hk => ?_, fun A' E' j va' vb' s₂ m₂ hh hP _ hn h1 h2 hk => ?_⟩
    · rw [List.forIn_nil]
      exact wpAny_pure ⟨rfl, s₂.heap, s₂.toks, rfl, fun _ _ e => e⟩
    · obtain ⟨hj, e⟩ := hP
      obtain ⟨rfl, rfl⟩ : va' = va j ∧ vb' = vb j := by simpa using e
      refine helt j hj _ _ A' E' s₂ hh ⟨x.wd.base, kp s₂ hk, fun p hp => ?_, fun p hp => ?_, by simp⟩
      · rw [List.mem_singleton] at hp; subst hp
        obtain ⟨o, es, ep, g1, g2, g3, g4⟩ := hn
        refine ⟨o, g1, m₂, ⟨es, ep, g2, g3, g4⟩, fun q hq => ?_⟩
        rcases List.mem_cons.mp hq with rfl | hq
        · exact h1
        · rw [List.mem_singleton] at hq; subst hq; exact h2
      · rw [List.mem_singleton] at hp; subst hp; exact f3
  · intro g h₅ tk₅ gs hgb hag hsz₅ hk₅ W hat
    have hp : ∀ n₀, passing (fun _ => true) n₀ 0 = List.range n₀ := fun n₀ => by simp [passing]
    rw [hp, List.length_range] at W
    have x₅ : St B os F ⟨h₅, s.gens.push gs, s.drawn, tk₅, s.os⟩ ((env.locals, Loc l) :: σ) := ⟨x₃.wd.grow hk₅, fun y hy => (Array.mem_push.mp hy).elim (x.bare y) (fun e => e ▸ hgb), x.os⟩
    refine h g _ x₅ ⟨_, _, _, _, ⟨W.sub, W.grefl, W.gtrans, W.frame, fun i s Q E hi st hQ => W.item i s Q E hi st fun v s' hv => hQ v s' ?_, W.done, W.self⟩, hat, (fun j s' st => st.1.typeIs), List.mem_cons_self, ?_, ?_⟩
    · obtain ⟨i', h1, h2⟩ := hv
      obtain ⟨_, rfl⟩ := List.getElem?_eq_some_iff.mp h1
      simpa [List.getElem_range] using h2
    · intro b hb
      show b < h₅.objs.size
      rw [hsz₅]
      rcases List.mem_cons.mp hb with rfl | hb
      · exact Nat.lt_succ_self _
      · rcases List.mem_cons.mp hb with rfl | hb
        · exact Nat.lt_succ_of_lt hag
        · exact Nat.lt_succ_of_lt (Nat.lt_trans (List.mem_range.mp hb) hag)
    · intro b hb
      rcases List.mem_cons.mp hb with rfl | hb
      · exact x₃.wd.fresh (Wd.size_none h₃)
      · rw [List.mem_singleton] at hb; subst hb; exact ⟨f1, f2⟩
end
end
section
section
variable {w : World} {mg mb : Str → Option Value} {B : Heap} {os : OsState} {F : Facts} {s : Shared} {σ σ' : List Cell} {A : Around} {k : Nat} {E : Value → Shared → Prop} {a d : Addr} {vs : Array Value} {v : Value} {i : Int}
/-- an item: a tuple of two texts -/
noncomputable def ItemF (F : Facts) (v : Value) (p : Str × Str) : Prop := ∃ t u1 u2, v = .ref t ∧ F t = some (tupO [.str p.1 u1, .str p.2 u2])
structure Items (F : Facts) (vs : Array Value) (its : List (Str × Str)) : Prop where
  n : vs.size = its.length
  at_ : ∀ (j : Nat) (p : Str × Str), its[j]? = some p → ∃ v : Value, vs[j]? = some v ∧ ItemF F v p
theorem ItemF.le {F' : Facts} {v p} (x : ItemF F v p) (le : Le F F') : ItemF F' v p := let ⟨t, u1, u2, e, f⟩ := x; ⟨t, u1, u2, e, le _ _ f⟩
theorem Items.le {F' : Facts} {its : List (Str × Str)} (x : Items F vs its) (le : Le F F') : Items F' vs its := ⟨x.n, fun j p e => let ⟨v, h1, h2⟩ := x.at_ j p e; ⟨v, h1, h2.le le⟩⟩
theorem Items.el {F' : Facts} {its : List (Str × Str)} (le : Le F F') (x : Items F vs its) : Items F' vs its := x.le le
theorem Items.nil : Items F #[] [] := ⟨rfl, fun j p e => by cases e⟩
theorem Items.push {its v p} (x : Items F vs its) (h : ItemF F v p) : Items F (vs.push v) (its ++ [p]) := by
  refine ⟨by simp [x.n], fun j q e => ?_⟩
  by_cases hj : j < its.length
  · rw [List.getElem?_append_left hj] at e
    obtain ⟨u, h1, h2⟩ := x.at_ j q e
    exact ⟨u, by rw [Array.getElem?_push_lt (by rw [x.n]; exact hj)]; rw [← h1]; exact (Array.getElem?_eq_getElem _).symm, h2⟩
  · obtain ⟨h1, e'⟩ := List.getElem?_eq_some_iff.mp e
    have : j = its.length := by simp at h1; omega
    subst this
    simp at e'; subst e'
    exact ⟨v, by rw [← x.n]; simp, h⟩
theorem Items.choose {its} (x : Items F vs its) : ∃ (Ts : Nat → Addr) (va vb : Nat → Value), (∀ j, j < vs.size → vs[j]? = some (.ref (Ts j))) ∧ (∀ j, j < vs.size → F (Ts j) = some (tupO [va j, vb j])) ∧
    ∀ j, j < vs.size → ∃ p u1 u2, its[j]? = some p ∧ va j = .str p.1 u1 ∧ vb j = .str p.2 u2 := by
  have : ∀ j, ∃ q : Addr × Value × Value, j < vs.size → vs[j]? = some (.ref q.1) ∧ F q.1 = some (tupO [q.2.1, q.2.2]) ∧ ∃ p u1 u2, its[j]? = some p ∧ q.2.1 = .str p.1 u1 ∧ q.2.2 = .str p.2 u2 := by
    intro j
    by_cases hj : j < vs.size
    · have hj' : j < its.length := x.n ▸ hj
      obtain ⟨v, h1, t, u1, u2, rfl, f⟩ := x.at_ j its[j] (by simp [hj'])
      exact ⟨(t, .str its[j].1 u1, .str its[j].2 u2), fun _ => ⟨h1, f, _, u1, u2, by simp [hj'], rfl, rfl⟩⟩
    · exact ⟨(0, .none, .none), fun h => absurd h hj⟩
  obtain ⟨f, hf⟩ := Classical.axiomOfChoice this
  exact ⟨fun j => (f j).1, fun j => (f j).2.1, fun j => (f j).2.2, fun j h => (hf j h).1, fun j h => (hf j h).2.1, fun j h => (hf j h).2.2⟩

theorem ldW {env : Env} {l : List (Str × Value)} {n : Str} {M : Model} {pos : Pos} {Q : Value → Shared → Prop} (x : Wd B F s.heap ((env.locals, Loc l) :: σ)) (hv : (n, v) ∈ l) (h : Q v s)
    (hk : env.scope.kind = .function := by rfl) (hl : env.kindOf n = some .local := by rfl) (hd : (n == ("__debug__" : Str)) = false := by decide) : wpAny M A (eval (.Name n pos) env) Q E s := by
  obtain ⟨m, hn, hm⟩ := x.loc (.head _)
  exact wpAny_Name (wpAny_loadName_local hk hl hn (hm _ hv) h) hd
theorem ldWK {env : Env} {n : Str} {M : Model} {pos : Pos} {Q : Value → Shared → Prop} (U : Bs w mg mb B) (x : Wd B F s.heap σ) (e : nsIn (frag0.heap_1 w.params) mainGlobals n = some (some v)) (h : Q v s)
    (hk : env.scope.kind = .function := by rfl) (hl : env.kindOf n = some .globalImplicit := by rfl) (hg : env.globals = mainGlobals := by rfl) (hd : (n == ("__debug__" : Str)) = false := by decide) : wpAny M A (eval (.Name n pos) env) Q E s :=
  Name_function_global hk hl (loadGlobal_global (env := env) (hg ▸ U.g.keeps x.keepsB) (mg_of U.X U.g e) h) hd
theorem ldWB {env : Env} {n : Str} {M : Model} {pos : Pos} {Q : Value → Shared → Prop} (U : Bs w mg mb B) (x : Wd B F s.heap σ) (e : nsIn (frag0.heap_1 w.params) mainGlobals n = some none) (hv : bootBuiltins n = some v) (hn : n ≠ "__name__") (h : Q v s)
    (hk : env.scope.kind = .function := by rfl) (hl : env.kindOf n = some .globalImplicit := by rfl) (hg : env.globals = mainGlobals := by rfl) (hb : env.builtins = builtinsNs := by rfl) (hd : (n == ("__debug__" : Str)) = false := by decide) : wpAny M A (eval (.Name n pos) env) Q E s :=
  Name_function_global hk hl (loadGlobal_builtin (env := env) (hg ▸ U.g.keeps x.keepsB) (mg_none_of U.X U.g e) (hb ▸ U.b.keeps x.keepsB) ((U.builtins n hn).trans hv) h) hd
theorem ownM13a : True := by
  (k_with "eval Name" => (with_unfolding_all (refine' Mine.ldWK (by k_extra "asm") (by k_extra "asm") (by k_extra "kis") ?_); intros))
  (k_with "eval Name" => (with_unfolding_all (refine' Mine.ldWB (by k_extra "asm") (by k_extra "asm") (by k_extra "kis") (by k_extra "bb") (by k_extra "deck") ?_); intros))
  (k_with "eval Name" => (with_unfolding_all (refine' Mine.ldW (by k_extra "asm") (by k_extra "mem") ?_); intros))
  trivial
noncomputable def itl (its : List (Str × Str)) (j : Nat) : Int := match its[j]? with | some p => p.1.length + p.2.length | none => 0
noncomputable def tot (its : List (Str × Str)) : Nat := (its.map fun p => p.1.length + p.2.length).sum
theorem preSum_itl (its : List (Str × Str)) : ∀ n, n ≤ its.length → preSum (itl its) n = tot (its.take n) := by
  intro n
  induction n with
  | zero => intro _; simp [preSum, tot]
  | succ n ih =>
    intro hn
    have hn' : n < its.length := hn
    show preSum (itl its) n + itl its n = _
    rw [ih (by omega)]
    have e : its[n]? = some its[n] := by simp [hn']
    rw [List.take_succ_eq_append_getElem hn']
    simp only [itl, tot, e, List.map_append, List.sum_append, List.map_cons, List.map_nil, List.sum_cons, List.sum_nil]
    omega
theorem preSum_shift (i : Int) (val : Nat → Int) : ∀ n, preSum (shiftV i val) (n + 1) = i + preSum val n := by
  intro n
  induction n with
  | zero => simp [preSum, shiftV]
  | succ n ih =>
    show preSum (shiftV i val) (n + 1) + shiftV i val (n + 1) = _
    rw [ih]
    show i + preSum val n + val n = i + (preSum val n + val n)
    omega
theorem len_total (i : Int) (its : List (Str × Str)) : preSum (shiftV i (itl its)) (its.length + 1) = i + tot its := by
  rw [preSum_shift, preSum_itl _ _ (Nat.le_refl _), List.take_length]
noncomputable def Short (its : List (Str × Str)) : Prop := ∀ p ∈ its, p.1.length + p.2.length ≤ 1000
theorem acc_size1 {ex : Bool} {Q : Value → Shared → Prop} (U : Bs w mg mb B) (x : St B os F s σ) (h : (a, AccP vs d) ∈ σ) (hi : (d, IniP i) ∈ σ)
    (q : ∀ tk, Q (.int i tk) { s with toks := s.toks + 1 }) : wpAny (model prg w) A (getAttr (.ref a) "_initial_size" ex) Q E s := by
  obtain ⟨n, od, tk, I, q'⟩ := acc_inst x h hi
  exact get_value_l (x.In U) I (by k_is) (by k_is) (by k_is) (findObj_has (by k_is) (by k_is) (lookIn_exa q')) rfl (q _)
theorem len_c {c : Cell} {its : List (Str × Str)} {Q : Value → Shared → Prop} (U : Bs w mg mb B) (x : St B os F s (c :: (a, AccP vs d) :: (d, IniP i) :: (140, TabP 93 19) :: σ)) (r : Rm A 5) (hi : Items F vs its) (hs : Short its)
    (h : ∀ tk F' s', Le F F' → St B os F' s' (c :: (a, AccP vs d) :: (d, IniP i) :: (140, TabP 93 19) :: σ) → Q (.int (i + tot its) tk) s') :
    wpAny (model prg w) A (call (.ref 145) [.ref a]) Q E s := by
  refine wpAny_call ?_
  refine' enterF fLen (binds := [("self", .ref a)]) (keys := ["self"]) U x r ?k2 ?k3 ?k4 ?k5 ?k6 ?k7 ?_ ?c1 ?c2 ?c3
  k_extra "sides"
  intro L s₁ x₁ r₁
  replace x₁ := x₁.swap.perm (.cons _ (.cons _ (.swap _ _ _)))
  clear x
  k_extra "go"
  obtain ⟨Ts, va, vb, i1, i2, i3⟩ := hi.choose
  refine gen_acc (a := a) (d := d) (vs := vs) (va := va) (vb := vb) (Ts := Ts) (c := 144) (P := 140) (cl := []) (Fv := fun j y => ∃ t, y = .int (itl its j) t) U x₁ (r₁.le (by decide)) (by k_extra "memd") (by k_extra "memd") cLen rfl (by decide) (by k_extra "mem") i1 i2 rfl rfl (by decide) rfl rfl rfl (by decide) rfl rfl rfl rfl (fun j hj C code A' E' s₂ hh W => ?_) (fun g s' x' G => ?_) (fun _ => rfl)
  · obtain ⟨q, u1, u2, e0, e1, e2⟩ := i3 j hj
    have hq := hs q (List.mem_of_getElem? e0)
    have hit : (q.1.length : Int) + q.2.length = itl its j := by simp only [itl, e0]
    rw [e1, e2] at W
    have W' : Wd B F s₂.heap [((genEnv
          { kind := ScopeKind.function,
            names := [(Str.ofString ".0", NameKind.local), (Str.ofString "fws", NameKind.local), (Str.ofString "part", NameKind.local), (Str.ofString "len", NameKind.globalImplicit)],
            isGenerator := true, isCoroutine := false }
          [] C code builtinsNs (callEnv fLen.fd L 145)).locals, Loc [((Str.ofString "fws"), Value.str q.1 u1), ((Str.ofString "part"), Value.str q.2 u2)])] := W
    clear W
    k_extra "go"
    · exact congrArg (fun z => Value.int z _) hit
    · exact ⟨_, _, rfl, fun _ _ e => e⟩
  · k_extra "go"
    refine' acc_size1 U x' ?h ?hi ?_
    case h => k_extra "memd"
    case hi => k_extra "memd"
    intro tk
    k_extra "go"
    obtain ⟨fp, wr, gi, Sg, W, G0, G1, G2, G3, G4⟩ := G
    have W1 := W.in4_1
    refine call_sum2 (W1.self 0 _ _ _ (W.frame 0 s' s'.heap (s'.toks + 1) G0 (Nat.le_succ _) fun _ _ _ e => e) ⟨g, fp, wr, _, _, _, Sg, itl its, rfl, W1, W.frame 0 s' s'.heap (s'.toks + 1) G0 (Nat.le_succ _) fun _ _ _ e => e, G3, fun _ _ z => z, fun s₃ t₃ m => ?_⟩)
    have x₃ : St B os F s₃ (((callEnv fLen.fd L 145).locals, Loc [(Str.ofString "self", Value.ref a)]) :: (a, AccP vs d) :: (d, IniP i) :: c :: (140, TabP 93 19) :: σ) := St.moved x'.toks G4 m
    k_extra "go"
    rw [hi.n, len_total]
    k_extra "uq"
    exact h _ _ _ (Le.refl _) (St.back2 x₃)
end
end
theorem backM13 : True := by
  (k_with "eval Name" => (with_unfolding_all (refine' Mine.ldK (by k_extra "asm") (by k_extra "stk") (by k_extra "kis") ?_); intros))
  (k_with "eval Name" => (with_unfolding_all (refine' Mine.ldB (by k_extra "asm") (by k_extra "stk") (by k_extra "kis") (by k_extra "bb") (by k_extra "deck") ?_); intros))
  (k_with "eval Name" => (with_unfolding_all (refine' Mine.ld (by k_extra "stk") (by k_extra "mem") ?_); intros))
  trivial
theorem linesM14 : True := by
  (k_with "getAttr ref" => ((with_reducible show wpAny _ _ (getAttr _ (Str.ofString "_initial_size") _) _ _ _); refine' Mine.acc_size (by k_extra "asm") (by k_extra "stk") (by k_extra "memd") (by k_extra "memd") ?_; intros))
  trivial
section
section
variable {w : World} {mg mb : Str → Option Value} {B : Heap} {os : OsState} {F : Facts} {s : Shared} {σ σ' : List Cell} {A : Around} {k : Nat} {E : Value → Shared → Prop} {a d : Addr} {vs : Array Value} {v : Value} {i : Int}
theorem tot_le {its : List (Str × Str)} (h : Short its) : tot its ≤ its.length * 1000 := by
  unfold tot
  induction its with
  | nil => simp
  | cons p r ih =>
    have h1 := h p (.head _)
    have h2 := ih fun q hq => h q (.tail _ hq)
    simp only [List.map_cons, List.sum_cons, List.length_cons]
    omega
theorem acc_len {c : Cell} {its : List (Str × Str)} {Q : Value → Shared → Prop} (U : Bs w mg mb B) (x : St B os F s (c :: (a, AccP vs d) :: (d, IniP i) :: (140, TabP 93 19) :: σ)) (r : Rm A 6) (hi : Items F vs its) (hs : Short its) (hn : vs.size ≤ 1000) (h0 : 0 ≤ i) (h1 : i ≤ 1000)
    (h : ∀ tk F' s', Le F F' → St B os F' s' (c :: (a, AccP vs d) :: (d, IniP i) :: (140, TabP 93 19) :: σ) → Q (.int (i + tot its) tk) s') :
    wpAny (model prg w) A (call (.builtin "len") [.ref a]) Q E s := by
  obtain ⟨n, od, tk, I, q'⟩ := acc_inst x (a := a) (vs := vs) (d := d) (i := i) (by k_extra "memd") (by k_extra "memd")
  have hz := hi.n ▸ tot_le hs
  refine Calls.call_function_entry kind_len plain_len entry_len (args_len1 _) ?_
  unfold Builtin.«len»
  refine wpAny_bind (m := oneArg "len" _) (wpAny_pure ?_)
  refine wpAny_bind (m := callSpecial? (.ref a) (Str.ofString "__len__")) (special_fn (f := 145) (x.In U) I (by k_is) (by k_is) (len_c U x (r.le (by decide)).in1 hi hs fun tk F' s' le x' => ?_))
  refine wpAny_bind (wpAny_holding (wpAny_pure ?_))
  refine wpAny_bind (wpAny_letGo ?_)
  show wpAny _ _ (if i + (tot its : Int) < 0 then _ else _) _ _ _
  rw [if_neg (by omega)]
  show wpAny _ _ (if i + (tot its : Int) ≥ 2 ^ 63 then _ else _) _ _ _
  rw [if_neg (by omega)]
  exact wpAny_bind (wpAny_mkInt (wpAny_pure ⟨_, rfl, h _ _ _ le x'.toks⟩))
theorem St.pushed (x : St B os F s σ) (o : Obj) : St B os F { s with heap := s.heap.push o } σ := ⟨x.wd.grow fun _ _ e => Heap.get?_push_of_some _ e, x.bare, x.os⟩
/-- a slot of list's that an accumulator inherits -/
theorem special_bi {M : Model} {name : Str} {id : String} {args : List Value} {Q : Option Value → Shared → Prop} (U : Bs w mg mb B) (x : St B os F s σ) (hm : (a, AccP vs d) ∈ σ) (hf : findIn (frag0.heap_1 w.params) (.ref 178) name = some (some (.builtin id))) (hb : ∀ z, bindSpecial (.builtin id) z = pure (.builtin id, [z]))
    (h : wpAny M A (call (.builtin id) (.ref a :: args)) (fun v => Q (some v)) E s) : wpAny M A (callSpecial? (.ref a) name args) Q E s := by
  unfold callSpecial? specialOf
  refine wpAny_bind (wpAny_bind ((acc_type U x hm).here ((looks_findIn (x.In U) hf).here (wpAny_holding ?_))))
  rw [hb]
  exact wpAny_bind (wpAny_pure (wpAny_bind (wpAny_mono h (fun _ _ z => wpAny_pure z) fun _ _ z => z)))
theorem acc_key {M : Model} {name : Str} {key : Value} {Q : Value → Shared → Prop} (U : Bs w mg mb B) (x : St B os F s σ) (hm : (a, AccP vs d) ∈ σ) (h : Q key s) : wpAny M A (sequenceKey (.ref a) key name) Q E s := by
  have L : Looks M s.heap (isSubtype (.ref 178) (.type "collections.deque")) false := looks_subIn (x.In U) (by k_is)
  unfold sequenceKey
  refine wpAny_bind ((acc_type U x hm).here ?_)
  simp only [seqItemTypes, List.anyM]
  refine wpAny_bind (wpAny_bind (L.here ?_))
  exact wpAny_pure (wpAny_pure h)
theorem acc_sub {value slice : Expr} {key : Value} {ops : List Value} {Q : Value → Shared → Prop} (U : Bs w mg mb B) (x : St B os F s σ) (hm : (a, AccP vs d) ∈ σ) (hs : subscripted slice false (.ref a) key = operate ops (getItem (.ref a) key))
    (h : wpAny (model prg w) A (call (.builtin "list.__getitem__") [.ref a, key]) Q E s) : wpAny (model prg w) A (subscriptTail value slice (.ref a) key) Q E s := by
  unfold subscriptTail
  have L : findIn (frag0.heap_1 w.params) (.ref 178) "__getitem__" = some (some (.builtin "list.__getitem__")) := by k_is
  refine wpAny_bind ?_
  unfold getitemInPython specialOf
  refine wpAny_bind (wpAny_bind ((acc_type U x hm).here ((looks_findIn (x.In U) L).here ?_)))
  refine wpAny_pure (wpAny_bind ?_)
  rw [hs]
  refine wpAny_operating ?_
  unfold getItem
  refine wpAny_holding (wpAny_bind (acc_key U x hm (wpAny_bind (special_bi U x hm L slot_list_getitem.bind (wpAny_mono h (fun v s' z => ?_) fun _ _ z => z)))))
  exact wpAny_pure (wpAny_bind (wpAny_letTemporaryGo (wpAny_pure z)))
theorem acc_slice {c : Addr × (Obj → Prop)} {vl vu : Value} {lo hi : Option Int} {sl : Addr} {Q : Value → Shared → Prop} (U : Bs w mg mb B) (x : St B os F s σ) (hm : (a, AccP vs d) ∈ σ) (hz : vs.size ≤ 1000)
    (hsl : s.heap.IsSliceOf sl vl vu .none) (pl : IsPart vl lo) (pu : IsPart vu hi)
    (h : ∀ q F' s', Le F F' → F' q = some { cls := .type "list", data := .seq (slicePick vs lo hi none) } → St B os F' s' σ → Q (.ref q) s') :
    wpAny (model prg w) A (call (.builtin "list.__getitem__") [.ref a, .ref sl]) Q E s := by
  obtain ⟨n, ea⟩ := acc_get x hm
  obtain ⟨o', hos, hcs, hds⟩ := id hsl
  have hTs : s.TypeIs (.ref sl) "slice" := ⟨o', hos, hcs⟩
  refine call_bi (Bi := Builtin.«list.__getitem__») (owner := "list") (n := "__getitem__") (by decide +kernel) entry_list_getitem (.inr (by decide +kernel)) (by decide +kernel) (acc_list U x hm) (args_list_getitem _ _) ?_
  show wpAny _ _ (Builtin.List.listSubscript? (.ref sl) >>= _) _ _ s
  refine wpAny_bind ?_
  unfold Builtin.List.listSubscript?
  refine wpAny_bind (wpAny_specialOf hTs slice_no_index ?_)
  simp only [Option.isNone_none, if_true]
  refine wpAny_pure ?_
  show wpAny _ _ (typeOf (.ref sl) >>= _) _ _ s
  refine wpAny_bind (wpAny_typeOf hTs ?_)
  rw [if_neg (by decide)]
  rw [listSliceParts_eq]
  refine wpAny_bind (wpAny_bind (wpAny_field hos hds (x := .none) rfl (wpAny_bind (wpAny_listPart .none ?_))))
  rw [if_neg (show ¬ ((rawPart none == rawInt 0) = true) from Bool.false_ne_true)]
  refine wpAny_bind (wpAny_field hos hds (x := vl) rfl (wpAny_bind (wpAny_listPart pl ?_)))
  refine wpAny_bind (wpAny_field hos hds (x := vu) rfl (wpAny_bind (wpAny_listPart pu (wpAny_pure ?_))))
  refine wpAny_bind (m := Builtin.List.listItems (.ref a)) ?_
  unfold Builtin.List.listItems
  refine wpAny_bind (wpAny_seqItems ea (show (accO vs n d).data = .seq vs n from rfl) (wpAny_pure ?_))
  refine wpAny_bind (wpAny_of_eq (sliceIndices_raw lo hi none vs.size (by simp)) ?_)
  obtain ⟨F', le, e, y⟩ := newF (o := { cls := .type "list", data := .seq (slicePick vs lo hi none) }) x rfl (tk := s.toks)
  refine wpAny_bind (wpAny_newObj_type (wpAny_pure ⟨_, rfl, h _ _ _ le e y⟩) (Nat.le_trans (slicePick_size_le vs lo hi none) (by rw [sizeLine_eq]; omega)))
theorem acc_setslice {vl vu : Value} {lo hi : Option Int} {sl q : Addr} {ps ws : Array Value} {Q : Unit → Shared → Prop} (U : Bs w mg mb B) (x : St B os F s σ) (u : Up a (AccP vs d) (AccP ws d) σ σ') (hz : vs.size ≤ 1000) (hp : ps.size ≤ 1000) (hw : ws.size ≤ 1000) (hqa : q ≠ a)
    (hsl : s.heap.IsSliceOf sl vl vu .none) (pl : IsPart vl lo) (pu : IsPart vu hi) (hq : s.heap.IsList q ps)
    (hws : vs.extract 0 (sliceBounds lo hi none vs.size).1.toNat ++ ps ++ vs.extract (max (sliceBounds lo hi none vs.size).1 (sliceBounds lo hi none vs.size).2.1).toNat vs.size = ws)
    (h : ∀ s', St B os F s' σ' → Q () s') :
    wpAny (model prg w) A (setItem (.ref a) (.ref sl) (.ref q)) Q E s := by
  have hm := u.mem
  obtain ⟨n, ea⟩ := acc_get x hm
  obtain ⟨o', hos, hcs, hds⟩ := id hsl
  have hTs : s.TypeIs (.ref sl) "slice" := ⟨o', hos, hcs⟩
  have L : findIn (frag0.heap_1 w.params) (.ref 178) "__setitem__" = some (some (.builtin "list.__setitem__")) := by k_is
  obtain ⟨ol, hol, hcl, nl, hdl⟩ := id hq
  unfold setItem
  refine wpAny_holding (wpAny_bind (acc_key U x hm (wpAny_bind (special_bi U x hm L slot_list_setitem.bind ?_))))
  refine call_bi (Bi := Builtin.«list.__setitem__») (owner := "list") (n := "__setitem__") (by decide +kernel) entry_list_setitem (.inl (by decide +kernel)) (by decide +kernel) (acc_list U x hm) (args_list_setitem _ _ _) ?_
  show wpAny _ _ (Builtin.List.listSubscript? (.ref sl) >>= _) _ _ s
  refine wpAny_bind ?_
  unfold Builtin.List.listSubscript?
  refine wpAny_bind (wpAny_specialOf hTs slice_no_index ?_)
  simp only [Option.isNone_none, if_true]
  refine wpAny_pure ?_
  show wpAny _ _ (typeOf (.ref sl) >>= _) _ _ s
  refine wpAny_bind (wpAny_typeOf hTs ?_)
  rw [if_neg (by decide)]
  rw [listSliceParts_eq]
  refine wpAny_bind (wpAny_bind (wpAny_field hos hds (x := .none) rfl (wpAny_bind (wpAny_listPart .none ?_))))
  rw [if_neg (show ¬ ((rawPart none == rawInt 0) = true) from Bool.false_ne_true)]
  refine wpAny_bind (wpAny_field hos hds (x := vl) rfl (wpAny_bind (wpAny_listPart pl ?_)))
  refine wpAny_bind (wpAny_field hos hds (x := vu) rfl (wpAny_bind (wpAny_listPart pu (wpAny_pure ?_))))
  have hsame : Builtin.List.listSameRef (.ref a) (.ref q) = false := by
    show (a == q) = false
    simp [Ne.symm hqa]
  rw [hsame, if_neg (by decide)]
  refine wpAny_bind (m := Builtin.List.listAllItems (.ref q) _) ?_
  unfold Builtin.List.listAllItems
  refine wpAny_bind (wpAny_typeOf hq.typeIs ?_)
  rw [if_pos (by decide)]
  unfold Builtin.List.listItems
  refine wpAny_bind (wpAny_seqItems hol hdl (wpAny_pure ?_))
  refine wpAny_bind (m := Builtin.List.listItems (.ref a)) ?_
  unfold Builtin.List.listItems
  refine wpAny_bind (wpAny_seqItems ea (show (accO vs n d).data = .seq vs n from rfl) (wpAny_pure ?_))
  refine wpAny_bind (wpAny_of_eq (sliceIndices_raw lo hi none vs.size (by simp)) ?_)
  show wpAny _ _ (if ((sliceBounds lo hi none vs.size).2.2 == 1) = true then _ else _) _ _ _
  rw [if_pos (show ((sliceBounds lo hi none vs.size).2.2 == 1) = true from rfl)]
  refine wpAny_bind (wpAny_rule ?_)
  rw [if_neg (by
    show ¬ (decide (vs.size + ps.size > sizeLine) = true)
    rw [sizeLine_eq]; simp; omega)]
  dsimp only [Builtin.List.listUpdate]
  refine wpAny_bind (acc_update x (f := fun xs => xs.extract 0 (sliceBounds lo hi none vs.size).1.toNat ++ ps ++ xs.extract (max (sliceBounds lo hi none vs.size).1 (sliceBounds lo hi none vs.size).2.1).toNat xs.size) (hws.symm ▸ u) (by rw [hws]; exact hw) fun s' x' => ?_)
  refine wpAny_bind (wpAny_letGo (wpAny_pure ⟨_, rfl, wpAny_pure (h s' x')⟩))
theorem lookup_within (l : List (Str × Value)) : PySem.Within (fun y => l.lookup y) (l.map (·.1)) := by
  intro y hy
  induction l with
  | nil => exact absurd rfl hy
  | cons p r ih =>
    dsimp only at hy
    rw [List.lookup_cons] at hy
    by_cases e : y == p.1
    · rw [beq_iff_eq.mp e]; exact List.mem_cons_self
    · rw [Bool.not_eq_true] at e
      rw [e] at hy
      exact List.mem_cons_of_mem _ (ih hy)
/-- a store to an object's own dict -/
theorem set_attr {C xa dx : Addr} {ox od : Obj} {l l' : List (Str × Value)} {name : Str} {v : Value} {cd : ClassData} {Q : Unit → Shared → Prop} (X : (frag0.heap_1 w.params).In s.heap)
    (gx : s.heap.get? xa = some ox) (hc : ox.cls = .ref C) (hdx : ox.dict = some dx) (gd : s.heap.get? dx = some od) (hl : Exa l od) (hlen : l.length ≤ 900)
    (hcd : clsIn (frag0.heap_1 w.params) C = some cd) (hhas : cd.hasDict = true) (hp : ∀ self, refuseLoop self "__setattr__" cd.mro = pure ()) (hsub : subIn (frag0.heap_1 w.params) (.ref C) (.type "object") = some true)
    (hs : findIn (frag0.heap_1 w.params) (.ref C) "__setattr__" = some (some (.builtin "object.__setattr__"))) (ht : takerIn (frag0.heap_1 w.params) C name = some none)
    (hmap : ∀ y, (if y = name then some v else l.lookup y) = l'.lookup y)
    (h : ∀ h' tk od', Heap.SameBut dx s.heap h' → h'.get? dx = some od' → Exa l' od' → Q () { s with heap := h', toks := tk }) : wpAny (model prg w) A (setAttr (.ref xa) name v) Q E s := by
  have SF := PySem.F.store_object
  have T0 : ∀ {M : Model}, Looks M s.heap (typeOf (.ref xa)) (.ref C) := fun {M} => by rw [← hc]; exact (Looks.ld gx).andThen .now
  unfold setAttr
  refine wpAny_bind (wpAny_mkText (wpAny_bind (wpAny_bind (wpAny_bind (T0 _ _ _ _ (fun _ _ e => e) (looks_findIn X hs _ _ _ _ (fun _ _ e => e) (wpAny_holding ?_)))))))
  rw [SF.slot.bind]
  refine wpAny_bind (wpAny_pure (wpAny_bind (wpAny_call ?_)))
  have sub : Looks (model prg w) s.heap (isInstance (.ref xa) (.type "object")) true := T0.andThen (looks_subIn X hsub)
  refine codeAny_call_builtin SF.slot.plain SF.entry (@check_slot (model prg w) _ _ { s with toks := s.toks + 1 } "object.__setattr__" "object" "__setattr__" (.ref xa) [.str name s.toks, v] [] _ SF.kind SF.split sub (SF.args (.ref xa) (.str name s.toks) v) ?_)
  have hm : Looks (model prg w) s.heap (mroOf (.ref C)) cd.mro := (looks_clsIn X hcd).andThen .now
  obtain ⟨attr, ha, hr⟩ := Option.bind_eq_some_iff.mp ht
  have L3 : Looks (model prg w) s.heap (Builtin.ObjectAttr.storeTaker? attr) none := by
    cases attr with
    | none => exact .now
    | some a =>
      obtain ⟨b, hb, hb'⟩ := Option.map_eq_some_iff.mp hr
      refine (looks_takesIn X hb).andThen ?_
      cases b
      · exact .now
      · cases hb'
  rw [show [Value.ref xa] ++ [Value.str name s.toks, v] = [Value.ref xa, .str name s.toks, v] from rfl, osa_eq, refuse_eq]
  refine wpAny_bind (wpAny_bind (T0 _ _ _ _ (fun _ _ e => e) (wpAny_bind (hm _ _ _ _ (fun _ _ e => e) ?_))))
  rw [hp]
  refine wpAny_pure (wpAny_bind (T0 _ _ _ _ (fun _ _ e => e) (wpAny_bind (looks_findIn X ha _ _ _ _ (fun _ _ e => e) (wpAny_bind (L3 _ _ _ _ (fun _ _ e => e) ?_))))))
  obtain ⟨oc, odi, oda, osl⟩ := ox
  dsimp only at hc hdx
  subst hc hdx
  refine wpAny_bind (wpAny_pure (wpAny_bind (wpAny_bind (wpAny_loadPart gx (wpAny_bind (looks_clsIn X hcd _ _ _ _ (fun _ _ e => e) ?_))))))
  rw [hhas]
  refine wpAny_pure (a := some dx) (wpAny_bind (wpAny_pure (wpAny_bind ?_)))
  obtain ⟨⟨es, ep, e1, e2, e3⟩, es', ep', e1', e4⟩ := hl
  have : es' = es := by rw [e1] at e1'; cases e1'; rfl
  subst this
  have n1 : s.heap.Ns1 dx (fun y => l.lookup y) := ⟨od, es', ep, gd, e1, e2, e4, e3⟩
  refine wpAny_nsSet1 n1 fun h' hn' hsm => ?_
  obtain ⟨oD, esD, epD, hoD, hdD, hcD⟩ := hn'.count (PySem.Within.cons name v (lookup_within l))
  refine wpAny_bind (wpAny_lookBehind hoD (by rw [hdD]; exact pastItsLine_dict (Nat.le_trans hcD (by rw [List.length_cons, List.length_map, sizeLine_eq]; omega))) ?_)
  obtain ⟨o', es2, ep2, f1, f2, f3, f4, f5⟩ := hn'
  refine wpAny_pure ?_
  exact wpAny_pure (wpAny_pure (h _ _ o' hsm f1 ⟨⟨es2, ep2, f2, f3, fun y => (f5 y).trans (hmap y)⟩, es2, ep2, f2, f4⟩))
theorem refuse_acc (self : Value) : refuseLoop self "__setattr__" [.ref 178, .type "list", .type "object"] = pure () := by
  rw [refuseLoop_ref]; kernel_rfl
theorem acc_setsize {j : Int} {tk : Tok} {Q : Unit → Shared → Prop} (U : Bs w mg mb B) (x : St B os F s σ) (hm : (a, AccP vs d) ∈ σ) (u : Up d (IniP i) (IniP j) σ σ') (h : ∀ s', St B os F s' σ' → Q () s') :
    wpAny (model prg w) A (setAttr (.ref a) "_initial_size" (.int j tk)) Q E s := by
  obtain ⟨n, e⟩ := acc_get x hm
  obtain ⟨od, e2, tk0, q⟩ := x.wd.cell _ u.mem
  obtain ⟨cd, hc, hmro, hhas⟩ : ∃ cd, clsIn (frag0.heap_1 w.params) 178 = some cd ∧ cd.mro = [.ref 178, .type "list", .type "object"] ∧ cd.hasDict = true := ⟨_, by k_is, rfl, rfl⟩
  refine set_attr (l' := [("_initial_size", .int j tk)]) (C := 178) (x.In U) e rfl rfl e2 q (by simp) hc hhas (by rw [hmro]; exact refuse_acc) (by k_is) (by k_is) (by k_is) (fun y => ?_) fun h' tk' od' hs g q' => ?_
  · simp only [List.lookup_cons, List.lookup_nil]
    by_cases hy : y = Str.ofString "_initial_size"
    · subst hy; simp
    · have : (y == Str.ofString "_initial_size") = false := by simpa using hy
      simp [hy, this]
  · k_extra "uq"
    exact h _ (x.with_ (x.wd.same u hs ⟨od', g, tk, q'⟩))
theorem lstF {vs : List Value} {M : Model} {Q : Value → Shared → Prop} (x : St B os F s σ) (hz : vs.length ≤ 1000) (h : ∀ a F' s', Le F F' → F' a = some { cls := .type "list", data := .seq vs.toArray } → St B os F' s' σ → Q (.ref a) s') : wpAny M A (newList vs) Q E s := by
  obtain ⟨F', le, e, y⟩ := newF (o := { cls := .type "list", data := .seq vs.toArray }) x rfl (tk := s.toks)
  exact wpAny_newObj_type (h _ _ _ le e y) (by show vs.toArray.size ≤ sizeLine; rw [List.size_toArray, sizeLine_eq]; omega)
theorem from_c {c : Cell} {i0 : Nat} {t0 : Tok} {Q : Value → Shared → Prop} (U : Bs w mg mb B) (x : St B os F s (c :: (a, AccP vs d) :: (d, IniP i) :: σ)) (r : Rm A 5) (hn : vs.size ≤ 1000) (h0 : i0 ≤ vs.size)
    (h : ∀ q F' s', Le F F' → F' q = some { cls := .type "list", data := .seq (vs.toList.drop i0).toArray } → St B os F' s' (c :: (a, AccP (vs.toList.take i0).toArray d) :: (d, IniP i) :: σ) → Q (.ref q) s') :
    wpAny (model prg w) A (call (.ref 130) [.ref a, .int i0 t0]) Q E s := by
  refine wpAny_call ?_
  refine' enterF fPopFrom (binds := [("self", .ref a), ("i", .int i0 t0)]) (keys := ["self", "i"]) U x r ?k2 ?k3 ?k4 ?k5 ?k6 ?k7 ?_ ?c1 ?c2 ?c3
  k_extra "sides"
  intro L s₁ x₁ r₁
  replace x₁ := x₁.swap.perm (.cons _ (.cons _ (.swap _ _ _)))
  clear x
  k_extra "go"
  have x₂ := x₁.pushed { cls := Value.type "slice", data := Data.fields #[Value.int (↑i0) t0, Value.none, Value.none] }
  refine acc_sub U x₂ (by k_extra "memd") rfl (acc_slice (c := c) U x₂ (by k_extra "memd") hn (Heap.IsSliceOf.new ..) (.int _ _) .none fun q F' s' le e x' => ?_)
  clear x₂ x₁
  k_extra "go"
  rename St _ _ _ _ _ => x₁
  refine lstF x₁ (by simp) fun q2 F2 s2 le2 e2 x₂ => ?_
  clear x₁ x'
  k_extra "go"
  have x₃ := x₂.pushed { cls := Value.type "slice", data := Data.fields #[Value.int (↑i0) t0, Value.none, Value.none] }
  refine acc_setslice (ws := (vs.toList.take i0).toArray) (ps := #[]) U x₃ (.tail .head) hn (by simp) (by simp; omega) ?_ (Heap.IsSliceOf.new ..) (.int _ _) .none ⟨_, x₃.wd.fact e2, rfl, _, rfl⟩ ?_ fun s' x' => ?_
  · rintro rfl
    have := x₃.wd.off _ (.tail _ (.head _))
    rw [e2] at this; cases this
  · have b1 : (sliceBounds (some (i0 : Int)) none none vs.size).1 = i0 := by
      simp [sliceBounds]; omega
    have b2 : (sliceBounds (some (i0 : Int)) none none vs.size).2.1 = vs.size := by
      simp [sliceBounds]
    have b3 : (max (i0 : Int) vs.size).toNat = vs.size := by omega
    rw [b1, b2, b3]
    apply Array.ext'
    simp
  clear x₂ x₃
  k_extra "go"
  refine h q _ _ (le.trans le2) ?_ (St.back2 (by assumption))
  rw [le2 _ _ e, slicePick_from _ _ h0]
theorem reset_c {c : Cell} {q : Addr} {ps : Array Value} {Q : Value → Shared → Prop} (U : Bs w mg mb B) (x : St B os F s (c :: (a, AccP vs d) :: (d, IniP i) :: σ)) (r : Rm A 5) (hz : vs.size ≤ 1000) (hn : ps.size ≤ 1000) (hq : F q = some { cls := .type "list", data := .seq ps })
    (h : ∀ F' s', Le F F' → St B os F' s' (c :: (a, AccP ps d) :: (d, IniP 0) :: σ) → Q .none s') :
    wpAny (model prg w) A (call (.ref 160) [.ref a, .ref q]) Q E s := by
  refine wpAny_call ?_
  refine' enterF fReset (binds := [("self", .ref a), ("startval", .ref q)]) (keys := ["self", "startval"]) U x r ?k2 ?k3 ?k4 ?k5 ?k6 ?k7 ?_ ?c1 ?c2 ?c3
  k_extra "sides"
  intro L s₁ x₁ r₁
  replace x₁ := x₁.swap.perm (.cons _ (.cons _ (.swap _ _ _)))
  clear x
  k_extra "go"
  have x₂ := x₁.pushed { cls := Value.type "slice", data := Data.fields #[Value.none, Value.none, Value.none] }
  refine acc_setslice (ws := ps) (ps := ps) U x₂ (.tail .head) hz hn hn ?_ (Heap.IsSliceOf.new ..) .none .none ⟨_, x₂.wd.fact hq, rfl, _, rfl⟩ ?_ fun s' x' => ?_
  · rintro rfl
    have := x₂.wd.off _ (.tail _ (.head _))
    rw [hq] at this; cases this
  · simp [sliceBounds]
  clear x₂ x₁
  k_extra "go"
  rename St _ _ _ _ _ => x₁
  refine acc_setsize U x₁ (by k_extra "memd") (.tail (.tail .head)) fun s' x' => ?_
  k_extra "go"
  k_extra "uq"
  exact h _ _ (Le.refl _) (St.back2 x')
end
end
theorem linesM15 : True := by
  (k_with "newList" => (refine' Mine.lstF (by k_extra "stk") (by k_extra "simp") ?_; intros))
  (k_with "call builtin:len" => (refine' Mine.acc_len (by k_extra "asm") (by k_extra "stk") (by k_extra "rm") (by k_extra "items") (by k_extra "asm") (by k_extra "asm") (by k_extra "asm") (by k_extra "asm") ?_; intros))
  (k_with "call ref" => ((with_reducible show wpAny _ _ (call (Value.ref 160) _ _) _ _ _); (show wpAny _ _ (call (Value.ref 160) [Value.ref _, Value.ref _] _) _ _ _); refine' Mine.reset_c (by k_extra "asm") (by k_extra "stk") (by k_extra "rm") (by k_extra "asm") (by k_extra "asm") (by k_extra "fact") ?_; intros))
  trivial
section
section
variable {w : World} {mg mb : Str → Option Value} {B : Heap} {os : OsState} {F : Facts} {s : Shared} {σ σ' : List Cell} {A : Around} {k : Nat} {E : Value → Shared → Prop} {a d : Addr} {vs : Array Value} {v : Value} {i : Int}
theorem ownM15a : True := by
  (k_with "eval Name" => (with_unfolding_all (refine' Mine.ldWK (by k_extra "asm") (by k_extra "asm") (by k_extra "kis") ?_); intros))
  (k_with "eval Name" => (with_unfolding_all (refine' Mine.ldW (by k_extra "asm") (by k_extra "mem") ?_); intros))
  trivial
noncomputable def itx (p : Str × Str) : Str := Txt.join "" [p.1, p.2]
noncomputable def accText (its : List (Str × Str)) : Str := Txt.join "" (its.map itx)
theorem str_c {c c2 : Cell} {its : List (Str × Str)} {Q : Value → Shared → Prop} (U : Bs w mg mb B) (x : St B os F s (c :: (a, AccP vs d) :: (d, IniP i) :: c2 :: (147, TabP 96 32) :: σ)) (r : Rm A 5) (hi : Items F vs its) (hs : Short its) (hn : vs.size ≤ 1000)
    (h : ∀ tk F' s', Le F F' → St B os F' s' (c :: (a, AccP vs d) :: (d, IniP i) :: c2 :: (147, TabP 96 32) :: σ) → Q (.str (accText its) tk) s') :
    wpAny (model prg w) A (call (.ref 152) [.ref a]) Q E s := by
  refine wpAny_call ?_
  refine' enterF fStr (binds := [("self", .ref a)]) (keys := ["self"]) U x r ?k2 ?k3 ?k4 ?k5 ?k6 ?k7 ?_ ?c1 ?c2 ?c3
  k_extra "sides"
  intro L s₁ x₁ r₁
  replace x₁ := x₁.swap.perm (.cons _ (.cons _ (.swap _ _ _)))
  clear x
  k_extra "go"
  obtain ⟨Ts, va, vb, i1, i2, i3⟩ := hi.choose
  refine gen_acc (a := a) (d := d) (vs := vs) (va := va) (vb := vb) (Ts := Ts) (c := 151) (P := 147) (cl := []) (Fv := fun j y => ∃ t, y = .str ((its[j]?.map itx).getD "") t) U x₁ (r₁.le (by decide)) (by k_extra "memd") (by k_extra "memd") cStr rfl (by decide) (by k_extra "mem") i1 i2 rfl rfl (by decide) rfl rfl rfl (by decide) rfl rfl rfl rfl (fun j hj C code A' E' s₂ hh W => ?_) (fun g s' x' G => ?_) (fun _ => rfl)
  · obtain ⟨q, u1, u2, e0, e1, e2⟩ := i3 j hj
    have hq := hs q (List.mem_of_getElem? e0)
    have hit : itx q = (its[j]?.map itx).getD "" := by rw [e0]; rfl
    rw [e1, e2] at W
    have W' : Wd B F s₂.heap [((genEnv
          { kind := ScopeKind.function,
            names := [(Str.ofString ".0", NameKind.local), (Str.ofString "fws", NameKind.local), (Str.ofString "part", NameKind.local), (Str.ofString "EMPTYSTRING", NameKind.globalImplicit)],
            isGenerator := true, isCoroutine := false }
          [] C code builtinsNs (callEnv fStr.fd L 152)).locals, Loc [((Str.ofString "fws"), Value.str q.1 u1), ((Str.ofString "part"), Value.str q.2 u2)])] := W
    clear W
    k_extra "go"
    refine wpAny_newObj_type ?_ (by show 2 ≤ sizeLine; rw [sizeLine_eq]; decide)
    k_extra "go"
    refine PyProof.Rows.join_tuple (items := #[Value.str q.1 u1, .str q.2 u2]) ⟨_, Heap.get?_push_size _ rfl, rfl, _, rfl⟩ (.cons _ _ (.cons _ _ .nil)) (by
      have : (Str.ofString "").length = 0 := by decide
      rw [this]; simp; omega) fun t' k => ⟨⟨t', by rw [← hit]; rfl⟩, _, k, rfl, fun _ _ e => Heap.get?_push_of_some _ e⟩
  · k_extra "go"
    obtain ⟨fp, wr, gi, Sg, W, G0, G1, G2, G3, G4⟩ := G
    refine SC.joinGen W.in4_2 G1 G0 G3 G2 (fun j v ⟨t, e⟩ => ⟨_, t, e⟩) (fun s₃ l m hl => ?_) (by rw [sizeLine_eq]; omega)
    have e : l.map (·.1) = its.map itx := by
      apply List.ext_getElem?
      intro j
      have hz : l.length = vs.size := by have := hl.1; simpa [strValues] using this
      by_cases hj : j < l.length
      · have := hl.2 j (.str l[j].1 l[j].2) (by simp [strValues, hj])
        obtain ⟨t, e⟩ := this
        have hj' : j < its.length := by have := hi.n; omega
        simp only [List.getElem?_map, List.getElem?_eq_getElem hj, List.getElem?_eq_getElem hj', Option.map_some, Option.getD_some, Value.str.injEq] at e ⊢
        exact congrArg some e.1
      · have hj' : ¬ j < its.length := by have := hi.n; omega
        simp [List.getElem?_eq_none (Nat.le_of_not_lt hj), List.getElem?_eq_none (Nat.le_of_not_lt hj')]
    rw [e]
    refine ⟨joinOk_of ?_, fun t' k => ?_⟩
    · have : (Str.ofString "").length = 0 := by decide
      rw [this, Nat.mul_zero, Nat.add_zero]
      have hb : ∀ l : List (Str × Str), Short l → ((l.map itx).map (·.length)).sum ≤ l.length * 1000 := by
        intro l
        induction l with
        | nil => intro _; simp
        | cons p r ih =>
          intro hl
          have h1 := hl p (.head _)
          have h2 := ih fun q hq => hl q (.tail _ hq)
          have h3 : (itx p).length ≤ p.1.length + p.2.length := by
            show (PySem.Builtin.Str.glued _ _).length ≤ _
            rw [StrLaws.glued_eq_join]
            refine Nat.le_trans (StrLaws.join_length_le _ _) ?_
            rw [this]; simp
          simp only [List.map_cons, List.sum_cons, List.length_cons]
          omega
      have := hb its hs
      have := hi.n
      omega
    · k_extra "uq"
      exact h _ _ _ (Le.refl _) (St.back2 ((St.moved x' G4 m).toks))
/-- str(self) -/
theorem acc_str {c c2 : Cell} {its : List (Str × Str)} {Q : Value → Shared → Prop} (U : Bs w mg mb B) (x : St B os F s (c :: (a, AccP vs d) :: (d, IniP i) :: c2 :: (147, TabP 96 32) :: σ)) (r : Rm A 8) (hi : Items F vs its) (hs : Short its) (hn : vs.size ≤ 1000)
    (h : ∀ tk F' s', Le F F' → St B os F' s' (c :: (a, AccP vs d) :: (d, IniP i) :: c2 :: (147, TabP 96 32) :: σ) → Q (.str (accText its) tk) s') :
    wpAny (model prg w) A (call (.type "str") [.ref a]) Q E s := by
  obtain ⟨n, od, tk, I, q'⟩ := acc_inst x (a := a) (vs := vs) (d := d) (i := i) (by k_extra "memd") (by k_extra "memd")
  have X := x.In U
  refine callType_newIn (S := fun A' R s' => wpAny (model prg w) A'.in1 (Builtin.Str.strOf (.ref a)) (fun r s' => R (.ok (.ret r)) s') (fun e s' => R (.error e) s') s') PySem.F.called_str (by decide) (PySem.F.typeCall_str_1 _) (PySem.F.newCall_str_1 _) (fun obj => PySem.F.args_object_init_2 obj _) PySem.F.entry_str_new
    (.of_wp fun A' R s' hh => ?_) ?_
  · rw [str_new_tree]
    refine wpAny_bind (wpAny_pure ?_)
    refine wpAny_bind (wpAny_of_eq isSubtype_str_str ?_)
    exact wpAny_bind (wpAny_mono hh (fun r s' h' => wpAny_pure ⟨_, rfl, h'⟩) fun _ _ e => e)
  · unfold Builtin.Str.strOf
    rw [if_neg (by exact Bool.false_ne_true)]
    have hu : A.in1.in1.units < cLine := (Rm.in1 (Rm.in1 (r.le (by decide) : Rm A 7))).units
    refine wpAny_bind (wpAny_cRoomFor hu ?_)
    refine wpAny_bind (m := callSpecial? (.ref a) (Str.ofString "__str__")) (special_fn (f := 152) X I (by k_is) (by k_is) (str_c U x (Rm.in1 (Rm.in1 (r.le (by decide) : Rm A 7))) hi hs hn fun tk F' s' le x' => ?_))
    refine wpAny_bind (wpAny_pure ?_)
    rw [if_neg (by simp)]
    exact wpAny_pure ⟨typeIs_str _ _ _, h _ _ _ le x'⟩
end
end
theorem backM15 : True := by
  (k_with "eval Name" => (with_unfolding_all (refine' Mine.ldK (by k_extra "asm") (by k_extra "stk") (by k_extra "kis") ?_); intros))
  (k_with "eval Name" => (with_unfolding_all (refine' Mine.ldB (by k_extra "asm") (by k_extra "stk") (by k_extra "kis") (by k_extra "bb") (by k_extra "deck") ?_); intros))
  (k_with "eval Name" => (with_unfolding_all (refine' Mine.ld (by k_extra "stk") (by k_extra "mem") ?_); intros))
  trivial
theorem linesM16 : True := by
  (k_with "call type:str" => (refine' Mine.acc_str (by k_extra "asm") (by k_extra "stk") (by k_extra "rm") (by k_extra "items") (by k_extra "asm") (by k_extra "asm") ?_; intros))
  (k_with "items" => (first | assumption | exact Mine.Items.el (by assumption) (by k_extra "items")))
  trivial
section
section
variable {w : World} {mg mb : Str → Option Value} {B : Heap} {os : OsState} {F : Facts} {s : Shared} {σ σ' : List Cell} {A : Around} {k : Nat} {E : Value → Shared → Prop} {a d : Addr} {vs : Array Value} {v : Value} {i : Int}
theorem St.back4 {L : Addr} {P : Obj → Prop} {a d t u c : Cell} (x : St B os F s ((L, P) :: a :: d :: t :: u :: c :: σ)) : St B os F s (c :: a :: d :: t :: u :: σ) :=
  (x.drop .head).perm (List.perm_middle (l₁ := [_, _, _, _]) (l₂ := σ))
theorem St.rot4 {l a d t u c : Cell} (x : St B os F s (l :: c :: a :: d :: t :: u :: σ)) : St B os F s (l :: a :: d :: t :: u :: c :: σ) :=
  x.perm (.cons _ (List.perm_middle (l₁ := [_, _, _, _]) (l₂ := σ)).symm)
theorem acc_truthy {c : Cell} {its : List (Str × Str)} {Q : Bool → Shared → Prop} (U : Bs w mg mb B) (x : St B os F s (c :: (a, AccP vs d) :: (d, IniP i) :: (140, TabP 93 19) :: σ)) (r : Rm A 6) (hi : Items F vs its) (hs : Short its) (hn : vs.size ≤ 1000) (h0 : 0 ≤ i) (h1 : i ≤ 1000)
    (h : ∀ F' s', Le F F' → St B os F' s' (c :: (a, AccP vs d) :: (d, IniP i) :: (140, TabP 93 19) :: σ) → Q (i + tot its != 0) s') :
    wpAny (model prg w) A (truthy (.ref a)) Q E s := by
  obtain ⟨n, od, tk, I, q'⟩ := acc_inst x (a := a) (vs := vs) (d := d) (i := i) (by k_extra "memd") (by k_extra "memd")
  have X := x.In U
  have hz := hi.n ▸ tot_le hs
  have e1 : findIn (frag0.heap_1 w.params) (.ref 178) "__bool__" = some none := by k_is
  have e2 : findIn (frag0.heap_1 w.params) (.ref 178) "__len__" = some (some (.ref 145)) := by k_is
  unfold truthy
  refine wpAny_bind (m := callSpecial? (.ref a) (Str.ofString "__bool__")) (wpAny_bind (wpAny_bind (I.type.here ((looks_findIn X e1).here (wpAny_pure ?_)))))
  refine wpAny_bind (wpAny_bind (I.type.here ((looks_findIn X e2).here ?_)))
  show wpAny _ _ (if (some (Value.ref 145)).isNone = true then _ else _) _ _ _
  rw [if_neg (by simp)]
  refine wpAny_bind (wpAny_runValue (codeAny_builtin entry_len ?_))
  rw [Around.under_plainId plain_len]
  unfold Builtin.«len»
  refine wpAny_bind (m := oneArg "len" _) (wpAny_pure ?_)
  refine wpAny_bind (m := callSpecial? (.ref a) (Str.ofString "__len__")) (special_fn (f := 145) X I e2 (by k_is) (len_c U x (r.le (by decide)).in1 hi hs fun tk F' s' le x' => ?_))
  refine wpAny_bind (wpAny_holding (wpAny_pure ?_))
  refine wpAny_bind (wpAny_letGo ?_)
  show wpAny _ _ (if i + (tot its : Int) < 0 then _ else _) _ _ _
  rw [if_neg (by omega)]
  show wpAny _ _ (if i + (tot its : Int) ≥ 2 ^ 63 then _ else _) _ _ _
  rw [if_neg (by omega)]
  exact wpAny_bind (wpAny_mkInt (wpAny_pure (wpAny_pure (h _ _ le x'.toks))))
theorem reset0_c {c : Cell} {Q : Value → Shared → Prop} (U : Bs w mg mb B) (x : St B os F s (c :: (a, AccP vs d) :: (d, IniP i) :: σ)) (r : Rm A 5) (hz : vs.size ≤ 1000)
    (h : ∀ F' s', Le F F' → St B os F' s' (c :: (a, AccP #[] d) :: (d, IniP 0) :: σ) → Q .none s') :
    wpAny (model prg w) A (call (.ref 160) [.ref a]) Q E s := by
  refine wpAny_call ?_
  refine' enterF fReset (binds := [("self", .ref a), ("startval", .none)]) (keys := ["self", "startval"]) U x r ?k2 ?k3 ?k4 ?k5 ?k6 ?k7 ?_ ?c1 ?c2 ?c3
  k_extra "sides"
  intro L s₁ x₁ r₁
  replace x₁ := x₁.swap.perm (.cons _ (.cons _ (.swap _ _ _)))
  clear x
  k_extra "go"
  rename St _ _ _ _ _ => x₁
  rename (_ = some _) => e
  have x₂ := x₁.pushed { cls := Value.type "slice", data := Data.fields #[Value.none, Value.none, Value.none] }
  refine acc_setslice (ws := #[]) (ps := #[]) U x₂ (.tail .head) hz (by simp) (by simp) ?_ (Heap.IsSliceOf.new ..) .none .none ⟨_, x₂.wd.fact e, rfl, _, rfl⟩ ?_ fun s' x' => ?_
  · rintro rfl
    have := x₂.wd.off _ (.tail _ (.head _))
    rw [e] at this; cases this
  · simp [sliceBounds]
  clear x₂ x₁
  k_extra "go"
  rename St _ _ _ _ _ => x₁
  refine acc_setsize U x₁ (by k_extra "memd") (.tail (.tail .head)) fun s' x' => ?_
  k_extra "go"
  k_extra "uq"
  exact h _ _ (by k_extra "le") (St.back2 x')
theorem onlyws_c {c : Cell} {its : List (Str × Str)} {Q : Value → Shared → Prop} (U : Bs w mg mb B) (x : St B os F s (c :: (a, AccP vs d) :: (d, IniP i) :: (140, TabP 93 19) :: (147, TabP 96 32) :: σ)) (r : Rm A 9) (hi : Items F vs its) (hs : Short its) (hn : vs.size ≤ 1000) (h0 : 0 ≤ i) (h1 : i ≤ 1000)
    (hp : 0 < i + tot its) (hsp : i = 0 → Txt.isspace (accText its) = false)
    (h : ∀ F' s', Le F F' → St B os F' s' (c :: (a, AccP vs d) :: (d, IniP i) :: (140, TabP 93 19) :: (147, TabP 96 32) :: σ) → Q (.bool false) s') :
    wpAny (model prg w) A (call (.ref 167) [.ref a]) Q E s := by
  refine wpAny_call ?_
  refine' enterF fOnlyws (binds := [("self", .ref a)]) (keys := ["self"]) U x r ?k2 ?k3 ?k4 ?k5 ?k6 ?k7 ?_ ?c1 ?c2 ?c3
  k_extra "sides"
  intro L s₁ x₁ r₁
  replace x₁ := x₁.rot4
  clear x
  k_extra "go"
  · rename St _ _ _ _ _ => x₁
    rename (i = 0) => hi0
    refine acc_truthy U x₁ (by k_extra "rm") hi hs hn h0 h1 fun F' s' le x' => ?_
    rw [show (i + (tot its : Int) != 0) = true from by simp; omega]
    clear x₁
    k_extra "go"
    rw [hsp hi0]
    (refine' (h _ _) ?leDn (St.back4 ?xDn); (case xDn => assumption); (case leDn => k_extra "le"))
  · rename (i ≠ 0) => hi0
    show Q (.bool (i == 0)) _
    rw [show (i == 0) = false from by simpa using hi0]
    (refine' (h _ _) ?leDn (St.back4 ?xDn); (case xDn => assumption); (case leDn => k_extra "le"))
end
end
theorem linesM17 : True := by
  (k_with "call ref" => ((with_reducible show wpAny _ _ (call (Value.ref 167) _) _ _ _); refine' Mine.onlyws_c (by k_extra "asm") (by k_extra "stk") (by k_extra "rm") (by k_extra "items") (by k_extra "asm") (by k_extra "asm") (by k_extra "asm") (by k_extra "asm") (by k_extra "asm") (by k_extra "asm") ?_; intros))
  (k_with "call ref" => ((with_reducible show wpAny _ _ (call (Value.ref 160) _ _) _ _ _); (show wpAny _ _ (call (Value.ref 160) [Value.ref _] _) _ _ _); refine' Mine.reset0_c (by k_extra "asm") (by k_extra "stk") (by k_extra "rm") (by k_extra "asm") ?_; intros))
  trivial
section
/-- the formatter, once made -/
noncomputable def Fmt (F : Facts) (m : Addr) (M : Int) (sg : Str) (ll a : Addr) : Prop := ∃ md od t1 t2 t3 t4, F m = some ⟨.ref 94, some md, .plain, #[]⟩ ∧ F md = some od ∧
  Exa [("_maxlen", .int M t1), ("_continuation_ws", .str "\t" t2), ("_continuation_ws_len", .int 1 t3), ("_splitchars", .str sg t4), ("_lines", .ref ll), ("_current_line", .ref a)] od
/-- a list of texts -/
noncomputable def LinP (ts : List Str) (o : Obj) : Prop := ∃ n vs, o = { cls := .type "list", data := .seq vs n } ∧ StrsAre vs.toList ts
theorem Fmt.le {F F' : Facts} {m ll a : Addr} {M : Int} {sg : Str} (f : Fmt F m M sg ll a) (le : Le F F') : Fmt F' m M sg ll a :=
  let ⟨md, od, t1, t2, t3, t4, e1, e2, e3⟩ := f; ⟨md, od, t1, t2, t3, t4, le _ _ e1, le _ _ e2, e3⟩
theorem Fmt.el {F F' : Facts} {m ll a : Addr} {M : Int} {sg : Str} (le : Le F F') (f : Fmt F m M sg ll a) : Fmt F' m M sg ll a := f.le le
theorem strsAre_snoc {vs : List Value} {ts : List Str} {y : Str} {t : Tok} (h : StrsAre vs ts) : StrsAre (vs ++ [.str y t]) (ts ++ [y]) := by
  induction h with
  | nil => exact .cons _ _ .nil
  | cons y' t' _ ih => exact .cons _ _ ih
section
variable {w : World} {mg mb : Str → Option Value} {B : Heap} {os : OsState} {F : Facts} {s : Shared} {σ σ' : List Cell} {A : Around} {k : Nat} {E : Value → Shared → Prop} {a d m ll : Addr} {vs : Array Value} {v : Value} {i M : Int} {sg : Str}
theorem St.back5 {L : Addr} {P : Obj → Prop} {a d t u l c : Cell} (x : St B os F s ((L, P) :: a :: d :: t :: u :: l :: c :: σ)) : St B os F s (c :: a :: d :: t :: u :: l :: σ) :=
  (x.drop .head).perm (List.perm_middle (l₁ := [_, _, _, _, _]) (l₂ := σ))
theorem St.rot5 {l a d t u z c : Cell} (x : St B os F s (l :: c :: a :: d :: t :: u :: z :: σ)) : St B os F s (l :: a :: d :: t :: u :: z :: c :: σ) :=
  x.perm (.cons _ (List.perm_middle (l₁ := [_, _, _, _, _]) (l₂ := σ)).symm)
theorem fmt_inst (x : St B os F s σ) (f : Fmt F m M sg ll a) : ∃ md od t1 t2 t3 t4, InstAt s.heap m ⟨.ref 94, some md, .plain, #[]⟩ 94 (some od) ∧
    Exa [("_maxlen", .int M t1), ("_continuation_ws", .str "\t" t2), ("_continuation_ws_len", .int 1 t3), ("_splitchars", .str sg t4), ("_lines", .ref ll), ("_current_line", .ref a)] od := by
  obtain ⟨md, od, t1, t2, t3, t4, e1, e2, e3⟩ := f
  exact ⟨md, od, t1, t2, t3, t4, ⟨x.wd.fact e1, rfl, rfl, x.wd.fact e2⟩, e3⟩
theorem fmt_get {ex : Bool} {name : Str} {Q : Value → Shared → Prop} (U : Bs w mg mb B) (x : St B os F s σ) (f : Fmt F m M sg ll a) (hn : findIn (frag0.heap_1 w.params) (.ref 94) name = some none)
    (hv : ∀ t1 t2 t3 t4, List.lookup name [(("_maxlen" : Str), Value.int M t1), ("_continuation_ws", .str "\t" t2), ("_continuation_ws_len", .int 1 t3), ("_splitchars", .str sg t4), ("_lines", .ref ll), ("_current_line", .ref a)] = some v)
    (hh : handedIn v = true)
    (q : ∀ s', St B os F s' σ → Q v s') : wpAny (model prg w) A (getAttr (.ref m) name ex) Q E s := by
  obtain ⟨md, od, t1, t2, t3, t4, I, e⟩ := fmt_inst x f
  exact get_value (x.In U) I (by k_is) (findObj_has (by k_is) hn ((lookIn_exa e).trans (congrArg some (hv t1 t2 t3 t4)))) hh (q _ x.toks)
theorem fmt_m {name : Str} {fn : Addr} {pl : Sem Bool} {Q : Value × List Value → Shared → Prop} (U : Bs w mg mb B) (x : St B os F s σ) (f : Fmt F m M sg ll a) (hf : findIn (frag0.heap_1 w.params) (.ref 94) name = some (some (.ref fn))) (ht : typeIn (frag0.heap_1 w.params) (.ref fn) = some (.type "function"))
    (hn : ∀ t1 t2 t3 t4, List.lookup name [(("_maxlen" : Str), Value.int M t1), ("_continuation_ws", .str "\t" t2), ("_continuation_ws_len", .int 1 t3), ("_splitchars", .str sg t4), ("_lines", .ref ll), ("_current_line", .ref a)] = none)
    (q : Q (.ref fn, [.ref m]) s) : wpAny (model prg w) A (getMethod (.ref m) name pl) Q E s := by
  obtain ⟨md, od, t1, t2, t3, t4, I, e⟩ := fmt_inst x f
  refine method_fn (x.In U) I (by k_is) (by k_is) hf ht ?_ q
  show (lookIn name od).map _ = _
  rw [lookIn_exa e, hn]; rfl
theorem fmt_lines {ex : Bool} {Q : Value → Shared → Prop} (U : Bs w mg mb B) (x : St B os F s σ) (f : Fmt F m M sg ll a) (q : ∀ s', St B os F s' σ → Q (.ref ll) s') : wpAny (model prg w) A (getAttr (.ref m) "_lines" ex) Q E s :=
  fmt_get U x f (by k_is) (by intro _ _ _ _; kernel_rfl) rfl q
theorem fmt_cur {ex : Bool} {Q : Value → Shared → Prop} (U : Bs w mg mb B) (x : St B os F s σ) (f : Fmt F m M sg ll a) (q : ∀ s', St B os F s' σ → Q (.ref a) s') : wpAny (model prg w) A (getAttr (.ref m) "_current_line" ex) Q E s :=
  fmt_get U x f (by k_is) (by intro _ _ _ _; kernel_rfl) rfl q
theorem fmt_max {ex : Bool} {Q : Value → Shared → Prop} (U : Bs w mg mb B) (x : St B os F s σ) (f : Fmt F m M sg ll a) (q : ∀ t s', St B os F s' σ → Q (.int M t) s') : wpAny (model prg w) A (getAttr (.ref m) "_maxlen" ex) Q E s := by
  obtain ⟨md, od, t1, t2, t3, t4, I, e⟩ := fmt_inst x f
  exact get_value (x.In U) I (by k_is) (findObj_has (by k_is) (by k_is) ((lookIn_exa e).trans (congrArg some (by kernel_rfl)))) rfl (q t1 _ x.toks)
theorem fmt_split {ex : Bool} {Q : Value → Shared → Prop} (U : Bs w mg mb B) (x : St B os F s σ) (f : Fmt F m M sg ll a) (q : ∀ t s', St B os F s' σ → Q (.str sg t) s') : wpAny (model prg w) A (getAttr (.ref m) "_splitchars" ex) Q E s := by
  obtain ⟨md, od, t1, t2, t3, t4, I, e⟩ := fmt_inst x f
  exact get_value (x.In U) I (by k_is) (findObj_has (by k_is) (by k_is) ((lookIn_exa e).trans (congrArg some (by kernel_rfl)))) rfl (q t4 _ x.toks)
theorem fmt_newline {pl : Sem Bool} {Q : Value × List Value → Shared → Prop} (U : Bs w mg mb B) (x : St B os F s σ) (f : Fmt F m M sg ll a) (q : Q (.ref 56, [.ref m]) s) : wpAny (model prg w) A (getMethod (.ref m) "newline" pl) Q E s :=
  fmt_m U x f (by k_is) (by k_is) (by intro _ _ _ _; kernel_rfl) q
theorem fmt_str {pl : Sem Bool} {Q : Value × List Value → Shared → Prop} (U : Bs w mg mb B) (x : St B os F s σ) (f : Fmt F m M sg ll a) (q : Q (.ref 42, [.ref m]) s) : wpAny (model prg w) A (getMethod (.ref m) "_str" pl) Q E s :=
  fmt_m U x f (by k_is) (by k_is) (by intro _ _ _ _; kernel_rfl) q
theorem fmt_chunk {pl : Sem Bool} {Q : Value × List Value → Shared → Prop} (U : Bs w mg mb B) (x : St B os F s σ) (f : Fmt F m M sg ll a) (q : Q (.ref 91, [.ref m]) s) : wpAny (model prg w) A (getMethod (.ref m) "_append_chunk" pl) Q E s :=
  fmt_m U x f (by k_is) (by k_is) (by intro _ _ _ _; kernel_rfl) q
theorem lin_m {ts : List Str} {pl : Sem Bool} {Q : Value × List Value → Shared → Prop} (x : St B os F s σ) (u : (ll, LinP ts) ∈ σ) (q : Q (.builtin "list.append", [.ref ll]) s) : wpAny (model prg w) A (getMethod (.ref ll) "append" pl) Q E s := by
  obtain ⟨o, e, n, us, rfl, hs⟩ := x.wd.cell _ u
  exact getMethod_list_append e rfl rfl q
theorem lin_append {ts : List Str} {y : Str} {t : Tok} {Q : Value → Shared → Prop} (x : St B os F s σ) (u : Up ll (LinP ts) (LinP (ts ++ [y])) σ σ') (hz : ts.length < 1000) (h : ∀ s', St B os F s' σ' → Q .none s') :
    wpAny (model prg w) A (call (.builtin "list.append") [.ref ll, .str y t]) Q E s := by
  obtain ⟨o, e, n, us, rfl, hs⟩ := x.wd.cell _ u.mem
  have hlen : us.size = ts.length := by
    have : ∀ (l : List Value) (ts : List Str), StrsAre l ts → l.length = ts.length := by
      intro l ts h
      induction h with
      | nil => rfl
      | cons _ _ _ ih => simp [ih]
    simpa using this _ _ hs
  refine wpAny_call_entry slot_list_append ⟨_, e, rfl⟩ entry_list_append ?_ (args_list_append _ _)
  show wpAny _ _ (updateSeq ll (·.push _) >>= fun _ => ret .none) _ _ s
  refine wpAny_bind (wpAny_updateSeq e rfl (wpAny_pure ⟨.none, rfl, ?_⟩) (by rw [sizeLine_eq]; omega))
  obtain ⟨n', hd'⟩ := Obj.data_mapSeq (o := { cls := .type "list", data := .seq us n }) (xs := us) (n := n) rfl (·.push (.str y t))
  k_extra "uq"
  exact h _ (x.with_ (x.wd.same u (Heap.SameBut.update ..) ⟨_, Heap.get?_update_self _ e (Obj.isFreed_of_seq hd'), _, us.push (.str y t), rfl, by rw [Array.toList_push]; exact strsAre_snoc hs⟩))
end
end
theorem linesM18 : True := by
  (k_with "fmt" => (first | assumption | exact Mine.Fmt.el (by assumption) (by k_extra "fmt")))
  (k_with "getAttr ref" => ((with_reducible show wpAny _ _ (getAttr _ (Str.ofString "_lines") _) _ _ _); refine' Mine.fmt_lines (by k_extra "asm") (by k_extra "stk") (by k_extra "fmt") ?_; intros))
  (k_with "getAttr ref" => ((with_reducible show wpAny _ _ (getAttr _ (Str.ofString "_current_line") _) _ _ _); refine' Mine.fmt_cur (by k_extra "asm") (by k_extra "stk") (by k_extra "fmt") ?_; intros))
  (k_with "getAttr ref" => ((with_reducible show wpAny _ _ (getAttr _ (Str.ofString "_maxlen") _) _ _ _); refine' Mine.fmt_max (by k_extra "asm") (by k_extra "stk") (by k_extra "fmt") ?_; intros))
  (k_with "getAttr ref" => ((with_reducible show wpAny _ _ (getAttr _ (Str.ofString "_splitchars") _) _ _ _); refine' Mine.fmt_split (by k_extra "asm") (by k_extra "stk") (by k_extra "fmt") ?_; intros))
  (k_with "getMethod ref" => ((with_reducible show wpAny _ _ (getMethod _ (Str.ofString "newline") _) _ _ _); refine' Mine.fmt_newline (by k_extra "asm") (by k_extra "stk") (by k_extra "fmt") ?_; intros))
  (k_with "getMethod ref" => ((with_reducible show wpAny _ _ (getMethod _ (Str.ofString "_str") _) _ _ _); refine' Mine.fmt_str (by k_extra "asm") (by k_extra "stk") (by k_extra "fmt") ?_; intros))
  (k_with "getMethod ref" => ((with_reducible show wpAny _ _ (getMethod _ (Str.ofString "_append_chunk") _) _ _ _); refine' Mine.fmt_chunk (by k_extra "asm") (by k_extra "stk") (by k_extra "fmt") ?_; intros))
  (k_with "call builtin:list.append" => (refine' Mine.lin_append (by k_extra "stk") (by k_extra "up") (by k_extra "aom") ?_; intros))
  (k_with "getMethod ref" => ((with_reducible show wpAny _ _ (getMethod _ (Str.ofString "append") _) _ _ _); refine' Mine.lin_m (by k_extra "stk") (by k_extra "memd") ?_; intros))
  trivial
section
section
variable {w : World} {mg mb : Str → Option Value} {B : Heap} {os : OsState} {F : Facts} {s : Shared} {σ σ' : List Cell} {A : Around} {k : Nat} {E : Value → Shared → Prop} {a d m ll : Addr} {vs : Array Value} {v : Value} {i M : Int} {sg : Str}
theorem Items.split {its : List (Str × Str)} {p : Str × Str} (x : Items F vs (its ++ [p])) : ∃ vs' v, vs = vs'.push v ∧ Items F vs' its ∧ ItemF F v p := by
  have hz : 0 < vs.size := by rw [x.n]; simp
  obtain ⟨v, h1, h2⟩ := x.at_ its.length p (by simp)
  have hs : vs.size = its.length + 1 := by rw [x.n]; simp
  refine ⟨vs.pop, v, ?_, ⟨by simp [hs], fun j q e => ?_⟩, h2⟩
  · apply Array.ext
    · simp; omega
    · intro j hj hj'
      by_cases e : j < vs.pop.size
      · rw [Array.getElem_push_lt e]; simp
      · have : j = its.length := by rw [Array.size_pop] at e; omega
        subst this
        have hl : its.length < vs.size := by omega
        rw [Array.getElem?_eq_getElem hl] at h1
        cases h1
        rw [Array.getElem_push]
        rw [dif_neg (by rw [Array.size_pop]; omega)]
  · have hj := (List.getElem?_eq_some_iff.mp e).1
    obtain ⟨u, e1, e2⟩ := x.at_ j q (by rw [List.getElem?_append_left hj]; exact e)
    refine ⟨u, ?_, e2⟩
    rw [← e1, Array.getElem?_pop]
    rw [if_pos (by omega)]
noncomputable def lastP (its : List (Str × Str)) : Str × Str := its.getLastD ("", "")
noncomputable def Lay2 (p : Str × Str) : Prop := (PyData.tuple [.str p.1, .str p.2]).layable0 = true
theorem pop_e {c : Cell} {its : List (Str × Str)} {Q : Value → Shared → Prop} (U : Bs w mg mb B) (x : St B os F s (c :: (a, AccP vs d) :: (d, IniP i) :: σ)) (r : Rm A 7) (hi : Items F vs its) (hz : vs.size ≤ 1000)
    (h : ∀ t u1 u2 ws F' s', Le F F' → F' t = some (tupO [.str (lastP its).1 u1, .str (lastP its).2 u2]) → Items F' ws its.dropLast → ws.size ≤ vs.size → ws.size < 1000 → St B os F' s' (c :: (a, AccP ws d) :: (d, IniP i) :: σ) → Q (.ref t) s') :
    wpAny (model prg w) A (call (.ref 138) [.ref a]) Q E s := by
  rcases List.eq_nil_or_concat its with rfl | ⟨l, p, rfl⟩
  · have : vs = #[] := Array.eq_empty_of_size_eq_zero hi.n
    subst this
    refine pop_n U x r fun t t1 t2 F' s' le e x' => h t t1 t2 #[] F' s' le e (.nil) (Nat.le_refl _) (by simp) x'
  · rw [List.concat_eq_append] at *
    obtain ⟨vs', v, rfl, hi', t, u1, u2, rfl, e⟩ := hi.split
    rw [Array.size_push] at hz
    refine pop_c U x r (by omega) fun F' s' le x' => h t u1 u2 vs' F' s' le ?_ ?_ (by simp) (by omega) x'
    · rw [le _ _ e]; simp [lastP]
    · simpa using hi'.le le
theorem pair_ne {t t2 : Addr} {x1 x2 y1 y2 : Str} {u1 u2 w1 w2 : Tok} {Q : Value → Shared → Prop} (x : St B os F s σ) (r : Rm A 1) (e1 : F t = some (tupO [.str x1 u1, .str x2 u2])) (e2 : F t2 = some (tupO [.str y1 w1, .str y2 w2])) (h1 : Lay2 (x1, x2)) (h2 : Lay2 (y1, y2)) (hne : ¬ (x1 = y1 ∧ x2 = y2))
    (h : Q (.bool true) s) : wpAny (model prg w) A (compareOp .NotEq (.ref t) (.ref t2)) Q E s := by
  have hu : A.units + 64 < cLine := by have := r.u; show _ < 9900; omega
  refine ne_dataS_same (da := .tuple [.str x1, .str x2]) (db := .tuple [.str y1, .str y2]) (.tuple (x.wd.fact e1) rfl rfl (.cons (.str _ _) (.cons (.str _ _) .nil))) (.tuple (x.wd.fact e2) rfl rfl (.cons (.str _ _) (.cons (.str _ _) .nil))) h1 h2 hu rfl ?_
  have : Spec.same (.tuple [.str x1, .str x2]) (.tuple [.str y1, .str y2]) = false := by
    simp only [Spec.same, Spec.sameAll, Bool.and_true, Bool.and_eq_false_iff, beq_eq_false_iff_ne]
    by_cases q : x1 = y1
    · exact .inr fun q2 => hne ⟨q, q2⟩
    · exact .inl q
  rw [this]; exact h
theorem findObj_fn {K : Frag} {C : Addr} {o : Obj} {name : Str} {av g : Value} (hc : hasDictIn K C = true) (ha : findIn K (.ref C) name = some (some av)) (hg : specialIn K av "__get__" = some (some g)) (ht : takesIn K av = some false) (hl : lookIn name o = some none) (hn : copiedNames.contains name = false) : findObj K C (some o) name = some (.bind g av) := by
  obtain ⟨cd, h1, h2⟩ := any_some hc
  unfold findObj
  rw [h1, Option.bind_some, ha, Option.bind_some]
  (try dsimp only)
  rw [hg, Option.bind_some]
  (try dsimp only)
  rw [ht, Option.bind_some]
  (try dsimp only)
  unfold W.ownOf
  rw [h2, if_pos rfl]
  (try dsimp only)
  rw [hl, Option.bind_some]
  (try dsimp only)
  rw [hn, Bool.false_and, if_neg (by decide)]
/-- a method of the accumulator's own, bound -/
theorem acc_bound {name : Str} {f : Addr} {ex : Bool} {Q : Value → Shared → Prop} (U : Bs w mg mb B) (x : St B os F s σ) (h : (a, AccP vs d) ∈ σ) (hi : (d, IniP i) ∈ σ)
    (hf : findIn (frag0.heap_1 w.params) (.ref 178) name = some (some (.ref f))) (hg : specialIn (frag0.heap_1 w.params) (.ref f) "__get__" = some (some (.builtin "function.__get__"))) (ht : takesIn (frag0.heap_1 w.params) (.ref f) = some false) (hty : typeIn (frag0.heap_1 w.params) (.ref f) = some (.type "function")) (hn : copiedNames.contains name = false) (hne : (name == ("_initial_size" : Str)) = false)
    (q : ∀ p F' s', Le F F' → F' p = some (methodObj (.ref f) (.ref a)) → St B os F' s' σ → Q (.ref p) s') : wpAny (model prg w) A (getAttr (.ref a) name ex) Q E s := by
  obtain ⟨n, od, tk, I, q'⟩ := acc_inst x h hi
  have X := x.In U
  have hfo := findObj_fn (K := frag0.heap_1 w.params) (C := 178) (o := od) (by k_is) hf hg ht (by rw [lookIn_exa q', List.lookup_cons, hne]; rfl) hn
  obtain ⟨F', le, e, y⟩ := newF (o := methodObj (.ref f) (.ref a)) x rfl (tk := s.toks + 1)
  have X' : (frag0.heap_1 w.params).In s.heap := X
  have e2 : findIn (frag0.heap_1 w.params) (.ref 178) "__getattribute__" = some (some (.builtin "list.__getattribute__")) := by k_is
  have e3 : findIn (frag0.heap_1 w.params) (.ref 178) "__getattr__" = some none := by k_is
  have al := acc_list (M := model prg w) U x h
  obtain ⟨hh', g, dd, t, os'⟩ := s
  have L0 := I.type (M := model prg w)
  have L1 := looks_findIn (M := model prg w) X e2
  have L2 := looks_findIn (M := model prg w) X e3
  have L3 := looks_find (M := model prg w) X I hfo
  unfold getAttr getAttrBy
  refine wpAny_bind (wpAny_mkText (wpAny_holding (wpAny_bind (L0.at (wpAny_bind (L1.at ?_))))))
  (try dsimp only)
  rw [show (onTheHeap (Value.ref 178) && Value.builtin "list.__getattribute__" == Value.builtin "object.__getattribute__") = false from by
    rw [show (Value.builtin "list.__getattribute__" == Value.builtin "object.__getattribute__") = false from by decide +kernel, Bool.and_false], if_neg (by decide)]
  unfold getAttrByItsOwn hookBefore
  rw [if_pos (show onTheHeap (Value.ref 178) = true from rfl)]
  refine wpAny_bind (L2.at (wpAny_bind (wpAny_attempt (wpAny_holding ?_))))
  unfold callGetattribute
  rw [show (ex && onTheHeap (Value.builtin "list.__getattribute__")) = false from Bool.and_false _, if_neg (by decide)]
  unfold boundAndCalled
  rw [PySem.F.slot_list_getattribute.bind]
  refine wpAny_bind (wpAny_pure ?_)
  refine call_bi (Bi := Builtin.«object.__getattribute__») (owner := "list") (n := "__getattribute__") (by decide +kernel) PySem.F.entry_list_ga (.inl (by decide +kernel)) (by decide +kernel) al (PySem.F.args_list_getattribute_2 _ _) ?_
  unfold Builtin.«object.__getattribute__»
  refine wpAny_bind (wpAny_pure ?_)
  (try dsimp only)
  refine wpAny_bind (wpAny_pure (wpAny_bind (L0.at (wpAny_bind (L3.at ?_)))))
  show wpAny _ _ (holding [Value.ref f] (call (.builtin "function.__get__") [.ref f, .ref a, .ref 178]) >>= ret) _ _ _
  refine wpAny_bind (wpAny_holding (wpAny_call (fn_get X' hty ?_)))
  refine wpAny_pure ⟨_, rfl, ?_⟩
  exact wpAny_pure (q _ _ _ le e y)
theorem callWith_star {t p g : Addr} (fn : FnAt g) {v1 v2 : Value} {self : Value} {me : Sem Value} {pos : Pos} {Q : Value → Shared → Prop} (U : Bs w mg mb B) (_ : St B os F s σ) (e : F t = some (tupO [v1, v2])) (ep : F p = some (methodObj (.ref g) self))
    (hm : wpAny (model prg w) A me (fun v s₁ => v = .ref t ∧ St B os F s₁ σ ∧ ∀ s₂, St B os F s₂ σ → codeAny (model prg w) A (.call (.ref g) ⟨[self, v1, v2], []⟩) (fun r s' => match r with | .ok (.ret v) => Q v s' | .ok _ => False | .error e => E e s') s₂) E s) : wpAny (model prg w) A (callWith pos (.ref p) [] [(true, me)] []) Q E s := by
  unfold callWith
  refine wpAny_bind (wpAny_holding ?_)
  unfold evalArgs
  refine wpAny_bind (wpAny_mono hm (fun v s₁ hh => ?_) fun _ _ z => z)
  obtain ⟨rfl, x, hc⟩ := hh
  have et := x.wd.fact e
  have hT : s₁.TypeIs (.ref t) "tuple" := ⟨_, et, rfl⟩
  refine wpAny_bind (wpAny_pure (wpAny_holding ?_))
  rw [if_pos (show (([] : List (Option Str × Sem Value)).all (·.1.isSome)) = true from rfl)]
  refine wpAny_bind (wpAny_pure (wpAny_bind ?_))
  unfold notIterableAtAll
  refine wpAny_bind (wpAny_bind (wpAny_specialOf hT PySem.F.slot_tuple_iter.lookup ?_))
  refine wpAny_pure ?_
  rw [if_neg (by decide)]
  refine wpAny_holding (wpAny_collect_seq t (.inr rfl) et rfl (show (tupO [v1, v2]).data = .seq #[v1, v2] 0 from rfl) ?_ (by show 2 ≤ sizeLine; rw [sizeLine_eq]; decide))
  intro h' hk
  refine wpAny_pure (wpAny_bind (wpAny_standAt ?_))
  have x' : St B os F { s₁ with heap := h' } σ := ⟨x.wd.grow hk, x.bare, x.os⟩
  have ho := x'.wd.fact ep
  obtain ⟨oc, od, osl, hf⟩ := fn.at_ w.params
  have hfo := x'.In U _ _ hf
  have L : Looks (model prg w) h' (keeperOf (.ref p)) .boundFrame := (Looks.ld (part := none) ho).andThen ((Looks.ld (part := none) hfo).andThen .now)
  refine wpAny_bind (L.here ?_)
  refine wpAny_bind (wpAny_operating (wpAny_mono (wpAny_call (method_call ho ?_)) (fun r s₂ hr => wpAny_bind (wpAny_holding (wpAny_point (wpAny_pure hr)))) fun _ _ z => z))
  exact hc _ x'
theorem push_code {c : Cell} {f p : Value} {Q : Value → Shared → Prop} (U : Bs w mg mb B) (x : St B os F s (c :: (a, AccP vs d) :: (d, IniP i) :: σ)) (r : Rm A 5) (hz : vs.size < 1000)
    (h : ∀ t F' s', Le F F' → F' t = some (tupO [f, p]) → St B os F' s' (c :: (a, AccP (vs.push (.ref t)) d) :: (d, IniP i) :: σ) → Q .none s') :
    codeAny (model prg w) A (.call (.ref 122) ⟨[.ref a, f, p], []⟩) (fun r s' => match r with | .ok (.ret v) => Q v s' | .ok _ => False | .error e => E e s') s := by
  refine' enterF fPush (binds := [("self", .ref a), ("fws", f), ("string", p)]) (keys := ["self", "fws", "string"]) U x r ?k2 ?k3 ?k4 ?k5 ?k6 ?k7 ?_ ?c1 ?c2 ?c3
  k_extra "sides"
  intro L s₁ x₁ r₁
  replace x₁ := x₁.swap.perm (.cons _ (.cons _ (.swap _ _ _)))
  clear x
  k_extra "go"
  k_extra "uq"
  exact h _ _ _ (by assumption) (by assumption) (St.back2 (by assumption))
theorem lay_empty : Lay2 ("", "") := by unfold Lay2; decide +kernel
theorem lay_sp : Lay2 (" ", "") := by unfold Lay2; decide +kernel
theorem lastP_mem {its : List (Str × Str)} (h : its ≠ []) : lastP its ∈ its := by
  unfold lastP
  rw [List.getLastD_eq_getLast?, List.getLast?_eq_some_getLast h]
  exact List.getLast_mem h
theorem lay_last {its : List (Str × Str)} (h : ∀ p ∈ its, Lay2 p) : Lay2 ((lastP its).1, (lastP its).2) := by
  by_cases e : its = []
  · subst e; exact lay_empty
  · k_extra "uq"
    exact h _ (lastP_mem e)
theorem last_ne {its : List (Str × Str)} (h : ∀ p ∈ its, p.2 ≠ Str.ofString "") : ¬ ((lastP its).1 = Str.ofString " " ∧ (lastP its).2 = Str.ofString "") := by
  by_cases e : its = []
  · subst e; decide
  · exact fun q => h _ (lastP_mem e) q.2
theorem wpAny_of_eq_tree {α : Type} {M : Model} {t t' : Sem α} {Q : α → Shared → Prop} (e : t = t') (h : wpAny M A t' Q E s) : wpAny M A t Q E s := e ▸ h
theorem push_back {F' : Facts} {its : List (Str × Str)} {ws : Array Value} {t : Addr} {u1 u2 : Tok} (hi : Items F' ws its.dropLast) (hs : Short its) (e : F' t = some (tupO [.str (lastP its).1 u1, .str (lastP its).2 u2])) :
    ∃ its', Items F' (ws.push (.ref t)) its' ∧ Short its' ∧ tot its' = tot its ∧ accText its' = accText its := by
  refine ⟨its.dropLast ++ [lastP its], hi.push ⟨t, u1, u2, rfl, e⟩, ?_⟩
  by_cases q : its = []
  · subst q
    refine ⟨fun p hp => ?_, by decide +kernel, by decide +kernel⟩
    have : p = lastP [] := by simpa using hp
    rw [this]; decide +kernel
  · have : its.dropLast ++ [lastP its] = its := by
      unfold lastP
      rw [List.getLastD_eq_getLast?, List.getLast?_eq_some_getLast q]
      exact List.dropLast_concat_getLast q
    rw [this]; exact ⟨hs, rfl, rfl⟩
theorem newline_c {c : Cell} {its : List (Str × Str)} {ts : List Str} {Q : Value → Shared → Prop} (U : Bs w mg mb B) (f : Fmt F m M sg ll a) (x : St B os F s (c :: (a, AccP vs d) :: (d, IniP i) :: (140, TabP 93 19) :: (147, TabP 96 32) :: (ll, LinP ts) :: σ)) (r : Rm A 20)
    (hi : Items F vs its) (hs : Short its) (hn : vs.size ≤ 900) (h0 : 0 ≤ i) (h1 : i ≤ 1000)
    (hp : 0 < i + tot its) (hsp : i = 0 → Txt.isspace (accText its) = false) (hne : ∀ p ∈ its, p.2 ≠ Str.ofString "") (hlay : ∀ p ∈ its, Lay2 p) (hl : ts.length < 1000)
    (h : ∀ F' s', Le F F' → St B os F' s' (c :: (a, AccP #[] d) :: (d, IniP 0) :: (140, TabP 93 19) :: (147, TabP 96 32) :: (ll, LinP (ts ++ [accText its])) :: σ) → Q .none s') :
    wpAny (model prg w) A (call (.ref 56) [.ref m]) Q E s := by
  refine wpAny_call ?_
  refine' enterF fNewline (binds := [("self", .ref m)]) (keys := ["self"]) U x r ?k2 ?k3 ?k4 ?k5 ?k6 ?k7 ?_ ?c1 ?c2 ?c3
  k_extra "sides"
  intro L s₁ x₁ r₁
  replace x₁ := x₁.rot5
  clear x
  k_extra "go"
  rename St _ _ _ _ _ => x₂
  refine pop_e U x₂ (by k_extra "rm") hi (by omega) fun t u1 u2 ws F' s' le e hi' hz hz' x' => ?_
  clear x₂ x₁
  k_extra "go"
  rename St _ _ _ _ _ => x₁
  rename (_ = some (tupO [Value.str (Str.ofString " ") _, _])) => e2
  refine pair_ne x₁ (by k_extra "rm") (by k_extra "fact") e2 (lay_last hlay) lay_sp (last_ne hne) ?_
  k_extra "go"
  clear e2
  rw [arm_eval_Call]
  refine wpAny_bind ?_
  show wpAny _ _ (eval _ _) _ _ _
  k_extra "go"
  refine wpAny_bind (wpAny_standAt ?_)
  unfold methodCall
  refine wpAny_bind (wpAny_holding ?_)
  show wpAny _ _ (getAttr _ _ _ >>= _) _ _ _
  refine wpAny_bind ?_
  rename St _ _ _ _ _ => x₂
  refine acc_bound U x₂ (by k_extra "memd") (by k_extra "memd") (by k_is) (by k_is) (by k_is) (by k_is) (by decide +kernel) (by decide) fun p F₃ s₃ le₃ e₃ x₃ => ?_
  refine wpAny_pure (wpAny_bind (wpAny_pure ?_))
  clear x₂ x₁ x'
  refine callWith_star fPush U x₃ (t := t) (by k_extra "fact") e₃ (wpAny_bind ?_)
  refine ld x₃ (v := .ref t) (by k_extra "mem") (wpAny_bind (wpAny_standAt (wpAny_pure ⟨rfl, x₃, ?_⟩)))
  intro s₄ x₄
  refine push_code U x₄ (by k_extra "rm") hz' fun t₅ F₅ s₅ le₅ e₅ x₅ => ?_
  clear x₄ x₃
  obtain ⟨its', e1, e2, e3, e4⟩ := push_back (F' := F₅) (by k_extra "items") hs e₅
  have e5 : (ws.push (Value.ref t₅)).size ≤ 1000 := by rw [Array.size_push]; omega
  have hp' : 0 < i + tot its' := e3 ▸ hp
  have hsp' : i = 0 → Txt.isspace (accText its') = false := e4 ▸ hsp
  clear hp hsp
  rw [← e4] at h
  k_extra "go"
  · (refine' (h _ _) ?leDn (St.back5 ?xDn); (case xDn => assumption); (case leDn => k_extra "le"))
  · exfalso; omega
end
end
section
noncomputable def rgO (x left step : Int) : Obj := { cls := .type "range_iterator", data := .fields #[rawInt x, rawInt left, rawInt step] }
noncomputable def rngO (a b c : Int) (t u v : Tok) : Obj := { cls := .type "range", data := .fields #[.int a t, .int b u, .int c v] }
noncomputable def SitP (x : Str) (t : Tok) (i : Nat) (o : Obj) : Prop := o.cls = .type "str_ascii_iterator" ∧ o.data = .fields #[.str x t, .int i 0]
section
variable {w : World} {mg mb : Str → Option Value} {B : Heap} {os : OsState} {F : Facts} {s : Shared} {σ σ' : List Cell} {A : Around} {k : Nat} {E : Value → Shared → Prop} {a d m ll it : Addr} {vs : Array Value} {v : Value} {i M : Int} {sg : Str}
theorem Wd.turn_drop {h h' : Heap} (x : Wd B F h σ) (u : Dr it σ σ') (hm : ∃ P, (it, P) ∈ σ) (k : ∀ b o, b ≠ it → h.get? b = some o → h'.get? b = some o) : Wd B F h' σ' := by
  obtain ⟨P, hm⟩ := hm
  exact x.turnDrop u (x.off _ hm) k
theorem rg_item {x left step : Int} {Q : Option Value → Shared → Prop} (y : St B os F s σ) (u : Up it (Is (rgO x left step)) (Is (rgO (x + step) (left - 1) step)) σ σ') (hl : 0 < left) (q : ∀ t s', St B os F s' σ' → Q (some (.int x t)) s') :
    wpAny (model prg w) A (pyNext (.ref it)) Q E s :=
  wpAny_pyNext_range_item (y.wd.get u.mem) hl fun h' e hs => q _ _ (y.with_ (y.wd.same u hs ⟨_, e, rfl⟩))
theorem rg_end {x left step : Int} {Q : Option Value → Shared → Prop} (y : St B os F s σ) (hm : (it, Is (rgO x left step)) ∈ σ) (u : Dr it σ σ') (hh : A.handled = none) (hl : left ≤ 0) (q : ∀ s', St B os F s' σ' → Q none s') :
    wpAny (model prg w) A (pyNext (.ref it)) Q E s :=
  wpAny_pyNext_range_end hh (y.wd.get hm) hl fun h' hs => q _ (y.with_ (y.wd.turn_drop u ⟨_, hm⟩ hs))
theorem rg_iter {r : Addr} {a b c : Int} {t u v : Tok} {Q : Value → Shared → Prop} (y : St B os F s σ) (e : F r = some (rngO a b c t u v)) (hsmall : Builtin.Range.small a b c = true) (q : ∀ it s', St B os F s' ((it, Is (rgO a (Builtin.Range.rangeSize a b c) c)) :: σ) → Q (.ref it) s') :
    wpAny (model prg w) A (pyIter (.ref r)) Q E s :=
  wpAny_pyIter_range (y.wd.fact e) hsmall (q _ _ ⟨y.wd.push _, y.bare, y.os⟩)
theorem rg_make {a b c : Int} {t u v : Tok} {Q : Value → Shared → Prop} (y : St B os F s σ) (hc : c ≠ 0) (hc' : c.natAbs < 1000) (q : ∀ r F' s', Le F F' → F' r = some (rngO a b c t u v) → St B os F' s' σ → Q (.ref r) s') :
    wpAny (model prg w) A (call (.type "range") [.int a t, .int b u, .int c v]) Q E s := by
  obtain ⟨F', le, e, y'⟩ := newF (o := rngO a b c t u v) y rfl (tk := s.toks)
  exact call_range_3 hc (q _ _ _ le e y') (.inl (PyProof.noPylong_small (by omega)))
theorem si_iter {x : Str} {t : Tok} {Q : Value → Shared → Prop} (y : St B os F s σ) (ha : x.cps.all (· < 128) = true) (q : ∀ it s', St B os F s' ((it, SitP x t 0) :: σ) → Q (.ref it) s') :
    wpAny (model prg w) A (pyIter (.str x t)) Q E s :=
  wpAny_pyIter_ascii ha (q _ _ ⟨y.wd.new (Wd.size_none _) (fun _ _ e => Heap.get?_push_of_some _ e) ⟨_, Heap.get?_push_size _ rfl, rfl, rfl⟩, y.bare, y.os⟩)
theorem si_item {x : Str} {t : Tok} {j c : Nat} {Q : Option Value → Shared → Prop} (y : St B os F s σ) (u : Up it (SitP x t j) (SitP x t (j + 1)) σ σ') (hx : x.cps[j]? = some c) (q : ∀ t' s', St B os F s' σ' → Q (some (.str ⟨#[c]⟩ t')) s') :
    wpAny (model prg w) A (pyNext (.ref it)) Q E s := by
  obtain ⟨o, e, h1, h2⟩ := y.wd.cell _ u.mem
  exact wpAny_pyNext_ascii_item ⟨o, e, h1, h2⟩ hx fun h' hi hs => q _ _ (y.with_ (y.wd.same u hs hi))
theorem si_end {x : Str} {t : Tok} {j : Nat} {Q : Option Value → Shared → Prop} (y : St B os F s σ) (hm : (it, SitP x t j) ∈ σ) (u : Dr it σ σ') (hh : A.handled = none) (hx : x.cps[j]? = none) (q : ∀ s', St B os F s' σ' → Q none s') :
    wpAny (model prg w) A (pyNext (.ref it)) Q E s := by
  obtain ⟨o, e, h1, h2⟩ := y.wd.cell _ hm
  exact wpAny_pyNext_ascii_end hh ⟨o, e, h1, h2⟩ hx fun h' hs => q _ (y.with_ (y.wd.turn_drop u ⟨_, hm⟩ hs))
theorem rangeSize_down (n : Nat) : Builtin.Range.rangeSize n 0 (-1) = n := by
  unfold Builtin.Range.rangeSize
  rw [if_neg (by decide)]
  by_cases h : (n : Int) > 0
  · rw [if_pos h]
    have : (- -1 : Int) = 1 := by decide
    rw [this, Int.ediv_one]; omega
  · rw [if_neg h]; omega
theorem fits_of {a : Int} (h : a.natAbs < 100000) : Builtin.Range.rangeFitsLong a = true := by
  unfold Builtin.Range.rangeFitsLong
  simp; omega
theorem small_down {n : Nat} (h : n < 100000) : Builtin.Range.small n 0 (-1) = true := by
  unfold Builtin.Range.small
  rw [rangeSize_down, fits_of (a := (n : Int)) (by omega), fits_of (a := 0) (by omega), fits_of (a := -1) (by omega), if_neg (by decide), fits_of (a := 0 + (-1 + 1)) (by omega)]
  simp
/-- an item of the accumulator -/
theorem acc_item {value slice : Expr} {k : Int} {t : Tok} {y : Value} {ops : List Value} {Q : Value → Shared → Prop} (U : Bs w mg mb B) (x : St B os F s σ) (hm : (a, AccP vs d) ∈ σ) (hs : subscripted slice false (.ref a) (.int k t) = operate ops (getItem (.ref a) (.int k t)))
    (h0 : 0 ≤ k) (hn : k < 100000) (hj : vs[k.toNat]? = some y) (h : Q y s) : wpAny (model prg w) A (subscriptTail value slice (.ref a) (.int k t)) Q E s := by
  refine acc_sub U x hm hs ?_
  obtain ⟨n, ea⟩ := acc_get x hm
  refine call_bi (Bi := Builtin.«list.__getitem__») (owner := "list") (n := "__getitem__") (by decide +kernel) entry_list_getitem (.inr (by decide +kernel)) (by decide +kernel) (acc_list U x hm) (args_list_getitem _ _) ?_
  have hf : Builtin.List.listFitsIndex k = true := fitsIndex_of h0 (by omega)
  show wpAny _ _ (Builtin.List.listSubscript? (.int k t) >>= _) _ _ s
  refine wpAny_bind (wpAny_listSubscript_int hf ?_)
  clear hf hn hs
  obtain ⟨j, rfl⟩ := Int.eq_ofNat_of_zero_le h0
  have hx' : vs[j]? = some y := hj
  show wpAny _ _ ((seqItemAt a j >>= fun r => pure (r.map (j, ·))) >>= _) _ _ s
  refine wpAny_bind (wpAny_bind (wpAny_seqItemAt ea (show (accO vs n d).data = .seq vs n from rfl) (wpAny_pure ?_)))
  rw [hx']
  first
    | exact wpAny_bind (wpAny_pure (wpAny_pure ⟨y, rfl, h⟩))
    | exact wpAny_pure ⟨y, rfl, h⟩
/-- an item of a tuple that is a fact -/
theorem tup_item {value slice : Expr} {tp : Addr} {l : List Value} {j : Nat} {t : Tok} {y : Value} {Q : Value → Shared → Prop} (x : St B os F s σ) (e : F tp = some (tupO l)) (hj : l[j]? = some y) (hn : j < 100000) (hl : l.length < 100000)
    (hs : subscripted slice false (.ref tp) (.int j t) = operate [.ref tp, .int j t] (getItem (.ref tp) (.int j t))) (h : Q y s) : wpAny (model prg w) A (subscriptTail value slice (.ref tp) (.int j t)) Q E s := by
  have ht : IsTup s.heap tp l.toArray := ⟨_, x.wd.fact e, rfl, _, rfl⟩
  have hlt : j < l.length := (List.getElem?_eq_some_iff.mp hj).1
  refine subscriptTail_builtinR (x := y) ht.typeIs slot_tuple_getitem.lookup (getItem_tuple (j := j) ht (by omega) (show (j : Int) < 2 ^ 63 from by omega) ?_ (by simpa using hj) ⟨rfl, h⟩) hs
  unfold seqIndex?
  simp only [List.size_toArray]
  have e0 : ¬ ((j : Int) < 0) := by omega
  simp only [e0, if_false]
  have : (decide (0 ≤ (j : Int)) && decide ((j : Int) < (l.length : Int))) = true := by rw [Bool.and_eq_true]; exact ⟨decide_eq_true (by omega), decide_eq_true (by omega)⟩
  rw [if_pos this]; rfl
theorem tup_itemK {value slice : Expr} {tp : Addr} {l : List Value} {k : Int} {t : Tok} {y : Value} {Q : Value → Shared → Prop} (x : St B os F s σ) (e : F tp = some (tupO l)) (h0 : 0 ≤ k) (hj : l[k.toNat]? = some y) (hn : k < 100000) (hl : l.length < 100000)
    (hs : subscripted slice false (.ref tp) (.int k t) = operate [.ref tp, .int k t] (getItem (.ref tp) (.int k t))) (h : Q y s) : wpAny (model prg w) A (subscriptTail value slice (.ref tp) (.int k t)) Q E s := by
  obtain ⟨j, rfl⟩ := Int.eq_ofNat_of_zero_le h0
  exact tup_item x e hj (by omega) hl hs h
theorem unpack2 {env : Env} {l l1 l2 : List (Str × Value)} {xa xb : Str} {pa pb pt : Pos} {kt : Nat} {tp : Addr} {va vb : Value} {Q : Unit → Shared → Prop} (x : St B os F s ((env.locals, Loc l) :: σ)) (hh : A.handled = none) (e : F tp = some (tupO [va, vb]))
    (p1 : Put xa va l l1) (p2 : Put xb vb l1 l2) (h : ∀ s', St B os F s' ((env.locals, Loc l2) :: σ) → Q () s')
    (hk : env.scope.kind = .function := by rfl) (ha : env.kindOf xa = some .local := by rfl) (hb : env.kindOf xb = some .local := by rfl) :
    wpAny (model prg w) A (assign (.Tuple [.Name xa pa, .Name xb pb] kt pt) env (.ref tp)) Q E s := by
  have hT : s.heap.IsTuple tp #[va, vb] := ⟨_, x.wd.fact e, rfl, _, rfl⟩
  refine wpAny_assign_Tuple hh hT rfl rfl fun h₁ hx => ?_
  replace hx : Heap.ExtBut s.heap.objs.size s.heap h₁ := hx
  have x₁ : St B os F { s with heap := h₁ } ((env.locals, Loc l) :: σ) := ⟨x.wd.grow fun b o e => hx b o (Nat.ne_of_lt (Heap.lt_size e)) e, x.bare, x.os⟩
  show wpAny _ _ (do holding [vb] (assign (.Name xa pa) env va); do holding [] (assign (.Name xb pb) env vb); pure ()) _ _ _
  refine wpAny_bind (wpAny_holding (PySem.wpAny_assign_Name (st x₁ p1 (fun s₂ x₂ => ?_) hk ha)))
  refine wpAny_bind (wpAny_holding (PySem.wpAny_assign_Name (st x₂ p2 (fun s₃ x₃ => ?_) hk hb)))
  exact wpAny_pure (h _ x₃)
end
theorem forLoopQ {prog : Program} {w : World} {A : Around} {s : Shared} {R : Result → Shared → Prop} {target it body orelse env} (I : Nat → Shared → Prop)
    (turn : ∀ n s, I n s → ∀ R' : Result → Shared → Prop, (∀ r s₃, R r s₃ → R' r s₃) → ∀ Qb : Flow → Shared → Prop, (∀ s₃, (∃ m, m < n ∧ I m s₃) → Qb .next s₃) → (∀ s₃, (∃ m, m < n ∧ I m s₃) → Qb .cont s₃) → (∀ s₃, R (.ok .next) s₃ → Qb .brk s₃) → (∀ v s₃, R (.ok (.ret v)) s₃ → Qb (.ret v) s₃) →
      wpAny (model prog w) A (pyNext it) (fun r s₁ => match r with
      | none => wpAny (model prog w) A (execs orelse env) (fun f s₃ => R' (.ok f) s₃) (notedBy (model prog w) A env fun e s' => R' (.error e) s') s₁
      | some v => wpAny (model prog w) A (assign target env v) (fun _ s₂ => wpAny (model prog w) A (execs body env) Qb (notedBy (model prog w) A env fun e s' => R' (.error e) s') s₂) (notedBy (model prog w) A env fun e s' => R' (.error e) s') s₁) (notedBy (model prog w) A env fun e s' => R' (.error e) s') s)
    (n : Nat) (h : I n s) (ht : ∀ v, letOwnedTupleGo target it v = pure () := by intro _; rfl) : codeAny (model prog w) A (.forLoop target it body orelse env) R s :=
  codeAny_forLoop I (fun n s hI => turn n s hI R (fun _ _ x => x) (fun f s₃ => match f with
          | .next | .cont => ∃ m, m < n ∧ I m s₃
          | .brk => R (.ok .next) s₃
          | .ret v => R (.ok (.ret v)) s₃) (fun _ x => x) (fun _ x => x) (fun _ x => x) (fun _ _ x => x)) n h ht
end
theorem linesM20 : True := by
  (k_with "subscriptTail" => ((fail_if_success (with_reducible show wpAny _ _ (subscriptTail _ (Expr.Slice _ _ _ _) _ _) _ _ _)); refine' Mine.tup_itemK (by k_extra "stk") (by k_extra "fact") (by k_extra "dec") (by k_extra "rfl") (by k_extra "dec") (by k_extra "simp") (by k_extra "rfl") ?_; intros))
  (k_with "subscriptTail" => ((fail_if_success (with_reducible show wpAny _ _ (subscriptTail _ (Expr.Slice _ _ _ _) _ _) _ _ _)); refine' Mine.acc_item (by k_extra "asm") (by k_extra "stk") (by k_extra "memd") (by k_extra "rfl") (by k_extra "om") (by k_extra "om") (by k_extra "asm") ?_; intros))
  (k_with "subscriptTail" => ((with_reducible show wpAny _ _ (subscriptTail _ _ (Value.str _ _) (Value.int _ _)) _ _ _); refine' SBL.item (by k_extra "om") (by k_extra "om") (by k_extra "om") ?_; intros))
  (k_with "assign Tuple" => (refine' Mine.unpack2 (by k_extra "stk") (by k_extra "rhh") (by k_extra "fact") (by k_extra "put") (by k_extra "put") ?_; intros))
  trivial
section
section
variable {w : World} {mg mb : Str → Option Value} {B : Heap} {os : OsState} {F : Facts} {s : Shared} {σ σ' : List Cell} {A : Around} {k : Nat} {E : Value → Shared → Prop} {a d m ll it : Addr} {vs : Array Value} {v : Value} {i M : Int} {sg : Str}
noncomputable abbrev coreC (a d ll : Addr) (vs : Array Value) (i : Int) (ts : List Str) (σ : List Cell) : List Cell := (a, AccP vs d) :: (d, IniP i) :: (140, TabP 93 19) :: (147, TabP 96 32) :: (ll, LinP ts) :: σ
theorem Loc.sub {l l' : List (Str × Value)} (h : ∀ p ∈ l', p ∈ l) (o : Obj) (x : Loc l o) : Loc l' o := let ⟨m, a, b⟩ := x; ⟨m, a, fun p hp => b p (h p hp)⟩
theorem St.weak {L : Addr} {l l' : List (Str × Value)} (x : St B os F s ((L, Loc l) :: σ)) (h : ∀ p ∈ l', p ∈ l) : St B os F s ((L, Loc l') :: σ) := x.imp .head (Loc.sub h)
theorem St.rot7 {c a1 a2 a3 a4 a5 a6 a7 : Cell} (x : St B os F s (c :: a1 :: a2 :: a3 :: a4 :: a5 :: a6 :: σ)) : St B os F s (a1 :: a2 :: a3 :: a4 :: a5 :: a6 :: c :: σ) :=
  x.perm (List.perm_middle (l₁ := [_, _, _, _, _, _]) (l₂ := σ)).symm
theorem St.rot8 {c a1 a2 a3 a4 a5 a6 a7 : Cell} (x : St B os F s (c :: a1 :: a2 :: a3 :: a4 :: a5 :: a6 :: a7 :: σ)) : St B os F s (a1 :: a2 :: a3 :: a4 :: a5 :: a6 :: a7 :: c :: σ) :=
  x.perm (List.perm_middle (l₁ := [_, _, _, _, _, _, _]) (l₂ := σ)).symm
noncomputable def ht (its : List (Str × Str)) (c k : Nat) : Bool :=
  (Txt.isspace ⟨#[c]⟩ && ((its.getD k ("", "")).1.length != 0 && Txt.item (its.getD k ("", "")).1 0 == ⟨#[c]⟩)) ||
  ((its.getD (k - 1) ("", "")).2.length != 0 && Txt.item (its.getD (k - 1) ("", "")).2 (-1) == ⟨#[c]⟩)
noncomputable def lastHit (its : List (Str × Str)) (c : Nat) : Nat → Option Nat
  | 0 => none
  | k + 1 => if ht its c (k + 1) = true then some (k + 1) else lastHit its c k
noncomputable def splitAt (its : List (Str × Str)) : List Nat → Option Nat
  | [] => none
  | c :: r => match lastHit its c (its.length - 1) with
    | some k => some k
    | none => splitAt its r
noncomputable def stepC (M : Int) (sg : List Nat) (i : Int) (its : List (Str × Str)) (ts : List Str) (p : Str × Str) : Int × List (Str × Str) × List Str :=
  if M < i + tot (its ++ [p]) then
    match splitAt (its ++ [p]) sg with
    | some k => (0, (its ++ [p]).drop k, ts ++ [accText ((its ++ [p]).take k)])
    | none => if 0 < i then (0, [(if p.1.length = 0 then " " else p.1, p.2)], ts ++ [accText its]) else (i, its ++ [p], ts)
  else (i, its ++ [p], ts)
theorem ht_in {its : List (Str × Str)} {c k : Nat} (hk : k < its.length) : ht its c k = ((Txt.isspace ⟨#[c]⟩ && (its[k].1.length != 0 && Txt.item its[k].1 0 == ⟨#[c]⟩)) || (its[k - 1].2.length != 0 && Txt.item its[k - 1].2 (-1) == ⟨#[c]⟩)) := by
  unfold ht
  have e : ∀ (j : Nat) (h : j < its.length), its.getD j (("" : Str), ("" : Str)) = its[j] := by
    intro j h; rw [List.getD_eq_getElem?_getD, List.getElem?_eq_getElem h]; rfl
  rw [e k hk, e (k - 1) (by omega)]
theorem ht_1 {its : List (Str × Str)} {c k : Nat} (hk : k < its.length) (h1 : Txt.isspace ⟨#[c]⟩ = true) (h2 : (its[k].1.length : Int) ≠ 0) (h3 : (Txt.item its[k].1 0 == ⟨#[c]⟩) = true) : ht its c k = true := by
  rw [ht_in hk, h1, h3]
  have : its[k].1.length ≠ 0 := by omega
  simp [this]
theorem ht_2 {its : List (Str × Str)} {c k : Nat} (hk : k < its.length) (h2 : (its[k - 1].2.length : Int) ≠ 0) (h3 : (Txt.item its[k - 1].2 (-1) == ⟨#[c]⟩) = true) : ht its c k = true := by
  rw [ht_in hk, h3]
  have : its[k - 1].2.length ≠ 0 := by omega
  simp [this]
theorem ht_0 {its : List (Str × Str)} {c k : Nat} (hk : k < its.length) (hA : Txt.isspace ⟨#[c]⟩ = false ∨ (its[k].1.length : Int) = 0 ∨ (Txt.item its[k].1 0 == ⟨#[c]⟩) = false) (hB : (its[k - 1].2.length : Int) = 0 ∨ (Txt.item its[k - 1].2 (-1) == ⟨#[c]⟩) = false) : ht its c k = false := by
  rw [ht_in hk]
  have a : (Txt.isspace ⟨#[c]⟩ && (its[k].1.length != 0 && Txt.item its[k].1 0 == ⟨#[c]⟩)) = false := by
    rcases hA with h | h | h
    · rw [h]; rfl
    · have : its[k].1.length = 0 := by omega
      simp [this]
    · rw [h]; simp
  have b : (its[k - 1].2.length != 0 && Txt.item its[k - 1].2 (-1) == ⟨#[c]⟩) = false := by
    rcases hB with h | h
    · have : its[k - 1].2.length = 0 := by omega
      simp [this]
    · rw [h]; simp
  rw [a, b]; rfl
theorem Items.take {its : List (Str × Str)} (x : Items F vs its) (n : Nat) : Items F (vs.toList.take n).toArray (its.take n) := by
  refine ⟨by simp [x.n], fun j p e => ?_⟩
  obtain ⟨h1, h2⟩ := List.getElem?_eq_some_iff.mp e
  have hj : j < n := by simp at h1; omega
  rw [List.getElem?_take_of_lt hj] at e
  obtain ⟨v, h3, h4⟩ := x.at_ j p e
  refine ⟨v, ?_, h4⟩
  rw [List.getElem?_toArray, List.getElem?_take_of_lt hj, Array.getElem?_toList]; exact h3
theorem Items.drop {its : List (Str × Str)} (x : Items F vs its) (n : Nat) : Items F (vs.toList.drop n).toArray (its.drop n) := by
  refine ⟨by simp [x.n], fun j p e => ?_⟩
  rw [List.getElem?_drop] at e
  obtain ⟨v, h3, h4⟩ := x.at_ _ p e
  exact ⟨v, by rw [List.getElem?_toArray, List.getElem?_drop, Array.getElem?_toList]; exact h3, h4⟩
theorem St.weak2 {L : Addr} {p q : Str × Value} {l : List (Str × Value)} (x : St B os F s ((L, Loc (p :: q :: l)) :: σ)) : St B os F s ((L, Loc [p, q]) :: σ) := x.weak (l' := [p, q]) fun z hz => List.mem_append_left l hz
theorem St.weak3 {L : Addr} {p q r : Str × Value} {l : List (Str × Value)} (x : St B os F s ((L, Loc (p :: q :: r :: l)) :: σ)) : St B os F s ((L, Loc [p, q, r]) :: σ) := x.weak (l' := [p, q, r]) fun z hz => List.mem_append_left l hz
theorem St.weak1 {L : Addr} {p : Str × Value} {l : List (Str × Value)} (x : St B os F s ((L, Loc (p :: l)) :: σ)) : St B os F s ((L, Loc [p]) :: σ) := x.weak (l' := [p]) fun z hz => List.mem_append_left l hz
theorem St.back7 {L : Addr} {P : Obj → Prop} {a d t u l i1 i2 c : Cell} (x : St B os F s ((L, P) :: a :: d :: t :: u :: l :: i1 :: i2 :: c :: σ)) : St B os F s (c :: a :: d :: t :: u :: l :: σ) :=
  ((x.drop .head).perm (List.perm_middle (l₁ := [_, _, _, _, _, _, _]) (l₂ := σ))).drop (.tail (.tail (.tail (.tail (.tail (.tail .head)))))) |>.drop (.tail (.tail (.tail (.tail (.tail (.tail .head))))))
theorem Short.sub {its its' : List (Str × Str)} (h : Short its) (hs : ∀ p ∈ its', p ∈ its) : Short its' := fun p hp => h p (hs p hp)
set_option maxHeartbeats 4000000 in
theorem chunk_c {c : Cell} {its : List (Str × Str)} {ts : List Str} {fw pt : Str} {t1 t2 : Tok} {Q : Value → Shared → Prop} (U : Bs w mg mb B) (f : Fmt F m M sg ll a) (x : St B os F s (c :: (a, AccP vs d) :: (d, IniP i) :: (140, TabP 93 19) :: (147, TabP 96 32) :: (ll, LinP ts) :: σ)) (r : Rm A 40)
    (hi : Items F vs its) (hs : Short (its ++ [(fw, pt)])) (hn : vs.size < 900) (h0 : 0 ≤ i) (h1 : i ≤ 1000) (hsg : sg.cps.all (· < 128) = true) (hl : ts.length < 900) (hne : ∀ p ∈ its, p.2 ≠ Str.ofString "") (hlay : ∀ p ∈ its, Lay2 p)
    (h : ∀ vs' F' s', Le F F' → Items F' vs' (stepC M sg.cps.toList i its ts (fw, pt)).2.1 → vs'.size ≤ vs.size + 1 →
      St B os F' s' (c :: (a, AccP vs' d) :: (d, IniP (stepC M sg.cps.toList i its ts (fw, pt)).1) :: (140, TabP 93 19) :: (147, TabP 96 32) :: (ll, LinP (stepC M sg.cps.toList i its ts (fw, pt)).2.2) :: σ) → Q .none s') :
    wpAny (model prg w) A (call (.ref 91) [.ref m, .str fw t1, .str pt t2]) Q E s := by
  refine wpAny_call ?_
  refine' enterF fChunk (binds := [("self", .ref m), ("fws", .str fw t1), ("string", .str pt t2)]) (keys := ["self", "fws", "string"]) U x r ?k2 ?k3 ?k4 ?k5 ?k6 ?k7 ?_ ?c1 ?c2 ?c3
  k_extra "sides"
  intro L s₁ x₁ r₁
  replace x₁ := x₁.rot5
  clear x
  k_extra "go"
  rename St _ _ _ _ _ => x₂
  refine push_c U x₂ (by k_extra "rm") (by omega) fun t F' s' le e x' => ?_
  have hi' := (hi.le le).push (v := .ref t) (p := (fw, pt)) ⟨t, _, _, rfl, e⟩
  have hn' : (vs.push (.ref t)).size ≤ 1000 := by rw [Array.size_push]; omega
  clear x₂ x₁
  k_extra "go"
  · have hsz : (vs.push (.ref t)).size = (its ++ [(fw, pt)]).length := hi'.n
    generalize hv1 : vs.push (.ref t) = vs1 at *
    have hst : stepC M sg.cps.toList i its ts (fw, pt) = match splitAt (its ++ [(fw, pt)]) sg.cps.toList with
      | some k => (0, (its ++ [(fw, pt)]).drop k, ts ++ [accText ((its ++ [(fw, pt)]).take k)])
      | none => if 0 < i then (0, [(if fw.length = 0 then " " else fw, pt)], ts ++ [accText its]) else (i, its ++ [(fw, pt)], ts) := by
      unfold stepC; rw [if_pos (by assumption)]
    generalize hi1 : its ++ [(fw, pt)] = its1 at *
    refine wpAny_For ?_
    k_extra "go"
    rename St _ _ _ _ _ => x₁
    refine si_iter x₁ hsg fun it s₂ x₂ => ?_
    have x₃ := x₂.rot7 (a7 := c)
    replace x₃ := x₃.weak (l' := [("self", .ref m)]) (by intro p hp; rw [List.mem_singleton] at hp; subst hp; exact List.mem_cons_self)
    clear x₁ x₂
    refine forLoopQ (fun n s' => ∃ j F' tk, j + n = sg.cps.size ∧ splitAt its1 sg.cps.toList = splitAt its1 (sg.cps.toList.drop j) ∧ Le F F' ∧ Items F' vs1 its1 ∧ St B os F' s' ((L, Loc [("self", .ref m)]) :: (a, AccP vs1 d) :: (d, IniP i) :: (140, TabP 93 19) :: (147, TabP 96 32) :: (ll, LinP ts) :: (it, SitP sg tk j) :: c :: σ)) ?_ sg.cps.size ?_
    · rintro n s₃ ⟨j, F₃, tk, hj, hsp, le₃, hi₃, x₃⟩ Ro hR Qo hon hoc hob hor
      by_cases hn0 : n = 0
      · have hsplit : splitAt its1 sg.cps.toList = none := by
          rw [hsp, List.drop_of_length_le (by simp; omega)]; rfl
        rw [hst, hsplit] at h
        dsimp only at h
        refine si_end x₃ (by k_extra "memd") (.tail (.tail (.tail (.tail (.tail (.tail .head)))))) r₁.hh (by simp; omega) fun s₄ x₄ => ?_
        (try dsimp only)
        clear x₃ hon hob hor
        k_extra "gox"
        rename St _ _ _ _ _ => xx
        refine pop_e U xx (by k_extra "rm") hi₃ (by omega) fun tp u1 u2 ws Fa sa lea ea hia hza hza' xa => ?_
        rw [← hi1] at ea hia
        rw [show lastP (its ++ [(fw, pt)]) = (fw, pt) from by simp [lastP]] at ea
        rw [List.dropLast_concat] at hia
        have hta : IsTup sa.heap tp #[.str fw u1, .str pt u2] := ⟨_, xa.wd.fact ea, rfl, _, rfl⟩
        clear xx
        have hbd : fw.length + pt.length ≤ 1000 := hs (fw, pt) (by rw [← hi1]; simp)
        have hsi : Short its := hs.sub fun p hp => by rw [← hi1]; exact List.mem_append_left _ hp
        have hvz : vs1.size = vs.size + 1 := by rw [← hv1, Array.size_push]
        have lez : Le F Fa := le₃.trans lea
        clear hi₃ hi' le₃ lea
        k_extra "gox"
        · rename (0 < i) => hpos
          rw [if_pos hpos] at h
          dsimp only at h
          rename St _ _ _ _ _ => xz
          refine newline_c U (f.le lez) (by first | exact xz | exact xz.toks) (by k_extra "rm") hia hsi (by omega) h0 h1 (by omega) (fun e => by omega) hne hlay (by omega) fun Fb sb leb xb => ?_
          clear xz
          k_extra "gox"
          · rename (_ ≠ (0 : Int)) => hf0
            rename St _ _ _ _ _ => xz
            refine push_c U (by first | exact xz | exact xz.toks) (by k_extra "rm") (by simp) fun t' Fc sc lec ec xc => ?_
            clear xz
            k_extra "gox"
            k_extra "uq"
            (try dsimp only)
            k_extra "gox"
            rename St _ _ _ _ _ => xz
            rw [if_neg (show ¬ fw.length = 0 from by have h9 : (fw.length : Int) ≠ 0 := hf0; omega)] at h
            k_extra "uq"
            refine' h _ _ _ ?leZ ?itZ ?szZ (St.back5 xz)
            case leZ => k_extra "le"
            case itZ => exact Items.nil.push ⟨t', _, _, rfl, by k_extra "fact"⟩
            case szZ => simp
          · rename (_ = (0 : Int)) => hf0
            rename St _ _ _ _ _ => xz
            refine push_c U (by first | exact xz | exact xz.toks) (by k_extra "rm") (by simp) fun t' Fc sc lec ec xc => ?_
            clear xz
            k_extra "gox"
            k_extra "uq"
            (try dsimp only)
            k_extra "gox"
            rename St _ _ _ _ _ => xz
            rw [if_pos (show fw.length = 0 from by have h9 : (fw.length : Int) = 0 := hf0; omega)] at h
            k_extra "uq"
            refine' h _ _ _ ?leZ ?itZ ?szZ (St.back5 xz)
            case leZ => k_extra "le"
            case itZ => exact Items.nil.push ⟨t', _, _, rfl, by k_extra "fact"⟩
            case szZ => simp
        · rename (¬ 0 < i) => hpos
          rw [if_neg hpos] at h
          dsimp only at h
          rename St _ _ _ _ _ => xz
          refine push_c U (by first | exact xz | exact xz.toks) (by k_extra "rm") (by omega) fun t' Fc sc lec ec xc => ?_
          clear xz
          k_extra "gox"
          k_extra "uq"
          (try dsimp only)
          k_extra "gox"
          rename St _ _ _ _ _ => xz
          rw [← hi1] at h
          k_extra "uq"
          refine' h _ _ _ ?leZ ?itZ ?szZ (St.back5 xz)
          case leZ => k_extra "le"
          case itZ => exact (hia.le (by k_extra "le")).push ⟨t', _, _, rfl, by k_extra "fact"⟩
          case szZ => (rw [Array.size_push]; have n1 := hia.n; have n2 := hi.n; omega)
      · obtain ⟨ch, hch⟩ : ∃ ch, sg.cps[j]? = some ch := ⟨sg.cps[j], by simp⟩
        refine si_item x₃ (.tail (.tail (.tail (.tail (.tail (.tail .head)))))) hch fun t' s₄ x₄ => ?_
        (try dsimp only)
        clear x₃
        k_extra "gox"
        refine wpAny_For ?_
        k_extra "gox"
        rename St _ _ _ _ _ => x₅
        have hpos : 0 < vs1.size := by rw [hsz, ← hi1]; simp
        have he : ((vs1.size : Int) - 1) = ((vs1.size - 1 : Nat) : Int) := by omega
        refine rg_make x₅.toks (by decide) (by decide) fun rr F₆ s₆ le₆ e₆ x₆ => ?_
        rw [he] at e₆
        refine rg_iter x₆ e₆ (small_down (by omega)) fun it2 s₇ x₇ => ?_
        rw [rangeSize_down] at x₇
        replace x₇ := x₇.rot8
        replace x₇ := x₇.weak (l' := [("self", .ref m), ("ch", .str ⟨#[ch]⟩ t')]) (by intro p hp; exact hp)
        clear x₅ x₆
        have hi₇ : Items F₆ vs1 its1 := by k_extra "items"
        have le₇ : Le F F₆ := by k_extra "le"
        refine forLoopQ (fun n s' => ∃ F', Le F F' ∧ Items F' vs1 its1 ∧ n < vs1.size ∧ lastHit its1 ch (its1.length - 1) = lastHit its1 ch n ∧ St B os F' s' ((L, Loc [("self", .ref m), ("ch", .str ⟨#[ch]⟩ t')]) :: (a, AccP vs1 d) :: (d, IniP i) :: (140, TabP 93 19) :: (147, TabP 96 32) :: (ll, LinP ts) :: (it, SitP sg tk (j + 1)) :: (it2, Is (rgO n n (-1))) :: c :: σ)) ?_ (vs1.size - 1) ⟨F₆, le₇, hi₇, by omega, by rw [hsz], x₇⟩
        rintro n' s₃ ⟨F₈, le₈, hi₈, hlt, hlh, x₈⟩ Ri hRi Qi hin hic hib' hir
        by_cases hn1 : n' = 0
        · refine rg_end x₈ (by k_extra "memd") (.tail (.tail (.tail (.tail (.tail (.tail (.tail .head))))))) r₁.hh (by omega) fun s₉ x₉ => ?_
          (try dsimp only)
          clear x₈ x₇
          k_extra "gox"
          k_extra "uq"
          (try dsimp only)
          k_extra "gox"
          rename St _ _ _ _ _ => xx
          refine ⟨n - 1, by omega, j + 1, F₈, tk, by omega, ?_, le₈, hi₈, xx.weak1⟩
          have hd : sg.cps.toList.drop j = ch :: sg.cps.toList.drop (j + 1) := by
            rw [List.drop_eq_getElem_cons (by simp; omega)]
            congr 1
            have := hch
            rw [← Array.getElem?_toList] at this
            exact Option.some.inj ((List.getElem?_eq_getElem _).symm.trans this)
          rw [hsp, hd]
          show (match lastHit its1 ch (its1.length - 1) with | some k => some k | none => _) = _
          rw [hlh, hn1]; rfl
        · have hlt2 : n' < its1.length := by omega
          obtain ⟨y1, q1, tq1, u1, w1, rfl, e1⟩ := hi₈.at_ n' its1[n'] (by simp)
          obtain ⟨y0, q0, tq0, u0, w0, rfl, e0⟩ := hi₈.at_ (n' - 1) its1[n' - 1] (by simp)
          have b1 := hs its1[n'] (by simp)
          have b0 := hs its1[n' - 1] (by simp)
          replace q1 : vs1[((n' : Int)).toNat]? = some (.ref tq1) := q1
          replace q0 : vs1[((n' : Int) - 1).toNat]? = some (.ref tq0) := by
            rw [show ((n' : Int) - 1).toNat = n' - 1 from by omega]; exact q0
          refine rg_item x₈ (.tail (.tail (.tail (.tail (.tail (.tail (.tail .head))))))) (by omega) fun t₉ s₉ x₉ => ?_
          (try dsimp only)
          clear x₈ x₇
          rw [show ((n' : Int) + -1) = ((n' - 1 : Nat) : Int) from by omega, show ((n' : Int) - 1) = ((n' - 1 : Nat) : Int) from by omega] at x₉
          have lh0 : ht its1 ch n' = false → lastHit its1 ch (its1.length - 1) = lastHit its1 ch (n' - 1) := fun hf => by
            obtain ⟨z, rfl⟩ : ∃ z, n' = z + 1 := ⟨n' - 1, by omega⟩
            rw [hlh]; show (if ht its1 ch (z + 1) = true then _ else _) = _
            rw [hf]; rfl
          have lh1 : ht its1 ch n' = true → splitAt its1 sg.cps.toList = some n' := fun hf => by
            obtain ⟨z, rfl⟩ : ∃ z, n' = z + 1 := ⟨n' - 1, by omega⟩
            have hd : sg.cps.toList.drop j = ch :: sg.cps.toList.drop (j + 1) := by
              rw [List.drop_eq_getElem_cons (by simp; omega)]
              congr 1
              have := hch
              rw [← Array.getElem?_toList] at this
              exact Option.some.inj ((List.getElem?_eq_getElem _).symm.trans this)
            rw [hsp, hd]
            show (match lastHit its1 ch (its1.length - 1) with | some k => some k | none => _) = _
            rw [hlh]
            show (match (if ht its1 ch (z + 1) = true then some (z + 1) else _) with | some k => some k | none => _) = _
            rw [hf]; rfl
          have brk : ht its1 ch n' = true → ∀ s', St B os F₈ s' ((L, Loc [("self", .ref m), ("ch", .str ⟨#[ch]⟩ t'), ("i", .int n' t₉)]) :: (a, AccP vs1 d) :: (d, IniP i) :: (140, TabP 93 19) :: (147, TabP 96 32) :: (ll, LinP ts) :: (it, SitP sg tk (j + 1)) :: (it2, Is (rgO ((n' - 1 : Nat) : Int) ((n' - 1 : Nat) : Int) (-1))) :: c :: σ) → Qi .brk s' := fun hf s' xb => by
            clear x₉ lh0
            have hsplit := lh1 hf
            rw [hst, hsplit] at h
            dsimp only at h
            k_extra "uq"
            (try dsimp only)
            k_extra "gox"
            k_extra "uq"
            (try dsimp only)
            clear hin hib' hir hon hob hor
            k_extra "gox"
            rename St _ _ _ _ _ => xx
            replace xx := xx.weak1
            refine from_c U (by first | exact xx | exact xx.toks) (by k_extra "rm") hn' (by omega) fun q Fa sa lea ea xa => ?_
            have hia : Items Fa (vs1.toList.take n').toArray (its1.take n') := (hi₈.le lea).take n'
            have hib : Items Fa (vs1.toList.drop n').toArray (its1.drop n') := (hi₈.le lea).drop n'
            have hsa : Short (its1.take n') := hs.sub fun p hp => List.mem_of_mem_take hp
            have hza : (vs1.toList.take n').toArray.size ≤ 1000 := by simp; omega
            have hzb : (vs1.toList.drop n').toArray.size ≤ 1000 := by simp; omega
            have lea' : Le F Fa := le₈.trans lea
            clear xx hi₈ hi₇ le₈ le₇ hi'
            k_extra "gox"
            rename St _ _ _ _ _ => xz
            k_extra "uq"
            refine' h _ _ _ ?leZ ?itZ ?szZ (St.back7 xz)
            case leZ => k_extra "le"
            case itZ => (refine' Items.le hib ?_; k_extra "le")
            case szZ => (rw [← hv1] at *; simp)
          clear hib' hir
          k_extra "goe"
          k_extra "gox"
          all_goals first
            | (have hf : ht its1 ch n' = false := ht_0 hlt2 (by first | exact .inl (by assumption) | exact .inr (.inl (by assumption)) | exact .inr (.inr (by assumption))) (by first | exact .inl (by assumption) | exact .inr (by assumption))
               rename St _ _ _ _ _ => xx
               (try dsimp only)
               exact ⟨n' - 1, by omega, F₈, le₈, hi₈, by omega, lh0 hf, by first | exact xx.weak2 | exact xx.weak2.toks⟩)
            | (have hf : ht its1 ch n' = true := by first | exact ht_1 hlt2 (by assumption) (by assumption) (by assumption) | exact ht_2 hlt2 (by assumption) (by assumption)
               rename St _ _ _ _ _ => xx
               exact brk hf _ (by first | exact xx.weak3 | exact xx.weak3.toks))
    · exact ⟨0, _, _, by omega, rfl, by k_extra "le", by k_extra "items", x₃⟩
  · rw [show stepC M sg.cps.toList i its ts (fw, pt) = (i, its ++ [(fw, pt)], ts) from by unfold stepC; rw [if_neg (by assumption)]] at h
    rename St _ _ _ _ _ => xz
    k_extra "uq"
    refine' h _ _ _ ?leZ ?itZ ?szZ (St.back5 xz)
    case leZ => k_extra "le"
    case itZ => (refine' Items.le hi' ?_; k_extra "le")
    case szZ => rw [Array.size_push]; exact Nat.le_refl _
end
end
theorem linesM21 : True := by
  (k_with "call ref" => ((with_reducible show wpAny _ _ (call (Value.ref 122) _ _) _ _ _); refine' Mine.push_c (by assumption) (by k_extra "stk") (by k_extra "rm") (by first | assumption | omega) ?_; intro _ _ _ _ _ _))
  trivial
section
section
variable {w : World} {mg mb : Str → Option Value} {B : Heap} {os : OsState} {F : Facts} {s : Shared} {σ σ' : List Cell} {A : Around} {k : Nat} {E : Value → Shared → Prop} {a d m ll it : Addr} {vs : Array Value} {v : Value} {i M : Int} {sg : Str}
theorem strs_length : ∀ {l : List Value} {ts : List Str}, StrsAre l ts → l.length = ts.length
  | _, _, .nil => rfl
  | _, _, .cons _ _ h => by simp [strs_length h]
theorem lin_join {sep : Str} {t : Tok} {ts : List Str} {Q : Value → Shared → Prop} (x : St B os F s σ) (hm : (ll, LinP ts) ∈ σ) (hok : (ts.map (·.length)).sum + ts.length * sep.length ≤ 16777216)
    (h : ∀ t' s', St B os F s' σ → Q (.str (Txt.join sep ts) t') s') : wpAny (model prg w) A (call (.builtin "str.join") [.str sep t, .ref ll]) Q E s := by
  obtain ⟨o, e, n, us, rfl, hs⟩ := x.wd.cell _ hm
  exact PyProof.Rows.join_list (items := us) ⟨_, e, rfl, _, rfl⟩ hs hok fun t' k => h t' _ x.toks
theorem str_m {c : Cell} {its : List (Str × Str)} {ts : List Str} {sep : Str} {t0 : Tok} {Q : Value → Shared → Prop} (U : Bs w mg mb B) (f : Fmt F m M sg ll a) (x : St B os F s (c :: (a, AccP vs d) :: (d, IniP i) :: (140, TabP 93 19) :: (147, TabP 96 32) :: (ll, LinP ts) :: σ)) (r : Rm A 40)
    (hi : Items F vs its) (hs : Short its) (hn : vs.size ≤ 900) (h0 : 0 ≤ i) (h1 : i ≤ 1000)
    (hp : 0 < i + tot its) (hsp : i = 0 → Txt.isspace (accText its) = false) (hne : ∀ p ∈ its, p.2 ≠ Str.ofString "") (hlay : ∀ p ∈ its, Lay2 p) (hl : ts.length < 900)
    (hok : ((ts ++ [accText its]).map (·.length)).sum + (ts ++ [accText its]).length * sep.length ≤ 16777216)
    (h : ∀ t' F' s', Le F F' → St B os F' s' (c :: (a, AccP #[] d) :: (d, IniP 0) :: (140, TabP 93 19) :: (147, TabP 96 32) :: (ll, LinP (ts ++ [accText its])) :: σ) → Q (.str (Txt.join sep (ts ++ [accText its])) t') s') :
    wpAny (model prg w) A (call (.ref 42) [.ref m, .str sep t0]) Q E s := by
  refine wpAny_call ?_
  refine' enterF fStr_ (binds := [("self", .ref m), ("linesep", .str sep t0)]) (keys := ["self", "linesep"]) U x r ?k2 ?k3 ?k4 ?k5 ?k6 ?k7 ?_ ?c1 ?c2 ?c3
  k_extra "sides"
  intro L s₁ x₁ r₁
  replace x₁ := x₁.rot5
  clear x
  k_extra "go"
  rename St _ _ _ _ _ => x₂
  refine newline_c U f x₂ (by k_extra "rm") hi hs hn h0 h1 hp hsp hne hlay (by omega) fun F' s' le x' => ?_
  k_extra "go"
  rename St _ _ _ _ _ => xz
  refine lin_join xz (by k_extra "memd") hok fun t' s' xy => ?_
  k_extra "uq"
  exact h _ _ _ (by k_extra "le") (St.back5 xy)
end
end
section
section
variable {w : World} {mg mb : Str → Option Value} {B : Heap} {os : OsState} {F : Facts} {s : Shared} {σ σ' : List Cell} {A : Around} {k : Nat} {E : Value → Shared → Prop} {a d m ll it : Addr} {vs : Array Value} {v : Value} {i M : Int} {sg : Str} {R : Result → Shared → Prop} {h : Heap} {g : Array GenState} {dr : Drawn} {t : Nat}
theorem acc_cls : ∀ P, ∃ oc od cd sl, List.lookup 178 (frag0.heap_1 P) = some ⟨oc, od, .cls cd, sl⟩ ∧ cd.abstract = false ∧ cd.hasDel = false ∧ cd.hasDict = true ∧ cd.mro = [.ref 178, .type "list", .type "object"] ∧ sl[4]? = some (some (.builtin "list.__new__")) :=
  fun P => ⟨_, _, _, _, by k_is, rfl, rfl, rfl, rfl, rfl⟩
set_option maxHeartbeats 4000000 in
theorem make_acc {rest : List Value} (X : (frag0.heap_1 w.params).In h)
    (hq : codeAny (model prg w) (A.under (.builtin "type.__call__" ⟨.ref 178 :: rest, []⟩)) (.call (.ref 115) ⟨.ref (h.objs.size + 1) :: rest, []⟩) (InitBack (h.objs.size + 1) R) ⟨(h.push emptyDict).push ⟨.ref 178, some h.objs.size, .seq #[], #[]⟩, g, dr, t, os⟩) :
    codeAny (model prg w) A (.call (.ref 178) ⟨rest, []⟩) R ⟨h, g, dr, t, os⟩ := by
  obtain ⟨oc, od, cd, sl, ho, e1, e2, e3, e4, e5⟩ := acc_cls w.params
  have hC := X _ _ ho
  have hcd : clsIn (frag0.heap_1 w.params) 178 = some cd := by unfold clsIn; rw [ho]
  have hm : Looks (model prg w) h (mroOf (.ref 178)) cd.mro := (looks_clsIn X hcd).andThen .now
  have made : Looks (model prg w) h (Bind.madeBy (.ref 178)) (some "list.__new__") := by
    intro A Q E s k q
    unfold Bind.madeBy
    refine wpAny_bind (hm A _ E s k ?_)
    rw [e4, List.forIn_cons]
    refine wpAny_bind (wpAny_bind (wpAny_bind (wpAny_bind (wpAny_loadPart (k _ _ hC) (wpAny_pure ?_)))))
    (try dsimp only)
    rw [e5]
    exact wpAny_pure (wpAny_pure (wpAny_pure q))
  have call : Looks (model prg w) h (specialOf (.ref 178) "__call__") (some (.builtin "type.__call__")) := looks_specialIn X (by k_is)
  have typ : Looks (model prg w) h (isInstance (.ref 178) (.type "type")) true := looks_instIn X (by k_is)
  have hi : Looks (model prg w) h (typeLookup (.ref 178) "__init__") (some (.ref 115)) := looks_findIn X (by k_is)
  have self : Looks (model prg w) h (isSubtype (.ref 178) (.ref 178)) true := looks_subIn X (by k_is)
  have sub : Looks (model prg w) h (isSubtype (.ref 178) (.type "list")) true := looks_subIn X (by k_is)
  refine codeAny_of_tree ?_
  show wpAny _ _ (callAny (.ref 178) _) _ _ _
  refine nd_load hC ?_
  show wpAny _ _ (callAny.viaDunder (.ref 178) _) _ _ _
  unfold callAny.viaDunder
  refine wpAny_bind (call.at ?_)
  (try dsimp only)
  rw [tc_bind]
  refine wpAny_bind (wpAny_pure (wpAny_bind (wpAny_pure ?_)))
  refine wpAny_pure (a := Fin.again (.call (.builtin "type.__call__") ⟨.ref 178 :: rest, []⟩)) (And.intro rfl ?_)
  refine codeAny_call_builtin_at (Code.quiet_builtin _ (by decide +kernel)) entry_typeCall (check_slot tc_kind tc_split typ (tc_args _ _ _) ?_)
  unfold Builtin.«type.__call__»
  have e4' : cd.mro.isEmpty = false := by rw [e4]; rfl
  repeat (first | simp only [e4', Bool.false_eq_true, if_false] | with_reducible refine wpAny_call ?_ | lk)
  have base : Looks (model prg w) h (Bind.staticBase (.ref 178)) (.ref 178) := by
    intro A Q E s k q
    unfold Bind.staticBase
    refine wpAny_bind (hm A _ E s k ?_)
    rw [e4, List.forIn_cons]
    exact wpAny_bind (wpAny_bind (wpAny_bind (made A _ E s k (wpAny_pure (wpAny_pure (wpAny_pure q))))))
  have here : Looks (model prg w) h (Bind.madeHere "list.__new__" (.ref 178)) () := base.andThen (made.andThen (Looks.of_pure (by simp only [Option.map_some, bne_self_eq_false, Bool.false_eq_true, if_false])))
  have ty : Looks (model prg w) h (isType (.ref 178)) true := (Looks.ld hC).andThen .now
  have kd : builtinKind "list.__new__" = some .builtinFn := by decide +kernel
  have sp : splitId "list.__new__" = some ("list", "__new__") := by decide +kernel
  have sg : argsOk "list.__new__" ⟨.ref 178 :: rest, []⟩ := by unfold argsOk; kernel_rfl
  refine codeAny_of_tree ?_
  show wpAny _ _ (do checkBuiltinCall "list.__new__" ⟨.ref 178 :: rest, []⟩; again (.builtin "list.__new__" ⟨.ref 178 :: rest, []⟩)) _ _ _
  refine wpAny_bind ?_
  unfold checkBuiltinCall
  simp only [kd, sp]
  have kdn : (("__new__" : String) == "__new__") = true := by decide
  repeat (first | simp only [bne_self_eq_false, Bool.false_eq_true, if_false, Bool.not_true] | lk)
  refine ⟨plainId_quiet PySem.F.plain_list_new _, codeAny_builtin_stack PySem.F.entry_list_new rfl fun p st => ?_⟩
  rw [Around.under_plainId PySem.F.plain_list_new _]
  have hown := PySem.owner_list_new
  simp only [hown]
  have k : ∀ b o, h.get? b = some o → ((h.push { cls := .type "dict", data := .dict #[] }).push { cls := .ref 178, dict := some h.objs.size, data := .seq #[] }).get? b = some o := fun b o e => Heap.get?_push_of_some _ (Heap.get?_push_of_some _ e)
  have hC2 := k _ _ hC
  have hz : (h.push { cls := .type "dict", data := .dict #[] }).objs.size = h.objs.size + 1 := Heap.size_push ..
  have hx : ((h.push { cls := .type "dict", data := .dict #[] }).push { cls := .ref 178, dict := some h.objs.size, data := .seq #[] }).get? (h.objs.size + 1) = some { cls := .ref 178, dict := some h.objs.size, data := .seq #[] } := by
    rw [← hz]; exact Heap.get?_push_size _ rfl
  have t1 : Looks (model prg w) ((h.push { cls := .type "dict", data := .dict #[] }).push { cls := .ref 178, dict := some h.objs.size, data := .seq #[] }) (typeOf (.ref (h.objs.size + 1))) (.ref 178) := (Looks.ld hx).andThen .now
  have s1 := self.keeps k
  have i1 := hi.keeps k
  have b1 := (bind_fn X (.ref (h.objs.size + 1)) (show typeIn (frag0.heap_1 w.params) (.ref 115) = some (.type "function") from by k_is)).keeps k (M := model prg w)
  repeat (first | with_reducible refine wpAny_call ?_ | simp only [Bool.false_eq_true, if_false, Bool.not_true, e2, hz] | lk)
  refine codeAny_mono hq fun r s' z => ?_
  rcases r with e | (v | _ | _ | _) <;> first | exact z | exact z.elim | skip
  obtain ⟨rfl, z⟩ := z
  exact wpAny_pure (wpAny_pure z)
end
end
section
section
variable {w : World} {mg mb : Str → Option Value} {B : Heap} {os : OsState} {F : Facts} {s : Shared} {σ σ' : List Cell} {A : Around} {k : Nat} {E : Value → Shared → Prop} {a d m ll it : Addr} {vs : Array Value} {v : Value} {i M : Int} {sg : Str} {R : Result → Shared → Prop}
theorem acc_setfirst {j : Int} {tk : Tok} {Q : Unit → Shared → Prop} (U : Bs w mg mb B) (x : St B os F s σ) (hm : (a, AccP vs d) ∈ σ) (u : Up d (Exa []) (IniP j) σ σ') (h : ∀ s', St B os F s' σ' → Q () s') :
    wpAny (model prg w) A (setAttr (.ref a) "_initial_size" (.int j tk)) Q E s := by
  obtain ⟨n, e⟩ := acc_get x hm
  obtain ⟨od, e2, q⟩ := x.wd.cell _ u.mem
  obtain ⟨cd, hc, hmro, hhas⟩ : ∃ cd, clsIn (frag0.heap_1 w.params) 178 = some cd ∧ cd.mro = [.ref 178, .type "list", .type "object"] ∧ cd.hasDict = true := ⟨_, by k_is, rfl, rfl⟩
  refine set_attr (l' := [("_initial_size", .int j tk)]) (C := 178) (x.In U) e rfl rfl e2 q (by simp) hc hhas (by rw [hmro]; exact refuse_acc) (by k_is) (by k_is) (by k_is) (fun y => ?_) fun h' tk' od' hs g q' => ?_
  · simp only [List.lookup_cons, List.lookup_nil]
    by_cases hy : y = Str.ofString "_initial_size"
    · subst hy; simp
    · have : (y == Str.ofString "_initial_size") = false := by simpa using hy
      simp [hy, this]
  · k_extra "uq"
    exact h _ (x.with_ (x.wd.same u hs ⟨od', g, tk, q'⟩))
theorem ainit_c {c : Cell} {j : Int} {t0 : Tok} (U : Bs w mg mb B) (x : St B os F s (c :: (a, AccP #[] d) :: (d, Exa []) :: σ)) (r : Rm A 7)
    (h : ∀ F' s', Le F F' → St B os F' s' (c :: (a, AccP #[] d) :: (d, IniP j) :: σ) → R (.ok (.ret .none)) s') :
    codeAny (model prg w) A (.call (.ref 115) ⟨[.ref a, .int j t0], []⟩) R s := by
  refine' enterFC fAInit (binds := [("self", .ref a), ("initial_size", .int j t0)]) (keys := ["self", "initial_size"]) U x r ?k2 ?k3 ?k4 ?k5 ?k6 ?k7 ?_ ?c1 ?c2 ?c3
  k_extra "sides"
  intro L s₁ x₁ r₁
  replace x₁ := x₁.swap.perm (.cons _ (.cons _ (.swap _ _ _)))
  clear x
  refine ks_wpAt_execs_cons (wpAt_of_wpAny ?_)
  k_extra "go"
  rename St _ _ _ _ _ => x₂
  refine acc_setfirst U x₂ (by k_extra "memd") (.tail (.tail .head)) fun s₃ x₃ => ?_
  clear x₂
  k_extra "go"
  refine ks_wpAt_execs_cons (ks_wpAt_Expr_any (ks_wpAt_MethodCall ?_))
  refine acc_super (a := a) (vs := #[]) (d := d) (cc := 114) fAInit U x₃ (by k_extra "memd") (by k_extra "mem") rfl rfl rfl rfl rfl rfl rfl rfl rfl rfl (by k_is) rfl (by decide +kernel) (by decide) ?_
  intro so F' s' le e x₄
  refine acc_super_m (a := a) (vs := #[]) (d := d) (Bi := Builtin.«wrapper_descriptor.__get__») (bt := "method-wrapper") (id := "list.__init__") U x₄ (by k_extra "memd") e (by kernel_rfl) type_init slot_wd_get entry_wd_get args_wd_get (by decide) (fun A' Q' E' s hi z => wd_run hi (by decide +kernel) z) ?_
  intro q F'' s'' le' e' x₅
  (try dsimp only)
  refine callWith_bnd0 (x₅.wd.fact e') (.inl rfl) (call_bnd (Bi := Builtin.«list.__init__») (x₅.wd.fact e') (.inl rfl) (fun Q' E' A' z => ?_) (by decide +kernel) (entryFor_of_tree (by kernel_rfl)) ?_)
  · refine wpAny_of_eq (a := ()) (by kernel_rfl) z
  obtain ⟨n, ea⟩ := acc_get x₅ (a := a) (vs := #[]) (d := d) (by k_extra "memd")
  unfold Builtin.«list.__init__»
  refine wpAny_bind (m := Builtin.List.listItems (.ref a)) ?_
  unfold Builtin.List.listItems
  refine wpAny_bind (wpAny_seqItems ea (show (accO #[] n d).data = .seq #[] n from rfl) (wpAny_pure ?_))
  dsimp only [Builtin.List.listUpdate]
  refine wpAny_bind (acc_update x₅ (f := fun _ => #[]) (.tail .head) (by simp) fun s₆ x₆ => ?_)
  refine wpAny_bind (wpAny_letGo (wpAny_pure ⟨_, rfl, ?_⟩))
  refine wpAt_of_wpAny (wpAny_execs_nil ?_)
  k_extra "uq"
  exact h _ _ (le.trans le') (St.back2 x₆)
end
end
section
section
variable {w : World} {mg mb : Str → Option Value} {B : Heap} {os : OsState} {F : Facts} {s : Shared} {σ σ' : List Cell} {A : Around} {k : Nat} {E : Value → Shared → Prop} {a d m ll it : Addr} {vs : Array Value} {v : Value} {i M : Int} {sg : Str} {R : Result → Shared → Prop}
theorem Rm.under {c : Code} (r : Rm A (k + 1)) (hw : c.weight ≤ 1) (hu : c.cUnits ≤ 10) : Rm (A.under c) k := ⟨r.hh, by have := r.d; show A.depth + c.weight + k < 900; omega, by have := r.u; show A.units + c.cUnits + 10 * k < 9000; omega⟩
theorem acc_new {c : Cell} {j : Int} {t0 : Tok} {Q : Value → Shared → Prop} (U : Bs w mg mb B) (x : St B os F s (c :: σ)) (r : Rm A 9)
    (h : ∀ a d F' s', Le F F' → St B os F' s' (c :: (a, AccP #[] d) :: (d, IniP j) :: σ) → Q (.ref a) s') :
    wpAny (model prg w) A (call (.ref 178) [.int j t0]) Q E s := by
  refine wpAny_call ?_
  obtain ⟨hh, g, dr, t, oo⟩ := s
  refine make_acc (x.In U) ?_
  have hz : (hh.push emptyDict).objs.size = hh.objs.size + 1 := Heap.size_push ..
  have y1 := x.wd.new (P := Exa []) (Wd.size_none hh) (fun _ _ e => Heap.get?_push_of_some emptyDict e) ⟨_, Heap.get?_push_size _ rfl, ⟨#[], 0, rfl, fun e he => absurd he (by simp), fun _ => rfl⟩, #[], 0, rfl, by unfold UniqKeys; exact List.Pairwise.nil⟩
  have y2 := y1.new (P := AccP #[] hh.objs.size) (Wd.size_none _) (fun _ _ e => Heap.get?_push_of_some (accO #[] 0 hh.objs.size) e) ⟨_, Heap.get?_push_size _ rfl, 0, rfl⟩
  rw [hz] at y2
  have x2 : St B os F ⟨(hh.push emptyDict).push (accO #[] 0 hh.objs.size), g, dr, t, oo⟩ (c :: (hh.objs.size + 1, AccP #[] hh.objs.size) :: (hh.objs.size, Exa []) :: σ) :=
    ⟨y2.perm ((List.perm_middle (l₁ := [_, _]) (l₂ := σ))), x.bare, x.os⟩
  refine ainit_c U x2 (Rm.under (r.le (by decide)) (Nat.le_of_ble_eq_true rfl) (Nat.le_of_ble_eq_true rfl)) fun F' s' le x' => ?_
  exact ⟨rfl, h _ _ _ _ le x'⟩
end
end
section
section
variable {w : World} {mg mb : Str → Option Value} {B : Heap} {os : OsState} {F : Facts} {s : Shared} {σ σ' : List Cell} {A : Around} {k : Nat} {E : Value → Shared → Prop} {a d m md ll it : Addr} {vs : Array Value} {v : Value} {i M : Int} {sg : Str} {R : Result → Shared → Prop}
theorem lookup_snoc {l : List (Str × Value)} {name : Str} (h : l.all (fun p => p.1 != name) = true) (y : Str) : (if y = name then some v else l.lookup y) = (l ++ [(name, v)]).lookup y := by
  induction l with
  | nil =>
    rw [List.nil_append, List.lookup_cons]
    by_cases hy : y = name
    · subst hy; simp
    · have : (y == name) = false := by simpa using hy
      simp [hy, this]
  | cons p r ih =>
    rw [List.all_cons, Bool.and_eq_true] at h
    rw [List.cons_append, List.lookup_cons, List.lookup_cons, ← ih h.2]
    have hp : p.1 ≠ name := by simpa using h.1
    cases e : y == p.1 with
    | true =>
      have : y = p.1 := beq_iff_eq.mp e
      rw [if_neg (fun z => hp (this.symm.trans z))]
    | false => rfl
theorem fm_set {l : List (Str × Value)} {name : Str} {Q : Unit → Shared → Prop} (U : Bs w mg mb B) (x : St B os F s σ) (e : F m = some (instObj 94 md)) (u : Up md (Exa l) (Exa (l ++ [(name, v)])) σ σ') (hn : l.all (fun p => p.1 != name) = true) (hlen : l.length ≤ 900)
    (ht : takerIn (frag0.heap_1 w.params) 94 name = some none) (h : ∀ s', St B os F s' σ' → Q () s') : wpAny (model prg w) A (setAttr (.ref m) name v) Q E s := by
  obtain ⟨od, e2, q⟩ := x.wd.cell _ u.mem
  obtain ⟨cd, hc, hmro, hhas⟩ : ∃ cd, clsIn (frag0.heap_1 w.params) 94 = some cd ∧ cd.mro = [.ref 94, .type "object"] ∧ cd.hasDict = true := ⟨_, by k_is, rfl, rfl⟩
  refine set_attr (l' := l ++ [(name, v)]) (C := 94) (x.In U) (x.wd.fact e) rfl rfl e2 q hlen hc hhas (by rw [hmro]; exact fun self => refuse_only self rfl) (by k_is) (by k_is) ht (lookup_snoc hn) fun h' tk' od' hs g q' => ?_
  k_extra "uq"
  exact h _ (x.with_ (x.wd.same u hs ⟨od', g, q'⟩))
theorem ownM25a : True := by
  (k_with "newList" => (refine' Mine.lstC (by first | assumption | exact Mine.St.toks (by assumption)) (by simp) ?_; intro _ _ _))
  trivial
theorem finit_c {c : Cell} {hl W : Int} {t1 t2 t3 t4 : Tok} (U : Bs w mg mb B) (e : F m = some (instObj 94 md)) (x : St B os F s (c :: (md, Exa []) :: σ)) (r : Rm A 20)
    (h : ∀ a d ll F' s', Le F F' → Fmt F' m W sg ll a → St B os F' s' (c :: (a, AccP #[] d) :: (d, IniP hl) :: (ll, LinP []) :: σ) → R (.ok (.ret .none)) s') :
    codeAny (model prg w) A (.call (.ref 35) ⟨[.ref m, .int hl t1, .int W t2, .str "\t" t3, .str sg t4], []⟩) R s := by
  refine' enterF fInit (binds := [("self", .ref m), ("headerlen", .int hl t1), ("maxlen", .int W t2), ("continuation_ws", .str "\t" t3), ("splitchars", .str sg t4)]) (keys := ["self", "headerlen", "maxlen", "continuation_ws", "splitchars"]) U x r ?k2 ?k3 ?k4 ?k5 ?k6 ?k7 ?_ ?c1 ?c2 ?c3
  k_extra "sides"
  intro L s₁ x₁ r₁
  replace x₁ := x₁.swap
  clear x
  k_extra "go"
  rename St _ _ _ _ _ => x₂
  refine fm_set U x₂ e (.tail .head) (by kernel_rfl) (by simp) (by k_is) fun s₃ x₃ => ?_
  clear x₂
  k_extra "go"
  rename St _ _ _ _ _ => x₂
  refine fm_set U x₂ e (.tail .head) (by kernel_rfl) (by simp) (by k_is) fun s₃ x₃ => ?_
  clear x₂
  k_extra "go"
  refine PyProof.Rows.len_str (by decide +kernel) ?_
  k_extra "go"
  refine fm_set U x₃.toks e (.tail .head) (by kernel_rfl) (by simp) (by k_is) fun s₄ x₄ => ?_
  clear x₃
  k_extra "go"
  rename St _ _ _ _ _ => x₂
  refine fm_set U x₂ e (.tail .head) (by kernel_rfl) (by simp) (by k_is) fun s₃ x₃ => ?_
  clear x₂
  k_extra "go"
  rename St _ _ _ _ _ => x₂
  refine fm_set U x₂ e (.tail (.tail .head)) (by kernel_rfl) (by simp) (by k_is) fun s₃ x₃ => ?_
  clear x₂
  k_extra "go"
  rename St _ _ _ _ _ => x₂
  refine acc_new U x₂ (by k_extra "rm") fun a d F' s₅ le x₅ => ?_
  clear x₂ x₃
  k_extra "go"
  rename St _ _ _ _ _ => x₂
  refine fm_set U x₂ (le _ _ e) (.tail (.tail (.tail (.tail .head)))) (by kernel_rfl) (by simp) (by k_is) fun s₆ x₆ => ?_
  clear x₂
  k_extra "go"
  rename St _ _ _ _ _ => x₂
  obtain ⟨od, ed, qd⟩ := x₂.wd.cell _ (.tail _ (.tail _ (.tail _ (.tail _ (.head _)))))
  have y1 := x₂.wd.turn (P' := Is od) (.tail (.tail (.tail (.tail .head)))) (fun _ _ _ z => z) ⟨od, ed, rfl⟩
  obtain ⟨y2, le2, e3⟩ := y1.freeze (.tail (.tail (.tail (.tail .head)))) (.tail _ (.tail _ (.tail _ (.tail _ (.head _)))))
  have y3 := y2.imp (P' := LinP []) (.tail (.tail (.tail .head))) (fun o (ho : Is _ o) => by rw [ho]; exact ⟨0, #[], rfl, .nil⟩)
  have x3 : St B os _ _ _ := x₂.of y3
  refine h a d _ _ _ (le.trans le2) ⟨md, od, _, _, _, _, le2 _ _ (le _ _ e), e3, qd⟩ ?_
  exact (x3.drop .head).perm (List.perm_middle (l₁ := [_, _, _]))
end
end
theorem backM25 : True := by
  (k_with "newList" => (refine' Mine.lstF (by k_extra "stk") (by k_extra "simp") ?_; intros))
  trivial
section
section
variable {w : World} {mg mb : Str → Option Value} {B : Heap} {os : OsState} {F : Facts} {s : Shared} {σ σ' : List Cell} {A : Around} {k : Nat} {E : Value → Shared → Prop} {a d m md ll it : Addr} {vs : Array Value} {v : Value} {i M : Int} {sg : Str} {R : Result → Shared → Prop}
theorem fmt_new {c : Cell} {hl W : Int} {t1 t2 t3 t4 : Tok} {Q : Value → Shared → Prop} (U : Bs w mg mb B) (x : St B os F s (c :: σ)) (r : Rm A 30)
    (h : ∀ m a d ll F' s', Le F F' → Fmt F' m W sg ll a → St B os F' s' (c :: (a, AccP #[] d) :: (d, IniP hl) :: (ll, LinP []) :: σ) → Q (.ref m) s') :
    wpAny (model prg w) A (call (.ref 94) [.int hl t1, .int W t2, .str "\t" t3, .str sg t4]) Q E s := by
  refine wpAny_call ?_
  obtain ⟨hh, g, dr, t, oo⟩ := s
  have X := x.In U
  refine make_core (makes_of X (by k_is)) (looks_findIn X (show findIn (frag0.heap_1 w.params) (.ref 94) "__init__" = some (some (.ref 35)) from by k_is)) (fun self => bind_fn X self (by k_is)) (.inl rfl) ?_
  have hz : (hh.push emptyDict).objs.size = hh.objs.size + 1 := Heap.size_push ..
  have y1 := x.wd.new (P := Exa []) (Wd.size_none hh) (fun _ _ e => Heap.get?_push_of_some emptyDict e) ⟨_, Heap.get?_push_size _ rfl, ⟨#[], 0, rfl, fun e he => absurd he (by simp), fun _ => rfl⟩, #[], 0, rfl, by unfold UniqKeys; exact List.Pairwise.nil⟩
  have y2 := y1.push (instObj 94 hh.objs.size)
  rw [hz] at y2
  obtain ⟨y3, le, e3⟩ := y2.freeze .head (.head _)
  have x2 : St B os _ ⟨(hh.push emptyDict).push (instObj 94 hh.objs.size), g, dr, t, oo⟩ (c :: (hh.objs.size, Exa []) :: σ) := ⟨y3.perm (.swap ..), x.bare, x.os⟩
  refine finit_c U e3 x2 (Rm.under (r.le (by decide)) (Nat.le_of_ble_eq_true rfl) (Nat.le_of_ble_eq_true rfl)) fun a d ll F' s' le' f x' => ?_
  exact ⟨rfl, h _ _ _ _ _ _ (le.trans le') f x'⟩
end
end
theorem linesM27 : True := by
  (k_with "loadName" => (refine' Mine.ldn (by k_extra "stk") (by k_extra "mem") ?_; intros))
  (k_with "binaryOp Add str str" => (refine' PyProof.Rows.SBL.add ?_ (by rw [sizeLine_eq]; have hlen_f : (Str.ofString "f").length = 1 := (by decide); omega); intro _ _ _))
  trivial
section
section
variable {w : World} {mg mb : Str → Option Value} {B : Heap} {os : OsState} {F : Facts} {s : Shared} {σ σ' : List Cell} {A : Around} {k : Nat} {E : Value → Shared → Prop} {a d m md ll it : Addr} {vs : Array Value} {v : Value} {i M : Int} {sg : Str} {R : Result → Shared → Prop}
/-- how often base divides n -/
noncomputable def rankOf (b : Nat) : Nat → Nat → Nat
  | 0, _ => 0
  | f + 1, n => if n % b = 0 then rankOf b f (n / b) + 1 else 0
theorem St.reord {L : Addr} {p1 p2 p3 p4 p5 : Str × Value} (x : St B os F s ((L, Loc [p1, p2, p3, p4, p5]) :: σ)) : St B os F s ((L, Loc [p4, p1, p2, p3, p5]) :: σ) := x.weak fun p hp => by
  simp only [List.mem_cons, List.not_mem_nil, or_false] at hp ⊢
  rcases hp with q | q | q | q | q <;> simp [q]
theorem word_c {c : Cell} {n b : Nat} {wh ot : Str} {t1 t2 t3 t4 : Tok} {Q : Value → Shared → Prop} (U : Bs w mg mb B) (x : St B os F s (c :: σ)) (r : Rm A 5) (hn : 0 < n) (hn2 : n < 64) (hb : 2 ≤ b) (hb2 : b ≤ 4) (hwh : wh.length ≤ 100) (hot : ot.length ≤ 100)
    (h : ∀ t F' s', Le F F' → St B os F' s' (c :: σ) → Q (.str ((if 0 < rankOf b 6 n then ot else wh) ++ "f" ++ Txt.item "abcdef" (rankOf b 6 n)) t) s') :
    wpAny (model prg w) A (call (.ref 269) [.int n t1, .int b t2, .str wh t3, .str ot t4]) Q E s := by
  refine wpAny_call ?_
  refine' enterF fWord (binds := [("number", .int n t1), ("base", .int b t2), ("white", .str wh t3), ("other", .str ot t4)]) (keys := ["number", "base", "white", "other"]) U x r ?k2 ?k3 ?k4 ?k5 ?k6 ?k7 ?_ ?c1 ?c2 ?c3
  k_extra "sides"
  intro L s₁ x₁ r₁
  clear x
  k_extra "go"
  rename St _ _ _ _ _ => x₂
  refine wpAny_While (codeAny_whileLoop (fun n' s' => ∃ (m k : Nat) (u1 u2 : Tok), 0 < m ∧ n' = m ∧ m * 2 ^ k ≤ n ∧ k ≤ 5 ∧ rankOf b (6 - k) m + k = rankOf b 6 n ∧
    St B os F s' ((L, Loc [("number", .int m u1), ("base", .int b t2), ("white", .str wh t3), ("other", .str ot t4), ("rank", .int k u2)]) :: c :: σ)) ?_ n ⟨n, 0, _, _, hn, rfl, by omega, by omega, rfl, x₂⟩)
  clear x₂ x₁
  rintro n' s₂ ⟨m, k, u1, u2, hm, rfl, hmk, hk, hr, x₂⟩
  k_extra "gox"
  · rename (Int.fmod _ _ = 0) => hf
    rename St _ _ _ _ _ => xx
    have e1 : Int.fmod (n' : Int) b = ((n' % b : Nat) : Int) := by rw [Int.fmod_eq_emod_of_nonneg _ (by omega)]; rfl
    have e2 : Int.fdiv (n' : Int) b = ((n' / b : Nat) : Int) := by rw [Int.fdiv_eq_ediv_of_nonneg _ (by omega)]; rfl
    have hd : n' % b = 0 := by rw [e1] at hf; exact_mod_cast hf
    rw [e2, show ((k : Int) + 1) = ((k + 1 : Nat) : Int) from by omega] at xx
    have hmul : b * (n' / b) = n' := Nat.mul_div_cancel' (Nat.dvd_of_mod_eq_zero hd)
    have hq : 0 < n' / b := by
      rcases Nat.eq_zero_or_pos (n' / b) with z | z
      · rw [z, Nat.mul_zero] at hmul; omega
      · exact z
    have hle : 2 * (n' / b) ≤ n' := by
      calc 2 * (n' / b) ≤ b * (n' / b) := Nat.mul_le_mul_right _ hb
        _ = n' := hmul
    have hpow : n' / b * 2 ^ (k + 1) ≤ n := by
      calc n' / b * 2 ^ (k + 1) = (2 * (n' / b)) * 2 ^ k := by rw [Nat.pow_succ, Nat.mul_comm (2 ^ k) 2, ← Nat.mul_assoc, Nat.mul_comm (n' / b) 2]
        _ ≤ n' * 2 ^ k := Nat.mul_le_mul_right _ hle
        _ ≤ n := hmk
    have hk5 : k + 1 ≤ 5 := by
      rcases Nat.lt_or_ge k 5 with z | z
      · omega
      · have : k = 5 := by omega
        subst this
        have : 1 * 2 ^ 6 ≤ n' / b * 2 ^ 6 := Nat.mul_le_mul_right _ hq
        omega
    (try dsimp only)
    refine ⟨n' / b, by omega, n' / b, k + 1, _, _, hq, rfl, hpow, hk5, ?_, xx.reord⟩
    · obtain ⟨z, hz⟩ : ∃ z, 6 - k = z + 1 := ⟨5 - k, by omega⟩
      have hz' : 6 - (k + 1) = z := by omega
      rw [hz] at hr
      rw [hz', ← hr]
      show _ = (if n' % b = 0 then rankOf b z (n' / b) + 1 else 0) + k
      rw [if_pos hd]; omega
  all_goals
    refine tail_of_ItemOn (SBL.item (by have h6 : (Str.ofString "abcdef").length = 6 := (by decide); omega) (by have h6 : (Str.ofString "abcdef").length = 6 := (by decide); omega) (by have h6 : (Str.ofString "abcdef").length = 6 := (by decide); omega) ?_) (by with_unfolding_all rfl) (by intro _; with_unfolding_all rfl)
    intro hli
    k_extra "gox"
  all_goals
    rename (Int.fmod _ _ ≠ 0) => hf
    rename St _ _ _ _ _ => xx
    have e1 : Int.fmod (n' : Int) b = ((n' % b : Nat) : Int) := by rw [Int.fmod_eq_emod_of_nonneg _ (by omega)]; rfl
    have hd : ¬ n' % b = 0 := by rw [e1] at hf; exact_mod_cast hf
    have hkr : rankOf b 6 n = k := by
      obtain ⟨z, hz⟩ : ∃ z, 6 - k = z + 1 := ⟨5 - k, by omega⟩
      rw [hz] at hr
      rw [← hr]
      show (if n' % b = 0 then rankOf b z (n' / b) + 1 else 0) + k = k
      rw [if_neg hd]; omega
    rw [hkr] at h
    first
      | (rw [if_pos (by omega)] at h; exact h _ F _ (Le.refl _) (by first | exact xx.drop .head | exact (xx.drop .head).toks))
      | (rw [if_neg (by omega)] at h; exact h _ F _ (Le.refl _) (by first | exact xx.drop .head | exact (xx.drop .head).toks))
end
end
theorem linesM28 : True := by
  (k_with "getAttr ref" => ((with_reducible show wpAny _ _ (getAttr (Value.ref 258) _ _) _ _ _); refine' cls_value (mc := .type "type") (Mine.St.In (by k_extra "stk") (by assumption)) (by k_is) (by k_is) (by rfl) ?_))
  trivial
section
/-- plain lists: as a fact, or as a cell -/
noncomputable def lstO (vs : List Value) : Obj := { cls := .type "list", data := .seq vs.toArray }
noncomputable def LIs (ns : List Int) (o : Obj) : Prop := o.cls = .type "list" ∧ ∃ n vs, o.data = .seq vs n ∧ IntsAre vs.toList ns
noncomputable def FIs (F : Facts) (l : Addr) (ns : List Int) : Prop := ∃ vs, (∃ o, F l = some o ∧ o.cls = .type "list" ∧ ∃ n, o.data = .seq vs.toArray n) ∧ IntsAre vs ns
noncomputable def FSs (F : Facts) (l : Addr) (ts : List Str) : Prop := ∃ vs, F l = some (lstO vs) ∧ StrsAre vs ts
theorem FIs.le {F F' : Facts} {l : Addr} {ns : List Int} (f : FIs F l ns) (le : Le F F') : FIs F' l ns := let ⟨vs, ⟨o, e, r⟩, h⟩ := f; ⟨vs, ⟨o, le _ _ e, r⟩, h⟩
theorem FIs.el {F F' : Facts} {l : Addr} {ns : List Int} (le : Le F F') (f : FIs F l ns) : FIs F' l ns := f.le le
theorem FSs.le {F F' : Facts} {l : Addr} {ns : List Str} (f : FSs F l ns) (le : Le F F') : FSs F' l ns := let ⟨vs, e, h⟩ := f; ⟨vs, le _ _ e, h⟩
theorem intsAre_replicate (n : Int) (t : Tok) : ∀ k, IntsAre (List.replicate k (.int n t)) (List.replicate k n)
  | 0 => .nil
  | k + 1 => by rw [List.replicate_succ, List.replicate_succ]; exact .cons _ _ (intsAre_replicate n t k)
theorem getD_some {ns : List Int} {j : Int} (h0 : 0 ≤ j) (hj : j < ns.length) : ns[j.toNat]? = some (ns.getD j.toNat 0) := by
  have h : j.toNat < ns.length := by omega
  rw [List.getElem?_eq_getElem h, List.getD_eq_getElem?_getD, List.getElem?_eq_getElem h]; rfl
theorem sub_cons {α : Type} {a : α} {r l : List α} (h : a ∈ l) (t : ∀ p ∈ r, p ∈ l) : ∀ p ∈ a :: r, p ∈ l := List.forall_mem_cons.mpr ⟨h, t⟩
theorem sub_nil {α : Type} {l : List α} : ∀ p ∈ ([] : List α), p ∈ l := List.forall_mem_nil _
theorem cp1 {a b : Nat} {x : Str} (h : ((⟨#[a]⟩ : Str) == x) = true) (hx : x = ⟨#[b]⟩) : a = b := by
  rw [beq_iff_eq, hx] at h; injection h with q; exact (List.cons.inj (congrArg Array.toList q)).1
theorem cp0 {a b : Nat} {x : Str} (h : ((⟨#[a]⟩ : Str) == x) = false) (hx : x = ⟨#[b]⟩) : ¬ a = b := by
  rintro rfl; rw [hx] at h; simp at h
theorem foldl_rep (v : Value) (k : Nat) : List.foldl (fun x1 x2 => x1 ++ x2) #[] (List.replicate k #[v]) = (List.replicate k v).toArray := by
  have key : ∀ (k : Nat) (acc : Array Value), List.foldl (fun x1 x2 => x1 ++ x2) acc (List.replicate k #[v]) = (acc.toList ++ List.replicate k v).toArray := by
    intro k
    induction k with
    | zero => intro acc; simp
    | succ k ih =>
      intro acc
      rw [List.replicate_succ, List.foldl_cons, ih, List.replicate_succ]
      simp
  rw [key]; simp
section
variable {w : World} {mg mb : Str → Option Value} {B : Heap} {os : OsState} {F : Facts} {s : Shared} {σ σ' : List Cell} {A : Around} {k : Nat} {E : Value → Shared → Prop} {a d m md ll it l b : Addr} {vs : Array Value} {v : Value} {i M : Int} {sg : Str} {R : Result → Shared → Prop} {ns ms : List Int}
theorem fi_is (x : St B os F s σ) (f : FIs F l ns) : ∃ vs : List Value, True ∧ s.heap.IsList l vs.toArray ∧ IntsAre vs ns := let ⟨vs, ⟨o, e, hc, n, hd⟩, h⟩ := f; ⟨vs, trivial, ⟨o, x.wd.fact e, hc, n, hd⟩, h⟩
theorem fs_is {ts : List Str} (x : St B os F s σ) (f : FSs F l ts) : ∃ vs : List Value, s.heap.get? l = some (lstO vs) ∧ s.heap.IsList l vs.toArray ∧ StrsAre vs ts := let ⟨vs, e, h⟩ := f; ⟨vs, x.wd.fact e, ⟨_, x.wd.fact e, rfl, _, rfl⟩, h⟩
theorem ci_is (x : St B os F s σ) (hm : (l, LIs ns) ∈ σ) : ∃ vs : List Value, s.heap.IsList l vs.toArray ∧ IntsAre vs ns := by
  obtain ⟨o, e, hc, n, vs, hd, h⟩ := x.wd.cell _ hm
  exact ⟨vs.toList, ⟨_, e, hc, _, by simpa using hd⟩, h⟩
theorem cs_is {ts : List Str} (x : St B os F s σ) (hm : (l, LinP ts) ∈ σ) : ∃ vs : List Value, s.heap.IsList l vs.toArray ∧ StrsAre vs ts := by
  obtain ⟨o, e, n, vs, rfl, h⟩ := x.wd.cell _ hm
  exact ⟨vs.toList, ⟨_, e, rfl, _, rfl⟩, h⟩
theorem fi_len {Q : Value → Shared → Prop} (x : St B os F s σ) (f : FIs F l ns) (hz : ns.length ≤ 1000) (h : ∀ t s', St B os F s' σ → Q (.int ns.length t) s') : wpAny (model prg w) A (call (.builtin "len") [.ref l]) Q E s := by
  obtain ⟨vs, _, hl, hi⟩ := fi_is x f
  refine len_list hl (by rw [List.size_toArray, hi.length]; omega) ?_
  rw [List.size_toArray, hi.length]
  k_extra "uq"
  exact h _ _ x.toks
theorem ci_len {Q : Value → Shared → Prop} (x : St B os F s σ) (hm : (l, LIs ns) ∈ σ) (hz : ns.length ≤ 1000) (h : ∀ t s', St B os F s' σ → Q (.int ns.length t) s') : wpAny (model prg w) A (call (.builtin "len") [.ref l]) Q E s := by
  obtain ⟨vs, hl, hi⟩ := ci_is x hm
  refine len_list hl (by rw [List.size_toArray, hi.length]; omega) ?_
  rw [List.size_toArray, hi.length]
  k_extra "uq"
  exact h _ _ x.toks
theorem lstE {M : Model} {c : Cell} {Q : Value → Shared → Prop} (x : St B os F s (c :: σ)) (h : ∀ a s', St B os F s' (c :: (a, Is { cls := .type "list", data := .seq #[] }) :: σ) → Q (.ref a) s') : wpAny M A (newList []) Q E s :=
  lstC x (by simp) h
theorem add_raw {its its2 : Array Value} {Q : Value → Shared → Prop} (hl : s.heap.IsList l its) (hb : s.heap.IsList b its2) (hsz : its.size + its2.size ≤ 2000)
    (h : Q (.ref s.heap.objs.size) { s with heap := s.heap.push { cls := .type "list", data := .seq (its ++ its2) } }) :
    wpAny (model prg w) A (binaryOp .Add (.ref l) (.ref b)) Q E s := by
  obtain ⟨⟨cls, dd, data, sl⟩, ho, hc, n, hd⟩ := id hl
  obtain ⟨⟨cls2, dd2, data2, sl2⟩, ho2, hc2, n2, hd2⟩ := id hb
  simp only at hc hd hc2 hd2
  subst hc hd hc2 hd2
  exact concat_meets ⟨_, ho, rfl⟩ ⟨_, ho2, rfl⟩ noFill_list_add seq_list_add PySem.F.slot_list_add PySem.F.entry_list_add (PySem.F.args_list_add_2 _ _) (list_addW l b its its2 n n2 dd dd2 sl sl2 (by rw [sizeLine_eq]; omega)) ⟨ho, ho2, h⟩
theorem fi_add {Q : Value → Shared → Prop} (x : St B os F s σ) (f : FIs F l ns) (g : FIs F b ms) (hz : ns.length ≤ 1000) (hz2 : ms.length ≤ 1000) (h : ∀ q F' s', Le F F' → FIs F' q (ns ++ ms) → St B os F' s' σ → Q (.ref q) s') :
    wpAny (model prg w) A (binaryOp .Add (.ref l) (.ref b)) Q E s := by
  obtain ⟨vs, _, hl, hi⟩ := fi_is x f
  obtain ⟨us, _, hb, hj⟩ := fi_is x g
  refine add_raw hl hb (by rw [List.size_toArray, List.size_toArray, hi.length, hj.length]; omega) ?_
  obtain ⟨F', le, e, y⟩ := newF (o := lstO (vs ++ us)) x rfl (tk := s.toks)
  have e2 : vs.toArray ++ us.toArray = (vs ++ us).toArray := by simp
  rw [e2]
  k_extra "uq"
  exact h _ F' _ le ⟨_, ⟨_, e, rfl, _, rfl⟩, hi.append hj⟩ y
theorem ci_add {c : Cell} {Q : Value → Shared → Prop} (x : St B os F s (c :: σ)) (hm : (l, LIs ns) ∈ c :: σ) (g : FIs F b ms) (hz : ns.length ≤ 1000) (hz2 : ms.length ≤ 1000) (h : ∀ q s', St B os F s' (c :: (q, LIs (ns ++ ms)) :: σ) → Q (.ref q) s') :
    wpAny (model prg w) A (binaryOp .Add (.ref l) (.ref b)) Q E s := by
  obtain ⟨vs, hl, hi⟩ := ci_is x hm
  obtain ⟨us, _, hb, hj⟩ := fi_is x g
  refine add_raw hl hb (by rw [List.size_toArray, List.size_toArray, hi.length, hj.length]; omega) ?_
  have e2 : vs.toArray ++ us.toArray = (vs ++ us).toArray := by simp
  rw [e2]
  have y : St B os F { s with heap := s.heap.push (lstO (vs ++ us)) } _ := x.with_ (x.wd.push (lstO (vs ++ us)))
  k_extra "uq"
  exact h _ _ ((y.perm (.swap ..)).imp (.tail .head) fun o ho => by cases ho; exact ⟨rfl, _, _, rfl, hi.append hj⟩)
theorem mul_raw {n : Int} {t u : Tok} {z : Int} {Q : Value → Shared → Prop} (x : St B os F s σ) (e : F l = some { cls := .type "list", data := .seq [.int n t].toArray }) (h0 : 0 ≤ z) (h1 : z ≤ 1000)
    (h : Q (.ref s.heap.objs.size) { s with heap := s.heap.push (lstO (List.replicate z.toNat (.int n t))) }) : wpAny (model prg w) A (binaryOp .Mult (.ref l) (.int z u)) Q E s := by
  have hl := x.wd.fact e
  refine wpAny_binaryOp_repeat_ref (T := "list") (U := "int") (by decide) ⟨_, hl, rfl⟩ (fun s' => typeIs_int s' z u) noFill_list_mul PySem.F.fills_int_mul PySem.F.slot_int_rmul repeat_list PySem.F.slot_int_index.lookup
    (call_meets PySem.F.slot_int_rmul (typeIs_int s z u) PySem.F.entry_int_rmul (PySem.F.args_int_rmul_2 _ _) (int___rmul___int_list z u l [.int n t].toArray _)
      ⟨hl, rfl, ⟨_, hl, rfl⟩, call_meets PySem.F.slot_list_mul ⟨_, hl, rfl⟩ PySem.F.entry_list_mul (PySem.F.args_list_mul_2 _ _)
        (AutoListH.list___mul___list_int_3 l [.int n t].toArray _ z u (by simp [Builtin.List.listFitsIndex]; omega) (by simp; omega) (by simp [Builtin.List.listTooLong, sizeLine]; omega))
        ⟨hl, ?_⟩⟩)
  have e3 : List.foldl (fun x1 x2 => x1 ++ x2) #[] (List.replicate (if [Value.int n t].toArray.isEmpty = true then 0 else z.toNat) [Value.int n t].toArray) = (List.replicate z.toNat (.int n t)).toArray := by
    rw [if_neg (by simp)]
    exact foldl_rep _ _
  rw [e3]
  exact h
theorem fi_mul {n : Int} {t u : Tok} {z : Int} {Q : Value → Shared → Prop} (x : St B os F s σ) (e : F l = some { cls := .type "list", data := .seq [.int n t].toArray }) (h0 : 0 ≤ z) (h1 : z ≤ 1000) (h : ∀ q F' s', Le F F' → FIs F' q (List.replicate z.toNat n) → St B os F' s' σ → Q (.ref q) s') :
    wpAny (model prg w) A (binaryOp .Mult (.ref l) (.int z u)) Q E s := by
  refine mul_raw x e h0 h1 ?_
  obtain ⟨F', le, e, y⟩ := newF (o := lstO (List.replicate z.toNat (.int n t))) x rfl (tk := s.toks)
  k_extra "uq"
  exact h _ F' _ le ⟨_, ⟨_, e, rfl, _, rfl⟩, intsAre_replicate n t _⟩ y
theorem ci_mul {c : Cell} {n : Int} {t u : Tok} {z : Int} {Q : Value → Shared → Prop} (x : St B os F s (c :: σ)) (e : F l = some { cls := .type "list", data := .seq [.int n t].toArray }) (h0 : 0 ≤ z) (h1 : z ≤ 1000) (h : ∀ q s', St B os F s' (c :: (q, LIs (List.replicate z.toNat n)) :: σ) → Q (.ref q) s') :
    wpAny (model prg w) A (binaryOp .Mult (.ref l) (.int z u)) Q E s := by
  refine mul_raw x e h0 h1 ?_
  have y : St B os F { s with heap := s.heap.push (lstO (List.replicate z.toNat (.int n t))) } _ := x.with_ (x.wd.push (lstO (List.replicate z.toNat (.int n t))))
  k_extra "uq"
  exact h _ _ ((y.perm (.swap ..)).imp (.tail .head) fun o ho => by cases ho; exact ⟨rfl, _, _, rfl, by rw [List.toList_toArray]; exact intsAre_replicate n t _⟩)
theorem fi_item {value slice : Expr} {u : Tok} {j : Int} {Q : Value → Shared → Prop} (x : St B os F s σ) (f : FIs F l ns) (h0 : 0 ≤ j) (hz : j ≤ 1000) (hj : j < ns.length) (h : ∀ t, Q (.int (ns.getD j.toNat 0) t) s)
    (hs : subscripted slice false (.ref l) (.int j u) = operate [.ref l, .int j u] (getItem (.ref l) (.int j u)) := by with_unfolding_all rfl) (hg : ∀ r, letTemporaryGo value (.ref l) r = pure () := by intro _; with_unfolding_all rfl) :
    wpAny (model prg w) A (subscriptTail value slice (.ref l) (.int j u)) Q E s := by
  obtain ⟨vs, _, hl, hi⟩ := fi_is x f
  obtain ⟨t, ht⟩ := hi.get _ _ (getD_some h0 hj)
  exact item_listL hl h0 (by omega) ht (h t) hs hg
theorem fs_item {ts : List Str} {y : Str} {value slice : Expr} {u : Tok} {j : Int} {Q : Value → Shared → Prop} (x : St B os F s σ) (f : FSs F l ts) (h0 : 0 ≤ j) (hz : j ≤ 1000) (hj : ts[j.toNat]? = some y) (h : ∀ t, Q (.str y t) s)
    (hs : subscripted slice false (.ref l) (.int j u) = operate [.ref l, .int j u] (getItem (.ref l) (.int j u)) := by with_unfolding_all rfl) (hg : ∀ r, letTemporaryGo value (.ref l) r = pure () := by intro _; with_unfolding_all rfl) :
    wpAny (model prg w) A (subscriptTail value slice (.ref l) (.int j u)) Q E s := by
  obtain ⟨vs, _, hl, hi⟩ := fs_is x f
  obtain ⟨t, ht⟩ := hi.get _ _ hj
  exact item_listL hl h0 (by omega) ht (h t) hs hg
theorem ci_item {value slice : Expr} {u : Tok} {j : Int} {Q : Value → Shared → Prop} (x : St B os F s σ) (hm : (l, LIs ns) ∈ σ) (h0 : 0 ≤ j) (hz : j ≤ 1000) (hj : j < ns.length) (h : ∀ t, Q (.int (ns.getD j.toNat 0) t) s)
    (hs : subscripted slice false (.ref l) (.int j u) = operate [.ref l, .int j u] (getItem (.ref l) (.int j u)) := by with_unfolding_all rfl) (hg : ∀ r, letTemporaryGo value (.ref l) r = pure () := by intro _; with_unfolding_all rfl) :
    wpAny (model prg w) A (subscriptTail value slice (.ref l) (.int j u)) Q E s := by
  obtain ⟨vs, hl, hi⟩ := ci_is x hm
  obtain ⟨t, ht⟩ := hi.get _ _ (getD_some h0 hj)
  exact item_listL hl h0 (by omega) ht (h t) hs hg
theorem intsAre_set {n : Int} {t : Tok} : ∀ {vs : List Value} {ns : List Int}, IntsAre vs ns → ∀ j : Nat, IntsAre (vs.set j (.int n t)) (ns.set j n)
  | _, _, .nil, _ => .nil
  | _, _, .cons m u h, 0 => .cons _ _ h
  | _, _, .cons m u h, j + 1 => .cons _ _ (intsAre_set h j)
theorem ci_set {u t : Tok} {j n : Int} {Q : Unit → Shared → Prop} (x : St B os F s σ) (p : Up l (LIs ns) (LIs (ns.set j.toNat n)) σ σ') (h0 : 0 ≤ j) (hz : j < ns.length) (hz2 : ns.length ≤ 1000) (h : ∀ s', St B os F s' σ' → Q () s') :
    wpAny (model prg w) A (setItem (.ref l) (.int j u) (.int n t)) Q E s := by
  obtain ⟨o, e, hcl, k, vs, hd, hi⟩ := x.wd.cell _ p.mem
  have hl : s.heap.IsList l vs := ⟨_, e, hcl, _, hd⟩
  have hn : vs.size = ns.length := by rw [← hi.length, Array.length_toList]
  refine wpAny_setItem_list hl h0 (by omega) (by rw [hn]; exact hz) fun h' hl' hs => ?_
  obtain ⟨o', e', hc, k', hd'⟩ := hl'
  k_extra "uq"
  refine h _ (x.with_ (x.wd.same p hs ⟨o', e', hc, _, _, hd', ?_⟩))
  have e4 : (vs.setIfInBounds j.toNat (Value.int n t)).toList = vs.toList.set j.toNat (Value.int n t) := by simp
  rw [e4]
  exact intsAre_set hi _
end
end
theorem linesM29 : True := by
  (k_with "fis" => (first | assumption | exact Mine.FIs.el (by assumption) (by k_extra "fis")))
  (k_with "call builtin:len" => (refine' Mine.fi_len (by k_extra "stk") (by k_extra "fis") (by k_extra "aom") ?_; intros))
  (k_with "call builtin:len" => (refine' Mine.ci_len (by k_extra "stk") (by k_extra "memd") (by k_extra "aom") ?_; intros))
  (k_with "newList" => ((with_reducible show wpAny _ _ (newList []) _ _ _); refine' Mine.lstE (by k_extra "stk") ?_; intros))
  (k_with "reloc" => ((repeat (refine' Mine.sub_cons ?_ ?_; (first | k_extra "mem" | k_extra "memd"))); exact Mine.sub_nil))
  (k_with "binaryOp Mult ref int" => (refine' Mine.fi_mul (by k_extra "stk") (by k_extra "fact") (by k_extra "om") (by k_extra "om") ?_; intros))
  (k_with "binaryOp Add ref ref" => (refine' Mine.fi_add (by k_extra "stk") (by k_extra "fis") (by k_extra "fis") (by k_extra "aoms") (by k_extra "aoms") ?_; intros))
  (k_with "binaryOp Add ref ref" => (refine' Mine.ci_add (by k_extra "stk") (by k_extra "memd") (by k_extra "fis") (by k_extra "aoms") (by k_extra "aoms") ?_; intros))
  (k_with "subscriptTail" => ((fail_if_success (with_reducible show wpAny _ _ (subscriptTail _ (Expr.Slice _ _ _ _) _ _) _ _ _)); refine' Mine.fi_item (by k_extra "stk") (by k_extra "fis") (by k_extra "om") (by k_extra "om") (by k_extra "oml") ?_; intros))
  (k_with "subscriptTail" => ((fail_if_success (with_reducible show wpAny _ _ (subscriptTail _ (Expr.Slice _ _ _ _) _ _) _ _ _)); refine' Mine.ci_item (by k_extra "stk") (by k_extra "memd") (by k_extra "om") (by k_extra "om") (by k_extra "oml") ?_; intros))
  (k_with "setItem ref int" => (refine' Mine.ci_set (by k_extra "stk") (by k_extra "up") (by k_extra "om") (by k_extra "oml") (by k_extra "oml") ?_; intros))
  trivial
section
/-- a place of the tab table grows by one -/
noncomputable def tabUp (cnt : List Int) (b : Nat) : List Int :=
  let c := if cnt.length ≤ b then cnt ++ List.replicate (b - cnt.length + 1) 0 else cnt
  c.set b (c.getD b 0 + 1)
/-- what Whitespace reads from a text: count, b, n, nt -/
noncomputable def wsRun : List Nat → List Int → Nat → Nat → Nat → List Int × Nat × Nat × Nat
  | [], cnt, b, n, nt => (cnt, b, n, nt)
  | c :: r, cnt, b, n, nt => if c = 32 then wsRun r cnt (b + 1) (n + 1) nt else if c = 9 then wsRun r (tabUp cnt b) 0 (n + 1) (nt + 1) else (cnt, b, n, nt)
/-- the thing made -/
noncomputable def FTs (F : Facts) (l : Addr) (ns : List Int) : Prop := ∃ vs, F l = some (tupO vs) ∧ IntsAre vs ns
noncomputable def Wsp (F : Facts) (m : Addr) (cnt : List Int) (b nt : Nat) : Prop := ∃ md od t0 t1 t2 t3 ws n tp tc q, F m = some (instObj 258 md) ∧ F md = some od ∧
  Exa [("raw", .str ws t0), ("n", .int n t1), ("nt", .int nt t2), ("norm", .ref tp), ("is_simple", .bool q)] od ∧ F tp = some (tupO [.ref tc, .int b t3]) ∧ FTs F tc cnt
section
variable {w : World} {mg mb : Str → Option Value} {B : Heap} {os : OsState} {F : Facts} {s : Shared} {σ σ' : List Cell} {A : Around} {k : Nat} {E : Value → Shared → Prop} {a d m md ll it l b : Addr} {vs : Array Value} {v : Value} {i M : Int} {sg : Str} {R : Result → Shared → Prop} {ns ms : List Int}
theorem ws_set {l : List (Str × Value)} {name : Str} {Q : Unit → Shared → Prop} (U : Bs w mg mb B) (x : St B os F s σ) (e : F m = some (instObj 258 md)) (u : Up md (Exa l) (Exa (l ++ [(name, v)])) σ σ') (hn : l.all (fun p => p.1 != name) = true) (hlen : l.length ≤ 900)
    (ht : takerIn (frag0.heap_1 w.params) 258 name = some none) (h : ∀ s', St B os F s' σ' → Q () s') : wpAny (model prg w) A (setAttr (.ref m) name v) Q E s := by
  obtain ⟨od, e2, q⟩ := x.wd.cell _ u.mem
  obtain ⟨cd, hc, hmro, hhas⟩ : ∃ cd, clsIn (frag0.heap_1 w.params) 258 = some cd ∧ cd.mro = [.ref 258, .type "object"] ∧ cd.hasDict = true := ⟨_, by k_is, rfl, rfl⟩
  refine set_attr (l' := l ++ [(name, v)]) (C := 258) (x.In U) (x.wd.fact e) rfl rfl e2 q hlen hc hhas (by rw [hmro]; exact fun self => refuse_only self rfl) (by k_is) (by k_is) ht (lookup_snoc hn) fun h' tk' od' hs g q' => ?_
  k_extra "uq"
  exact h _ (x.with_ (x.wd.same u hs ⟨od', g, q'⟩))
theorem unpackF {tp : Addr} {l : List Value} {Q : List Value → Shared → Prop} (x : St B os F s σ) (hh : A.handled = none) (e : F tp = some (tupO l)) (h : ∀ s', St B os F s' σ → Q l s') : wpAny (model prg w) A (unpackItems (.ref tp) l.length none) Q E s := by
  have hT : s.heap.IsTuple tp l.toArray := ⟨_, x.wd.fact e, rfl, _, rfl⟩
  have := wpAny_unpackItems_tuple (prog := prg) (w := w) (A := A) (E := E) (Q := Q) hh hT fun h' hx => by
    have x₁ : St B os F { s with heap := h' } σ := ⟨x.wd.grow fun b o e => hx b o (Nat.ne_of_lt (Heap.lt_size e)) e, x.bare, x.os⟩
    k_extra "uq"
    exact h _ x₁
  simpa using this
theorem ci_tuple {Q : Value → Shared → Prop} (x : St B os F s σ) (hm : (l, LIs ns) ∈ σ) (hz : ns.length ≤ 1000) (h : ∀ q F' s', Le F F' → FTs F' q ns → St B os F' s' σ → Q (.ref q) s') : wpAny (model prg w) A (call (.type "tuple") [.ref l]) Q E s := by
  obtain ⟨vs, hl, hi⟩ := ci_is x hm
  refine call_tuple_list hl (fun h' hk => ?_) (by rw [List.size_toArray, hi.length, sizeLine_eq]; omega)
  have x₁ : St B os F { s with heap := h' } σ := ⟨x.wd.grow hk, x.bare, x.os⟩
  obtain ⟨F', le, e, y⟩ := newF (o := tupO vs) x₁ rfl (tk := s.toks)
  k_extra "uq"
  exact h _ _ _ le ⟨_, e, hi⟩ y
theorem St.flip {p q : Cell} (x : St B os F s (p :: q :: σ)) : St B os F s (q :: p :: σ) := x.perm (.swap ..)
theorem St.ice {P : Obj → Prop} (x : St B os F s ((a, P) :: σ)) : ∃ o F', P o ∧ Le F F' ∧ F' a = some o ∧ St B os F' s σ := by
  obtain ⟨o, e, p⟩ := x.wd.cell _ (.head _)
  have y : Wd B F s.heap ((a, Is o) :: σ) := x.wd.turn .head (fun _ _ _ e => e) ⟨o, e, rfl⟩
  obtain ⟨z, le, e2⟩ := y.freeze .head (.head _)
  exact ⟨o, _, p, le, e2, x.of z⟩
theorem ws_get {md : Addr} {l : List (Str × Value)} {ex : Bool} {name : Str} {Q : Value → Shared → Prop} (U : Bs w mg mb B) (x : St B os F s σ) (e : F m = some (instObj 258 md)) (hm : (md, Exa l) ∈ σ) (hn : findIn (frag0.heap_1 w.params) (.ref 258) name = some none)
    (hv : l.lookup name = some v) (hh : handedIn v = true) (q : ∀ s', St B os F s' σ → Q v s') : wpAny (model prg w) A (getAttr (.ref m) name ex) Q E s := by
  obtain ⟨od, e2, e3⟩ := x.wd.cell _ hm
  have I : InstAt s.heap m (instObj 258 md) 258 (some od) := ⟨x.wd.fact e, rfl, rfl, e2⟩
  exact get_value (x.In U) I (by k_is) (findObj_has (by k_is) hn ((lookIn_exa e3).trans (congrArg some hv))) hh (q _ x.toks)
set_option maxHeartbeats 4000000 in
theorem winit_c {c : Cell} {ws : Str} {t1 : Tok} (U : Bs w mg mb B) (e : F m = some (instObj 258 md)) (x : St B os F s (c :: (md, Exa []) :: σ)) (r : Rm A 20) (hws : ws.cps.all (· < 128) = true) (hwl : ws.length ≤ 200)
    (h : ∀ F' s', Le F F' → Wsp F' m (wsRun ws.cps.toList [] 0 0 0).1 (wsRun ws.cps.toList [] 0 0 0).2.1 (wsRun ws.cps.toList [] 0 0 0).2.2.2 → St B os F' s' (c :: σ) → R (.ok (.ret .none)) s') :
    codeAny (model prg w) A (.call (.ref 213) ⟨[.ref m, .str ws t1], []⟩) R s := by
  refine' enterF fWInit (binds := [("self", .ref m), ("ws", .str ws t1)]) (keys := ["self", "ws"]) U x r ?k2 ?k3 ?k4 ?k5 ?k6 ?k7 ?_ ?c1 ?c2 ?c3
  k_extra "sides"
  intro L s₁ x₁ r₁
  replace x₁ := x₁.swap
  clear x
  k_extra "go"
  rename St _ _ _ _ _ => x₂
  refine ws_set U x₂ e (.tail .head) (by kernel_rfl) (by simp) (by k_is) fun s₃ x₃ => ?_
  clear x₂
  k_extra "go"
  rename St _ _ _ _ _ => x₂
  refine unpackF x₂ r₁.hh (l := [_, _]) (by k_extra "fact") fun s₄ x₄ => ?_
  clear x₂ x₃
  refine wpAny_bind (wpAny_holding (PySem.wpAny_bindName ?_))
  walk_at "storeName"
  clear x₄
  refine wpAny_bind (wpAny_holding (PySem.wpAny_bindName ?_))
  walk_at "storeName"
  show wpAny _ _ (pure ()) _ _ _
  refine wpAny_pure ?_
  k_extra "gox"
  refine wpAny_For ?_
  k_extra "gox"
  rename St _ _ _ _ _ => x₅
  refine ws_get (v := .str ws t1) U x₅ (by k_extra "fact") (by k_extra "memd") (by k_is) (by kernel_rfl) rfl fun s₆ x₆ => ?_
  clear x₅
  k_extra "gox"
  refine si_iter x₆ hws fun it s₇ x₇ => ?_
  replace x₇ := x₇.flip.imp (P' := LIs []) (.tail (.tail .head)) fun o ho => by cases ho; exact ⟨rfl, _, _, rfl, .nil⟩
  clear x₆
  refine codeAny_opq fun RR hRR => ?_
  have tail : ∀ (cnt : List Int) (b n nt : Nat) (ct : Addr) (F' : Facts) (z1 z2 z3 : Tok) (s' : Shared), (cnt, b, n, nt) = wsRun ws.cps.toList [] 0 0 0 → cnt.length ≤ 1000 → Le F F' →
      St B os F' s' ((L, Loc [("self", .ref m), ("T", .str (Str.ofString "\t") 444), ("S", .str (Str.ofString " ") 443), ("count", .ref ct), ("b", .int b z1), ("n", .int n z2), ("nt", .int nt z3)]) :: (ct, LIs cnt) :: (md, Exa [("raw", .str ws t1)]) :: c :: σ) → RR (.ok .next) s' := by
    intro cnt b n nt ct' F' z1 z2 z3 s' hrun hcz le' x₈
    rw [← hrun] at h
    k_extra "uq"
    (try dsimp only)
    clear x₇ hRR
    k_extra "gox"
    rename St _ _ _ _ _ => xx
    refine ws_set U xx (by k_extra "fact") (.tail (.tail .head)) (by kernel_rfl) (by simp) (by k_is) fun s₅ x₅ => ?_
    clear xx
    k_extra "gox"
    rename St _ _ _ _ _ => xx
    refine ws_set U xx (by k_extra "fact") (.tail (.tail .head)) (by kernel_rfl) (by simp) (by k_is) fun s₅ x₅ => ?_
    clear xx
    k_extra "gox"
    rename St _ _ _ _ _ => xx
    refine ci_tuple (ns := cnt) xx (by k_extra "memd") hcz fun tq F5 s5 le5 e5 x5 => ?_
    clear xx
    k_extra "gox"
    rename St _ _ _ _ _ => xx
    refine ws_set U xx (by k_extra "fact") (.tail (.tail .head)) (by kernel_rfl) (by simp) (by k_is) fun s₅ x₅ => ?_
    clear xx
    k_extra "gox"
    rename St _ _ _ _ _ => xx
    refine ws_set U xx (by k_extra "fact") (.tail (.tail .head)) (by kernel_rfl) (by simp) (by k_is) fun s₅ x₅ => ?_
    clear xx
    k_extra "gox"
    rename St _ _ _ _ _ => xx
    obtain ⟨od, F9, hod, le9, e9, x9⟩ := ((xx.drop .head).drop .head).ice
    k_extra "uq"
    refine h F9 _ (by k_extra "le") ⟨md, od, _, _, _, _, _, _, _, _, _, by k_extra "fact", e9, hod, by k_extra "fact", ?_⟩ x9
    exact let ⟨vs, e, h⟩ := e5; ⟨vs, by k_extra "fact", h⟩
  clear h hRR
  refine forLoopQ (fun n' s' => ∃ (j : Nat) (cnt : List Int) (b n nt : Nat) (ct : Addr) (F' : Facts) (tk z1 z2 z3 : Tok), j + n' = ws.cps.size ∧ wsRun (ws.cps.toList.drop j) cnt b n nt = wsRun ws.cps.toList [] 0 0 0 ∧ cnt.length ≤ j ∧ b ≤ j ∧ n ≤ j ∧ nt ≤ j ∧ Le F F' ∧
    St B os F' s' ((L, Loc [("self", .ref m), ("T", .str (Str.ofString "\t") 444), ("S", .str (Str.ofString " ") 443), ("count", .ref ct), ("b", .int b z1), ("n", .int n z2), ("nt", .int nt z3)]) :: (it, SitP ws tk j) :: (ct, LIs cnt) :: (md, Exa [("raw", .str ws t1)]) :: c :: σ)) ?_ ws.cps.size ?_
  · rintro n' s₈ ⟨j, cnt, b, n, nt, ct', F', tk, z1, z2, z3, hj, hrun, hcl, hb, hn, hnt, le', x₈⟩ R0 hR0 Qb hQn hQc hQb hQr
    clear x₇
    have hcz : cnt.length ≤ 1000 := by have : ws.cps.size ≤ 200 := hwl; omega
    by_cases hn0 : n' = 0
    · rw [List.drop_of_length_le (by simp; omega)] at hrun
      refine si_end x₈ (by k_extra "memd") (.tail .head) r₁.hh (by simp; omega) fun s₄ x₄ => ?_
      (try dsimp only)
      clear x₈
      k_extra "gox"
      rename St _ _ _ _ _ => xx
      exact (tail _ _ _ _ _ _ _ _ _ _ hrun hcz le' xx)
    · obtain ⟨ch, hch⟩ : ∃ ch, ws.cps[j]? = some ch := ⟨ws.cps[j], by simp⟩
      have hd : ws.cps.toList.drop j = ch :: ws.cps.toList.drop (j + 1) := by
        rw [List.drop_eq_getElem_cons (by simp; omega)]
        congr 1
        have := hch
        rw [← Array.getElem?_toList] at this
        exact Option.some.inj ((List.getElem?_eq_getElem _).symm.trans this)
      rw [hd] at hrun
      have hsz : j < 200 := by have : ws.cps.size ≤ 200 := hwl; omega
      have hcl2 : cnt.length ≤ 1000 := by omega
      refine si_item x₈ (.tail .head) hch fun t' s₄ x₄ => ?_
      (try dsimp only)
      clear x₈
      k_extra "gox"
      · rename (_ = true) => hc1
        obtain rfl : ch = 32 := cp1 hc1 (by kernel_rfl)
        rename St _ _ _ _ _ => xx
        (try dsimp only)
        refine' ⟨n' - 1, by omega, j + 1, cnt, b + 1, n + 1, nt, ct', _, _, _, _, _, by omega, ?run, by omega, by omega, by omega, by omega, ?le, xx.weak ?loc⟩
        case run => rw [← hrun]; rfl
        case le => k_extra "le"
        case loc => k_extra "reloc"
      · rename (_ = true) => hc1
        rename (_ = false) => hc0
        rename ((cnt.length : Int) ≤ _) => hgr
        obtain rfl : ch = 9 := cp1 hc1 (by kernel_rfl)
        rename St _ _ _ _ _ => xx
        replace xx := xx.drop (.tail (.tail (.tail .head)))
        have etab : tabUp cnt b = (cnt ++ List.replicate ((b : Int) - cnt.length + 1).toNat 0).set (b : Int).toNat ((cnt ++ List.replicate ((b : Int) - cnt.length + 1).toNat 0).getD (b : Int).toNat 0 + 1) := by
          unfold tabUp
          rw [if_pos (by omega), show ((b : Int) - cnt.length + 1).toNat = b - cnt.length + 1 from by omega, Int.toNat_natCast]
        have elen : (tabUp cnt b).length ≤ j + 1 := by
          rw [etab]; simp only [List.length_set, List.length_append, List.length_replicate]; omega
        rw [← etab] at xx
        replace xx := xx.perm (.cons _ (.swap ..))
        (try dsimp only)
        refine' ⟨n' - 1, by omega, j + 1, tabUp cnt b, 0, n + 1, nt + 1, _, _, _, _, _, _, by omega, ?run, elen, by omega, by omega, by omega, ?le, xx.weak ?loc⟩
        case run => rw [← hrun]; rfl
        case le => k_extra "le"
        case loc => k_extra "reloc"
      · rename (_ = true) => hc1
        rename (_ = false) => hc0
        rename (¬ (cnt.length : Int) ≤ _) => hgr
        obtain rfl : ch = 9 := cp1 hc1 (by kernel_rfl)
        rename St _ _ _ _ _ => xx
        have etab : tabUp cnt b = cnt.set (b : Int).toNat (cnt.getD (b : Int).toNat 0 + 1) := by
          unfold tabUp
          rw [if_neg (by omega), Int.toNat_natCast]
        have elen : (tabUp cnt b).length ≤ j + 1 := by
          rw [etab]; simp only [List.length_set]; omega
        rw [← etab] at xx
        (try dsimp only)
        refine' ⟨n' - 1, by omega, j + 1, tabUp cnt b, 0, n + 1, nt + 1, _, _, _, _, _, _, by omega, ?run, elen, by omega, by omega, by omega, ?le, xx.weak ?loc⟩
        case run => rw [← hrun]; rfl
        case le => k_extra "le"
        case loc => k_extra "reloc"
      · rename ((_ == Str.ofString "\t") = false) => hc2
        rename ((_ == Str.ofString " ") = false) => hc1
        have hx1 : ¬ ch = 32 := cp0 hc1 (by kernel_rfl)
        have hx2 : ¬ ch = 9 := cp0 hc2 (by kernel_rfl)
        rw [wsRun, if_neg hx1, if_neg hx2] at hrun
        rename St _ _ _ _ _ => xx
        replace xx := xx.drop (.tail .head)
        refine' tail _ _ _ _ _ _ _ _ _ _ hrun hcz le' (xx.weak ?loc)
        case loc => k_extra "reloc"
  · refine' ⟨0, [], 0, 0, 0, _, _, _, _, _, _, by omega, rfl, by simp, by omega, by omega, by omega, ?le, x₇.weak ?loc⟩
    case le => k_extra "le"
    case loc => k_extra "reloc"
end
end
section
/-- the sum that indent_level takes over the tab table -/
noncomputable def ilGo (ts : Nat) (cnt : List Int) : Nat → Nat → Int → Int
  | 0, _, acc => acc
  | f + 1, i, acc => ilGo ts cnt f (i + 1) (acc + ((i / ts : Nat) : Int) * cnt.getD i 0)
noncomputable def indentOf (ts : Nat) (cnt : List Int) (b nt : Nat) : Int := b + ts * (ilGo ts cnt (cnt.length - ts) ts 0 + nt)
theorem Wsp.le {F F' : Facts} {m : Addr} {cnt : List Int} {b nt : Nat} (f : Wsp F m cnt b nt) (le : Le F F') : Wsp F' m cnt b nt :=
  let ⟨md, od, t0, t1, t2, t3, ws, n, tp, tc, q, e1, e2, e3, e4, vs, e5, e6⟩ := f; ⟨md, od, t0, t1, t2, t3, ws, n, tp, tc, q, le _ _ e1, le _ _ e2, e3, le _ _ e4, vs, le _ _ e5, e6⟩
theorem Wsp.el {F F' : Facts} {m : Addr} {cnt : List Int} {b nt : Nat} (le : Le F F') (f : Wsp F m cnt b nt) : Wsp F' m cnt b nt := f.le le
theorem FTs.le {F F' : Facts} {l : Addr} {ns : List Int} (f : FTs F l ns) (le : Le F F') : FTs F' l ns := let ⟨vs, e, h⟩ := f; ⟨vs, le _ _ e, h⟩
theorem FTs.el {F F' : Facts} {l : Addr} {ns : List Int} (le : Le F F') (f : FTs F l ns) : FTs F' l ns := f.le le
section
variable {w : World} {mg mb : Str → Option Value} {B : Heap} {os : OsState} {F : Facts} {s : Shared} {σ σ' : List Cell} {A : Around} {k : Nat} {E : Value → Shared → Prop} {a d m md ll it l b : Addr} {vs : Array Value} {v : Value} {i M : Int} {sg : Str} {R : Result → Shared → Prop} {ns ms : List Int}
theorem ws_new {c : Cell} {ws : Str} {t1 : Tok} {Q : Value → Shared → Prop} (U : Bs w mg mb B) (x : St B os F s (c :: σ)) (r : Rm A 30) (hws : ws.cps.all (· < 128) = true) (hwl : ws.length ≤ 200)
    (h : ∀ m F' s', Le F F' → Wsp F' m (wsRun ws.cps.toList [] 0 0 0).1 (wsRun ws.cps.toList [] 0 0 0).2.1 (wsRun ws.cps.toList [] 0 0 0).2.2.2 → St B os F' s' (c :: σ) → Q (.ref m) s') :
    wpAny (model prg w) A (call (.ref 258) [.str ws t1]) Q E s := by
  refine wpAny_call ?_
  obtain ⟨hh, g, dr, t, oo⟩ := s
  have X := x.In U
  refine make_core (makes_of X (by k_is)) (looks_findIn X (show findIn (frag0.heap_1 w.params) (.ref 258) "__init__" = some (some (.ref 213)) from by k_is)) (fun self => bind_fn X self (by k_is)) (.inl rfl) ?_
  have hz : (hh.push emptyDict).objs.size = hh.objs.size + 1 := Heap.size_push ..
  have y1 := x.wd.new (P := Exa []) (Wd.size_none hh) (fun _ _ e => Heap.get?_push_of_some emptyDict e) ⟨_, Heap.get?_push_size _ rfl, ⟨#[], 0, rfl, fun e he => absurd he (by simp), fun _ => rfl⟩, #[], 0, rfl, by unfold UniqKeys; exact List.Pairwise.nil⟩
  have y2 := y1.push (instObj 258 hh.objs.size)
  rw [hz] at y2
  obtain ⟨y3, le, e3⟩ := y2.freeze .head (.head _)
  have x2 : St B os _ ⟨(hh.push emptyDict).push (instObj 258 hh.objs.size), g, dr, t, oo⟩ (c :: (hh.objs.size, Exa []) :: σ) := ⟨y3.perm (.swap ..), x.bare, x.os⟩
  refine winit_c U e3 x2 (Rm.under (r.le (by decide)) (Nat.le_of_ble_eq_true rfl) (Nat.le_of_ble_eq_true rfl)) hws hwl fun F' s' le' f x' => ?_
  exact ⟨rfl, h _ _ _ (le.trans le') f x'⟩
theorem wsp_m {cnt : List Int} {b nt : Nat} {pl : Sem Bool} {Q : Value × List Value → Shared → Prop} (U : Bs w mg mb B) (x : St B os F s σ) (f : Wsp F m cnt b nt) (q : Q (.ref 227, [.ref m]) s) : wpAny (model prg w) A (getMethod (.ref m) "indent_level" pl) Q E s := by
  obtain ⟨md, od, t0, t1, t2, t3, ws, n, tp, tc, q', e1, e2, e3, e4, e5⟩ := f
  have I : InstAt s.heap m (instObj 258 md) 258 (some od) := ⟨x.wd.fact e1, rfl, rfl, x.wd.fact e2⟩
  refine method_fn (x.In U) I (by k_is) (by k_is) (show findIn (frag0.heap_1 w.params) (.ref 258) "indent_level" = some (some (.ref 227)) from by k_is) (by k_is) ?_ q
  show (lookIn "indent_level" od).map _ = _
  rw [lookIn_exa e3]; kernel_rfl
theorem wsp_get {ex : Bool} {md : Addr} {od : Obj} {l : List (Str × Value)} {name : Str} {Q : Value → Shared → Prop} (U : Bs w mg mb B) (x : St B os F s σ) (e : F m = some (instObj 258 md)) (e2 : F md = some od) (e3 : Exa l od) (hn : findIn (frag0.heap_1 w.params) (.ref 258) name = some none)
    (hv : l.lookup name = some v) (hh : handedIn v = true) (q : ∀ s', St B os F s' σ → Q v s') : wpAny (model prg w) A (getAttr (.ref m) name ex) Q E s := by
  have I : InstAt s.heap m (instObj 258 md) 258 (some od) := ⟨x.wd.fact e, rfl, rfl, x.wd.fact e2⟩
  exact get_value (x.In U) I (by k_is) (findObj_has (by k_is) hn ((lookIn_exa e3).trans (congrArg some hv))) hh (q _ x.toks)
theorem wsp_norm {cnt : List Int} {b nt : Nat} {ex : Bool} {Q : Value → Shared → Prop} (U : Bs w mg mb B) (x : St B os F s σ) (f : Wsp F m cnt b nt) (q : ∀ tp tc t s', F tp = some (tupO [.ref tc, .int b t]) → FTs F tc cnt → St B os F s' σ → Q (.ref tp) s') : wpAny (model prg w) A (getAttr (.ref m) "norm" ex) Q E s := by
  obtain ⟨md, od, t0, t1, t2, t3, ws, n, tp, tc, q', e1, e2, e3, e4, e5⟩ := f
  exact wsp_get (v := .ref tp) U x e1 e2 e3 (by k_is) (by kernel_rfl) rfl fun s' x' => q _ _ _ _ e4 e5 x'
theorem wsp_nt {cnt : List Int} {b nt : Nat} {ex : Bool} {Q : Value → Shared → Prop} (U : Bs w mg mb B) (x : St B os F s σ) (f : Wsp F m cnt b nt) (q : ∀ t s', St B os F s' σ → Q (.int nt t) s') : wpAny (model prg w) A (getAttr (.ref m) "nt" ex) Q E s := by
  obtain ⟨md, od, t0, t1, t2, t3, ws, n, tp, tc, q', e1, e2, e3, e4, e5⟩ := f
  exact wsp_get (v := .int nt t2) U x e1 e2 e3 (by k_is) (by kernel_rfl) rfl fun s' x' => q _ _ x'
theorem ft_len {Q : Value → Shared → Prop} (x : St B os F s σ) (f : FTs F l ns) (hz : ns.length ≤ 1000) (h : ∀ t s', St B os F s' σ → Q (.int ns.length t) s') : wpAny (model prg w) A (call (.builtin "len") [.ref l]) Q E s := by
  obtain ⟨vs, e, hi⟩ := f
  have ht : IsTup s.heap l vs.toArray := ⟨_, x.wd.fact e, rfl, _, rfl⟩
  refine len_tuple ht (by rw [List.size_toArray, hi.length]; omega) ?_
  rw [List.size_toArray, hi.length]
  k_extra "uq"
  exact h _ _ x.toks
theorem ft_item {value slice : Expr} {u : Tok} {j : Int} {Q : Value → Shared → Prop} (x : St B os F s σ) (f : FTs F l ns) (h0 : 0 ≤ j) (hz : ns.length ≤ 1000) (hj : j < ns.length) 
    (hs : subscripted slice false (.ref l) (.int j u) = operate [.ref l, .int j u] (getItem (.ref l) (.int j u))) (h : ∀ t, Q (.int (ns.getD j.toNat 0) t) s) :
    wpAny (model prg w) A (subscriptTail value slice (.ref l) (.int j u)) Q E s := by
  obtain ⟨vs, e, hi⟩ := f
  obtain ⟨t, ht⟩ := hi.get _ _ (getD_some h0 hj)
  exact tup_itemK x e h0 ht (by omega) (by rw [hi.length]; omega) hs (h t)
theorem rg_make2 {a b : Int} {t u : Tok} {Q : Value → Shared → Prop} (y : St B os F s σ) (q : ∀ r F' s', Le F F' → (∃ v, F' r = some (rngO a b 1 t u v)) → St B os F' s' σ → Q (.ref r) s') :
    wpAny (model prg w) A (call (.type "range") [.int a t, .int b u]) Q E s := by
  obtain ⟨F', le, e, y'⟩ := newF (o := rngO a b 1 t u s.toks) y rfl (tk := s.toks + 1)
  exact call_range_2 (q _ _ _ le ⟨_, e⟩ y')
theorem rangeSize_up (a b : Int) : Builtin.Range.rangeSize a b 1 = (b - a).toNat := by
  unfold Builtin.Range.rangeSize
  rw [if_pos (by decide)]
  split
  · rw [Int.ediv_one]; omega
  · omega
end
end
theorem linesM31 : True := by
  (k_with "wsp" => (first | assumption | exact Mine.Wsp.el (by assumption) (by k_extra "wsp")))
  (k_with "fts" => (first | assumption | exact Mine.FTs.el (by assumption) (by k_extra "fts")))
  (k_with "getAttr ref" => ((with_reducible show wpAny _ _ (getAttr _ (Str.ofString "norm") _) _ _ _); refine' Mine.wsp_norm (by k_extra "asm") (by k_extra "stk") (by k_extra "wsp") ?_; intros))
  (k_with "getAttr ref" => ((with_reducible show wpAny _ _ (getAttr _ (Str.ofString "nt") _) _ _ _); refine' Mine.wsp_nt (by k_extra "asm") (by k_extra "stk") (by k_extra "wsp") ?_; intros))
  (k_with "getMethod ref" => ((with_reducible show wpAny _ _ (getMethod _ (Str.ofString "indent_level") _) _ _ _); refine' Mine.wsp_m (by k_extra "asm") (by k_extra "stk") (by k_extra "wsp") ?_; intros))
  (k_with "call builtin:len" => (refine' Mine.ft_len (by k_extra "stk") (by k_extra "fts") (by k_extra "aom") ?_; intros))
  (k_with "subscriptTail" => ((fail_if_success (with_reducible show wpAny _ _ (subscriptTail _ (Expr.Slice _ _ _ _) _ _) _ _ _)); refine' Mine.ft_item (by k_extra "stk") (by k_extra "fts") (by k_extra "om") (by k_extra "aom") (by k_extra "om") (by k_extra "rfl") ?_; intros))
  trivial
section
section
variable {w : World} {mg mb : Str → Option Value} {B : Heap} {os : OsState} {F : Facts} {s : Shared} {σ σ' : List Cell} {A : Around} {k : Nat} {E : Value → Shared → Prop} {a d m md ll it l b : Addr} {vs : Array Value} {v : Value} {i M : Int} {sg : Str} {R : Result → Shared → Prop} {ns ms : List Int}
theorem small_up {a b : Nat} (ha : a ≤ 1000) (hb : b ≤ 1000) : Builtin.Range.small (a : Int) (b : Int) 1 = true := by
  unfold Builtin.Range.small
  rw [rangeSize_up, fits_of (a := (a : Int)) (by omega), fits_of (a := (b : Int)) (by omega), fits_of (a := 1) (by omega)]
  have h1 : Builtin.Range.rangeFitsLong ((b - a : Nat) : Int) = true := fits_of (by omega)
  have h2 : Builtin.Range.rangeFitsLong (b : Int) = true := fits_of (by omega)
  rw [if_pos (by decide)]
  simp [h1, h2]
set_option maxHeartbeats 4000000 in
theorem indent_c {c : Cell} {cnt : List Int} {b nt ts : Nat} {t1 : Tok} {Q : Value → Shared → Prop} (U : Bs w mg mb B) (x : St B os F s (c :: σ)) (r : Rm A 20) (f : Wsp F m cnt b nt) (hts : 0 < ts) (hts2 : ts ≤ 1000) (hc : ∀ n ∈ cnt, 0 ≤ n ∧ n ≤ 200) (hcl : cnt.length ≤ 200) (hb : b ≤ 200) (hnt : nt ≤ 200)
    (h : ∀ t F' s', Le F F' → St B os F' s' (c :: σ) → Q (.int (indentOf ts cnt b nt) t) s') :
    wpAny (model prg w) A (call (.ref 227) [.ref m, .int ts t1]) Q E s := by
  refine wpAny_call ?_
  refine' enterF fIndent (binds := [("self", .ref m), ("tabsize", .int ts t1)]) (keys := ["self", "tabsize"]) U x r ?k2 ?k3 ?k4 ?k5 ?k6 ?k7 ?_ ?c1 ?c2 ?c3
  k_extra "sides"
  intro L s₁ x₁ r₁
  clear x
  k_extra "gox"
  refine wpAny_For ?_
  k_extra "gox"
  rename St _ _ _ _ _ => xx
  refine rg_make2 xx fun rr F6 s6 le6 e6 x6 => ?_
  obtain ⟨v6, e6⟩ := e6
  refine rg_iter x6 e6 (small_up (by omega) (by omega)) fun it s7 x7 => ?_
  rw [rangeSize_up] at x7
  replace x7 := x7.flip
  clear xx x6
  refine codeAny_forLoop (fun n' s' => ∃ (i : Nat) (acc : Int) (tc : Addr) (F' : Facts) (z1 z2 : Tok), (n' ≠ 0 → i + n' = cnt.length ∧ ts ≤ i) ∧ ilGo ts cnt n' i acc = ilGo ts cnt (cnt.length - ts) ts 0 ∧ 0 ≤ acc ∧ acc + n' * 40000 ≤ 8000000 ∧ Le F F' ∧ FTs F' tc cnt ∧
    St B os F' s' ((L, Loc [("self", .ref m), ("tabsize", .int ts t1), ("count", .ref tc), ("trailing", .int b z1), ("il", .int acc z2)]) :: (it, Is (rgO i n' 1)) :: c :: σ)) ?_ (cnt.length - ts) ?_
  · rintro n' s₈ ⟨i, acc, tc', F', z1, z2, hi, hrun, ha0, ha1, le', f', x₈⟩
    clear x7
    by_cases hn0 : n' = 0
    · subst hn0
      refine rg_end x₈ (by k_extra "memd") (.tail .head) r₁.hh (by omega) fun s₄ x₄ => ?_
      (try dsimp only)
      clear x₈
      have hacc : acc = ilGo ts cnt (cnt.length - ts) ts 0 := hrun
      k_extra "gox"
      rename St _ _ _ _ _ => xx
      (try dsimp only)
      have hq := h
      unfold indentOf at hq
      rw [← hacc] at hq
      exact hq _ F' _ le' (by first | exact xx.drop .head | exact (xx.drop .head).toks)
    · have hi' := hi hn0
      refine rg_item x₈ (.tail .head) (by omega) fun t' s₄ x₄ => ?_
      (try dsimp only)
      clear x₈
      have hm := hc (cnt.getD i 0) (by rw [List.getD_eq_getElem?_getD, List.getElem?_eq_getElem (by omega)]; exact List.getElem_mem _)
      have hq : i / ts ≤ 200 := Nat.le_trans (Nat.div_le_self _ _) (by omega)
      have e2 : Int.fdiv (i : Int) ts = ((i / ts : Nat) : Int) := by rw [Int.fdiv_eq_ediv_of_nonneg _ (by omega)]; rfl
      have hq0 : 0 ≤ Int.fdiv (i : Int) ts := by rw [e2]; exact Int.natCast_nonneg _
      have hq1 : Int.fdiv (i : Int) ts ≤ 200 := by rw [e2]; exact_mod_cast hq
      have hm' : 0 ≤ cnt.getD (i : Int).toNat 0 ∧ cnt.getD (i : Int).toNat 0 ≤ 200 := by rw [Int.toNat_natCast]; exact hm
      obtain ⟨hm0, hm1⟩ := hm'
      have hp0 : 0 ≤ Int.fdiv (i : Int) ts * cnt.getD (i : Int).toNat 0 := Int.mul_nonneg hq0 hm0
      have hp1 : Int.fdiv (i : Int) ts * cnt.getD (i : Int).toNat 0 ≤ 40000 := Int.le_trans (Int.mul_le_mul hq1 hm1 hm0 (by omega)) (by omega)
      k_extra "gox"
      rename St _ _ _ _ _ => xx
      (try dsimp only)
      rw [e2, Int.toNat_natCast] at xx hp0 hp1
      refine' ⟨n' - 1, by omega, i + 1, acc + ((i / ts : Nat) : Int) * cnt.getD i 0, tc', F', z1, _, fun _ => ⟨by omega, by omega⟩, ?run, by omega, ?b1, le', f', ?fin⟩
      case run =>
        rw [← hrun]
        obtain ⟨z, rfl⟩ : ∃ z, n' = z + 1 := ⟨n' - 1, by omega⟩
        rfl
      case b1 =>
        have : ((n' - 1 : Nat) : Int) = n' - 1 := by omega
        rw [this]; omega
      case fin =>
        rw [show ((i : Int) + 1) = ((i + 1 : Nat) : Int) from by omega, show ((n' : Int) - 1) = ((n' - 1 : Nat) : Int) from by omega] at xx
        exact xx.weak (by k_extra "reloc")
  · rw [show ((cnt.length : Int) - (ts : Int)).toNat = cnt.length - ts from by omega] at x7
    refine' ⟨ts, 0, _, _, _, _, fun hq => ⟨by omega, by omega⟩, rfl, by omega, by omega, ?le, ?f, x7.weak (by k_extra "reloc")⟩
    case le => k_extra "le"
    case f => k_extra "fts"
end
end
section
/-- a table of code made in a body: empty, or one record, whose code is known -/
noncomputable def TabQ (F : Facts) (ln cl : Nat) (q : Str) (o : Obj) : Prop := o = tabO #[] ∨ ∃ c' oc vs t, o = tabO #[rawInt ln, rawInt cl, .ref c'] ∧ F c' = some oc ∧ oc.data = .fields vs ∧ vs[1]? = some (.str q t)
theorem TabQ.le {F F' : Facts} {ln cl : Nat} {q : Str} {o : Obj} (le : Le F F') (x : TabQ F ln cl q o) : TabQ F' ln cl q o := by
  rcases x with h | ⟨c', oc, vs, t, e, e2, e3, e4⟩
  · exact .inl h
  · exact .inr ⟨c', oc, vs, t, e, le _ _ e2, e3, e4⟩
/-- a function made in a body -/
noncomputable def FnF (F : Facts) (f : Addr) (name qual : Str) (params : Arguments) (body : List Stmt) (scope : Scope) (clos : List (Str × Addr)) : Prop :=
  ∃ doc pm c' ctv oc vs t, F f = some { cls := .type "function", data := .func (fnX name qual params body scope clos .none .none doc pm none (.ref c') ctv) } ∧ F c' = some oc ∧ oc.data = .fields vs ∧ vs[1]? = some (.str qual t)
theorem FnF.le {F F' : Facts} {f : Addr} {name qual : Str} {params : Arguments} {body : List Stmt} {scope : Scope} {clos : List (Str × Addr)} (x : FnF F f name qual params body scope clos) (le : Le F F') : FnF F' f name qual params body scope clos :=
  let ⟨doc, pm, c', ctv, oc, vs, t, e1, e2, e3, e4⟩ := x; ⟨doc, pm, c', ctv, oc, vs, t, le _ _ e1, le _ _ e2, e3, e4⟩
theorem FnF.el {F F' : Facts} {f : Addr} {name qual : Str} {params : Arguments} {body : List Stmt} {scope : Scope} {clos : List (Str × Addr)} (le : Le F F') (x : FnF F f name qual params body scope clos) : FnF F' f name qual params body scope clos := x.le le
noncomputable def CelF (F : Facts) (c : Addr) (v : Value) : Prop := ∃ o, F c = some o ∧ o.data = .cell (some v)
theorem CelF.le {F F' : Facts} {c : Addr} {v : Value} (x : CelF F c v) (le : Le F F') : CelF F' c v := let ⟨o, e, h⟩ := x; ⟨o, le _ _ e, h⟩
theorem CelF.el {F F' : Facts} {c : Addr} {v : Value} (le : Le F F') (x : CelF F c v) : CelF F' c v := x.le le
section
variable {w : World} {mg mb : Str → Option Value} {B : Heap} {os : OsState} {F : Facts} {s : Shared} {σ σ' : List Cell} {A : Around} {k : Nat} {E : Value → Shared → Prop} {a d m md ll it l b c : Addr} {vs : Array Value} {v : Value} {i M : Int} {sg : Str} {R : Result → Shared → Prop} {ns ms : List Int}
theorem Wd.addAll {h' : Heap} {news : List Cell} (x : Wd B F h' σ) (fr : ∀ p ∈ news, F p.1 = none ∧ ∀ q ∈ σ, q.1 ≠ p.1) (hp : ∀ p ∈ news, ∃ o, h'.get? p.1 = some o ∧ p.2 o) (nd : (news.map (·.1)).Nodup) : Wd B F h' (news ++ σ) := by
  refine ⟨x.base, x.keep, fun p hm => ?_, fun p hm => ?_, ?_⟩
  · rcases List.mem_append.mp hm with h | h
    · exact hp p h
    · exact x.cell p h
  · rcases List.mem_append.mp hm with h | h
    · exact (fr p h).1
    · exact x.off p h
  · rw [List.map_append, List.nodup_append]
    refine ⟨nd, x.nodup, fun a ha b hb e => ?_⟩
    obtain ⟨p, hp, rfl⟩ := List.mem_map.mp ha
    obtain ⟨q, hq, rfl⟩ := List.mem_map.mp hb
    exact (fr p hp).2 q hq e.symm
theorem high_none {h : Heap} {q : Addr} (e : h.objs.size ≤ q) : h.get? q = none := by
  cases z : h.get? q with
  | none => rfl
  | some o => exact absurd (Heap.lt_size z) (Nat.not_lt.mpr e)
/-- into a function with cells of its own -/
theorem enterK {f : Addr} (fn : FnAt f) {body : List Stmt} {vals : List Value} {binds lb : List (Str × Value)} {nc : Addr → List Cell} {R : Result → Shared → Prop}
    (U : Bs w mg mb B) (x : St B os F s σ) (r : Rm A (k + 1)) (hbody : fn.fd.body = .stmts body)
    (hbind : bindArgs fn.fd ⟨vals, []⟩ = pure binds) (hclo : fn.fd.closure = [])
    (hkind : ∀ n, ∀ y ∈ binds, fn.fd.scope.names.lookup y.1 = some .local ∨ (fn.fd.scope.names.lookup y.1 = some .cell ∧ ((cellsFrom n fn.fd.scope.names []).lookup y.1).isSome = true))
    (hnd : ((cellsFrom 0 fn.fd.scope.names []).map (·.1)).Nodup)
    (hlb : ∀ L, Has lb (bindL (callEnvC fn.fd L f).kindOf binds fun _ => none))
    (hnc : ∀ L, (cellsFrom (L + 1) fn.fd.scope.names []).map (fun p => (p.2, Cel (bindC (callEnvC fn.fd L f).kindOf binds (fun _ => none) p.1))) = nc L)
    (h : ∀ L s₁, St B os F s₁ ((L, Loc lb) :: nc L ++ σ) → Rm (A.deeper (callEnvC fn.fd L f)) k →
      wpAny (model prg w) (A.deeper (callEnvC fn.fd L f)) (execs body (callEnvC fn.fd L f)) (fun fl s' => R (.ok (.ret (match fl with | .ret v => v | _ => .none))) s') (fun _ _ => False) s₁)
    (hco : fn.fd.scope.isCoroutine = false) (hgen : fn.fd.scope.isGenerator = false) (hk : fn.fd.scope.kind = .function) : codeAny (model prg w) A (.call (.ref f) ⟨vals, []⟩) R s := by
  obtain ⟨oc, od, osl, ho⟩ := fn.at_ w.params
  have X := x.In U
  refine codeAny_call_cells r.room (X _ _ ho) rfl (U.nolimit.keeps x.wd.keepsB) (codeRec_of X (fn.code w.params)) hbody hbind hclo (hkind _) (fun s₁ y => ?_) hco hgen hk
  refine wpAny_mono (h s.heap.objs.size s₁ ?_ (r.deeper _)) (fun _ _ z => z) fun _ _ z => z.elim
  obtain ⟨⟨⟨h', tk, rfl⟩, hns, keep, fresh⟩, hcell, hapart, habove⟩ := y
  have hmap : ∀ p ∈ nc s.heap.objs.size, ∃ q ∈ cellsFrom (s.heap.objs.size + 1) fn.fd.scope.names [], p = (q.2, Cel (bindC (callEnvC fn.fd s.heap.objs.size f).kindOf binds (fun _ => none) q.1)) := by
    intro p hp; rw [← hnc] at hp; obtain ⟨q, hq, e⟩ := List.mem_map.mp hp; exact ⟨q, hq, e.symm⟩
  have x2 : Wd B F h' σ := x.wd.grow keep
  refine ⟨?_, x.bare, x.os⟩
  refine Wd.addAll (news := (s.heap.objs.size, Loc lb) :: nc s.heap.objs.size) x2 (fun p hp => ?_) (fun p hp => ?_) ?_
  · refine x.wd.fresh (high_none ?_)
    rcases List.mem_cons.mp hp with rfl | hp
    · exact Nat.le_refl _
    · obtain ⟨q, hq, rfl⟩ := hmap p hp
      exact Nat.le_of_lt (habove q.1 q.2 hq)
  · rcases List.mem_cons.mp hp with rfl | hp
    · obtain ⟨o, es, ep, e1, e2, e3, e4⟩ := hns
      exact ⟨o, e1, _, ⟨es, ep, e2, e3, e4⟩, hlb _⟩
    · obtain ⟨q, hq, rfl⟩ := hmap p hp
      exact hcell q.1 q.2 (lookup_of_mem_nodup (cellsFrom_names fn.fd.scope.names 0 (s.heap.objs.size + 1) [] [] rfl ▸ hnd) hq)
  · rw [List.map_cons, List.nodup_cons]
    refine ⟨fun hm => ?_, ?_⟩
    · obtain ⟨p, hp, e⟩ := List.mem_map.mp hm
      obtain ⟨q, hq, rfl⟩ := hmap p hp
      exact absurd e (Nat.ne_of_gt (habove q.1 q.2 hq))
    · rw [← hnc, List.map_map]
      have : (cellsFrom (s.heap.objs.size + 1) fn.fd.scope.names []).Pairwise (fun a b => a.2 ≠ b.2) := hapart
      exact List.pairwise_map.mpr this
/-- into a function made in a body -/
theorem enterN {f : Addr} {name qual : Str} {params : Arguments} {body : List Stmt} {scope : Scope} {clos : List (Str × Addr)} {vals : List Value} {binds : List (Str × Value)} {keys : List Str} {R : Result → Shared → Prop}
    (U : Bs w mg mb B) (x : St B os F s σ) (r : Rm A (k + 1)) (hf : FnF F f name qual params body scope clos)
    (hbind : ∀ doc pm c' ctv, bindArgs (fnX name qual params body scope clos .none .none doc pm none (.ref c') ctv) ⟨vals, []⟩ = pure binds) (hcell : scope.names.all (fun y => y.2 != .cell) = true) (hkeys : binds.map (·.1) = keys) (hnd : keys.Nodup) (hloc : keys.all (fun y => scope.names.lookup y == some .local) = true)
    (h : ∀ doc pm c' ctv L s₁, St B os F s₁ ((L, Loc binds) :: σ) → Rm (A.deeper (callEnv (fnX name qual params body scope clos .none .none doc pm none (.ref c') ctv) L f)) k →
      wpAny (model prg w) (A.deeper (callEnv (fnX name qual params body scope clos .none .none doc pm none (.ref c') ctv) L f)) (execs body (callEnv (fnX name qual params body scope clos .none .none doc pm none (.ref c') ctv) L f)) (fun fl s' => R (.ok (.ret (match fl with | .ret v => v | _ => .none))) s') (fun _ _ => False) s₁)
    (hco : scope.isCoroutine = false) (hgen : scope.isGenerator = false) (hk : scope.kind = .function) : codeAny (model prg w) A (.call (.ref f) ⟨vals, []⟩) R s := by
  obtain ⟨doc, pm, c', ctv, oc, vs, t, e1, e2, e3, e4⟩ := hf
  have hcr : s.heap.CodeRec (.ref c') qual := ⟨c', oc, vs, t, rfl, x.wd.fact e2, e3, e4⟩
  refine codeAny_call_def (fd := fnX name qual params body scope clos .none .none doc pm none (.ref c') ctv) (binds := binds) r.room (x.wd.fact e1) rfl (U.nolimit.keeps x.wd.keepsB) hcr rfl (BindsTo.of_eq (hbind doc pm c' ctv)) (fun y hy => by have := List.all_eq_true.mp hcell y hy; simpa using this) (fun y hy => by have := List.all_eq_true.mp hloc y.1 (hkeys ▸ List.mem_map_of_mem hy); simpa using this) (fun h₀ hns hk₀ => ?_) hco hgen hk
  refine wpAny_mono (h doc pm c' ctv s.heap.objs.size _ (x.with_ (x.wd.new (Wd.size_none _) hk₀ ?_)) (r.deeper _)) (fun _ _ z => z) fun _ _ z => z.elim
  obtain ⟨o, es, ep, f1, f2, f3, f4⟩ := hns
  exact ⟨o, f1, _, ⟨es, ep, f2, f3, f4⟩, has_binds (hkeys ▸ hnd)⟩
theorem tabO_eq (ps : Array Value) : tabO ps = tabObj ps := rfl
theorem CodeAt.hd {c P : Addr} (hcP : CodeAt c P) (hne : c ≠ P) (U : Bs w mg mb B) (x : St B os F s σ) : CodeHd s.heap c P := by
  obtain ⟨od, osl, fv, file, tf, flags, tg, inF, text, tt, e1, e2, e3, e4, e5, e6, e7⟩ := hcP w.params
  exact ⟨_, fv, file, tf, flags, tg, inF, text, tt, x.In U _ _ e1, rfl, rfl, e2, e3, e4, e5, e6, e7, hne⟩
theorem Up.at {P P' : Obj → Prop} : ∀ (σ1 : List Cell) {σ2 : List Cell}, Up a P P' (σ1 ++ (a, P) :: σ2) (σ1 ++ (a, P') :: σ2)
  | [], _ => .head
  | _ :: r, _ => .tail (Up.at r)
/-- a function is made in a body -/
theorem def_c {F0 : Facts} {P : Addr} {env : Env} {name qual : Str} {params : Arguments} {body : List Stmt} {scope : Scope} {clos : List (Str × Addr)} {pos : Pos} {fl : Nat} {σ1 σ2 : List Cell} {Q : Value → Shared → Prop} (U : Bs w mg mb B)
    (x : St B os F s (σ1 ++ (P, TabQ F0 pos.line pos.col qual) :: σ2)) (le0 : Le F0 F) (hcP : CodeAt c P) (hcode : env.code = .ref c) (hne : c ≠ P) (hge : env.globals = mainGlobals) (hcl : closureFor scope env = pure clos)
    (h : ∀ f F' s', Le F F' → FnF F' f name qual params body scope clos → St B os F' s' (σ1 ++ (P, TabQ F' pos.line pos.col qual) :: σ2) → Q (.ref f) s') :
    wpAny (model prg w) A (makeFunction name qual params (.stmts body) scope env [] [] [] pos fl) Q E s := by
  have hm : (P, TabQ F0 pos.line pos.col qual) ∈ σ1 ++ (P, TabQ F0 pos.line pos.col qual) :: σ2 := List.mem_append_right _ List.mem_cons_self
  have C := hcP.hd hne U x
  obtain ⟨oP, gP, hP⟩ := x.wd.cell _ hm
  have hg := U.g.keeps x.wd.keepsB
  obtain ⟨bm, ob, b1, b2, b3, b4, b5, b6⟩ := U.bmain
  have hbP : bm ≠ P := fun q => by
    have := x.wd.off _ hm
    rw [← q] at this
    rw [x.wd.base _ _ b3] at this; cases this
  have hgP : mainGlobals ≠ P := fun q => by
    obtain ⟨o, es, ep, e, _⟩ := U.g
    have := x.wd.off _ hm
    rw [← q] at this
    rw [x.wd.base _ _ e] at this; cases this
  have hbG : bm ≠ mainGlobals := fun q => by
    obtain ⟨o, es, ep, e, hd, _⟩ := U.g
    rw [← q, b3] at e; cases e; rw [b6] at hd; cases hd
  have hb : s.heap.BuiltinsAt mg P := ⟨bm, ob, b1, b2, hbG, hbP, x.wd.old b3, b4, b5, b6⟩
  rcases hP with rfl | ⟨c', oc, vs, t, rfl, e2, e3, e4⟩
  · refine makeFunction_K hcl hge hg hcode C gP (by trivial) rfl hgP hb fun c' ctv doc h' tk hx hge' hlt hrec hP' => ?_
    obtain ⟨c'', oc, vs, t, ec, g1, g2, g3⟩ := hrec
    cases ec
    have y0 : Wd B F h' (σ1 ++ (P, Is (tabO #[rawInt pos.line, rawInt pos.col, .ref c'])) :: σ2) := x.wd.turn (Up.at σ1) (fun b o hb e => hx b o hb e) ⟨_, hP', rfl⟩
    have fr := x.wd.fresh (high_none hge')
    have y1 : Wd B F h' ([(c', Is oc)] ++ (σ1 ++ (P, Is (tabO #[rawInt pos.line, rawInt pos.col, .ref c'])) :: σ2)) := y0.addAll (fun p hp => by
      rw [List.mem_singleton] at hp; subst hp
      refine ⟨fr.1, fun q hq => ?_⟩
      rcases List.mem_append.mp hq with hq | hq
      · exact fr.2 q (List.mem_append_left _ hq)
      · rcases List.mem_cons.mp hq with rfl | hq
        · have z := fr.2 _ hm; exact z
        · exact fr.2 q (List.mem_append_right _ (List.mem_cons_of_mem _ hq))) (fun p hp => by rw [List.mem_singleton] at hp; subst hp; exact ⟨_, g1, rfl⟩) (by simp)
    obtain ⟨y2, le1, e1⟩ := y1.freeze .head (.head _)
    obtain ⟨y3, le2, e5⟩ := (y2.push (fnMade name qual params body scope clos doc ((mg "__name__").getD .none) c' ctv) rfl).freeze .head (.head _)
    have y4 := y3.imp (Up.at (P' := TabQ _ pos.line pos.col qual) σ1) fun o ho => .inr ⟨c', oc, vs, t, ho, le2 _ _ e1, g2, g3⟩
    k_extra "uq"
    exact h _ _ _ (le1.trans le2) ⟨doc, _, c', ctv, oc, vs, t, e5, le2 _ _ e1, g2, g3⟩ (x.with_ y4)
  · refine makeFunction_hit hcl hge hg hcode C gP (by simp [TriplesOk, rawInt]) (codeAmong_one _ _) hb fun ctv doc h' tk hk hsz => ?_
    have x1 : Wd B F h' _ := x.wd.grow hk
    obtain ⟨z, le, e5⟩ := (x1.push { cls := .type "function", data := .func (fnX name qual params body scope clos .none .none doc ((mg "__name__").getD .none) none (.ref c') ctv) } rfl).freeze .head (.head _)
    have z' := z.imp (Up.at (P' := TabQ _ pos.line pos.col qual) σ1) fun o ho => ho.le (le0.trans le)
    k_extra "uq"
    exact h _ _ _ le ⟨doc, _, c', ctv, oc, vs, t, e5, le _ _ (le0 _ _ e2), e3, e4⟩ (x.with_ z')
theorem ldCel {env : Env} {n : Str} {pos : Pos} {Q : Value → Shared → Prop} (hc : env.cells.lookup n = some c) (hk : env.scope.kind = .function) (hl : env.kindOf n = some .cell) (hd : (n == ("__debug__" : Str)) = false) (x : St B os F s σ) (hm : (c, Cel (some v)) ∈ σ) (h : Q v s) :
    wpAny (model prg w) A (eval (.Name n pos) env) Q E s := wpAny_Name (wpAny_loadName_cell hk hl hc (x.wd.cel hm) h) hd
theorem ldCelF {env : Env} {n : Str} {pos : Pos} {Q : Value → Shared → Prop} (hc : env.cells.lookup n = some c) (hk : env.scope.kind = .function) (hl : env.kindOf n = some .cell ∨ (env.kindOf n = some .free ∧ (n == ("__classdict__" : Str)) = false)) (hd : (n == ("__debug__" : Str)) = false) (x : St B os F s σ) (hm : CelF F c v) (h : Q v s) :
    wpAny (model prg w) A (eval (.Name n pos) env) Q E s := by
  obtain ⟨o, e, hd'⟩ := hm
  have hv : s.heap.IsCell c (some v) := ⟨o, x.wd.fact e, hd'⟩
  rcases hl with hl | ⟨hl, hn⟩
  · exact wpAny_Name (wpAny_loadName_cell hk hl hc hv h) hd
  · exact wpAny_Name (wpAny_loadName_free hk hl hc hv h hn) hd
theorem stCel {env : Env} {n : Str} {v0 : Option Value} {Q : Unit → Shared → Prop} (hc : env.cells.lookup n = some c) (hk : env.scope.kind = .function) (hl : env.kindOf n = some .cell) (x : St B os F s σ) (u : Up c (Cel v0) (Cel (some v)) σ σ') (h : ∀ s', St B os F s' σ' → Q () s') :
    wpAny (model prg w) A (storeName env n v) Q E s :=
  wpAny_storeName_cell hk hl hc (x.wd.cel u.mem) fun h' hcell hs => h _ (x.with_ (x.wd.same u hs hcell))
theorem St.iceCel (x : St B os F s ((c, Cel (some v)) :: σ)) : ∃ F', CelF F' c v ∧ Le F F' ∧ St B os F' s σ := by
  obtain ⟨o, F', p, le, e, y⟩ := x.ice
  exact ⟨F', ⟨o, e, p⟩, le, y⟩
theorem callWith_N {name qual : Str} {params : Arguments} {body : List Stmt} {scope : Scope} {clos : List (Str × Addr)} {q : Addr} {env : Env} {pos : Pos} {first : List Value} {e : Expr} {rest : List Expr} {Q : Value → Shared → Prop} (x : St B os F s σ) (hf : FnF F q name qual params body scope clos) 
    (h : wpAny (model prg w) A (spliced (backTo pos (starEach (e :: rest) env))) (fun vs s₁ => PySem.W.FnAt q s₁.heap ∧ wpAny (model prg w) A (call (.ref q) (first ++ vs)) Q E s₁) E s)
    (he : starEach (e :: rest) env = (false, eval e env) :: starEach rest env := by rfl) (hplain : (backTo pos (starEach rest env)).any (·.1) = false := by rfl) :
    wpAny (model prg w) A (callWith pos (.ref q) first (backTo pos (starEach (e :: rest) env)) []) Q E s := by
  obtain ⟨doc, pm, c', ctv, oc, vs, t, e1, e2, e3, e4⟩ := hf
  exact callWith_F ⟨_, _, _, _, x.wd.fact e1⟩ h he hplain
theorem fnAt_of {name qual : Str} {params : Arguments} {body : List Stmt} {scope : Scope} {clos : List (Str × Addr)} {q : Addr} (x : St B os F s σ) (hf : FnF F q name qual params body scope clos) : PySem.W.FnAt q s.heap := by
  obtain ⟨doc, pm, c', ctv, oc, vs, t, e1, e2, e3, e4⟩ := hf
  exact ⟨_, _, _, _, x.wd.fact e1⟩
end
end
theorem linesM33 : True := by
  (k_with "cel" => (first | assumption | exact Mine.CelF.el (by assumption) (by k_extra "cel")))
  (k_with "fnf" => (first | assumption | exact Mine.FnF.el (by assumption) (by k_extra "fnf")))
  (k_with "eval Name" => (with_unfolding_all (refine' Mine.ldCel (by rfl) (by rfl) (by rfl) (by decide) (by k_extra "stk") (by k_extra "memd") ?_)))
  (k_with "eval Name" => (with_unfolding_all (refine' Mine.ldCelF (by rfl) (by rfl) (by first | exact .inl rfl | exact .inr ⟨rfl, by decide⟩) (by decide) (by k_extra "stk") (by k_extra "cel") ?_)))
  (k_with "storeName" => (refine' Mine.stCel (by rfl) (by rfl) (by rfl) (by k_extra "stk") (by k_extra "up") ?_; intro _ _))
  (k_with "callWith ref" => (refine' Mine.callWith_N (by k_extra "stk") (by k_extra "fnf") ?_; intros))
  (k_with "And" => ((with_reducible show PySem.W.FnAt _ _ ∧ _); refine' ⟨Mine.fnAt_of (by k_extra "stk") (by k_extra "fnf"), ?_⟩; (try dsimp only [List.nil_append, List.cons_append])))
  trivial
section
/-- the digits of x, written into places l to r -/
noncomputable def innerSet (n : Nat) : Nat → Nat → Nat → Nat → List Int → List Int
  | 0, _, _, _, ds => ds
  | f + 1, x, l, r, ds => if l + 1 = r then ds.set l x else
    innerSet n f (x >>> (((l + r) / 2 - l) * n)) ((l + r) / 2) r (innerSet n f (x ^^^ ((x >>> (((l + r) / 2 - l) * n)) <<< (((l + r) / 2 - l) * n))) l ((l + r) / 2) ds)
theorem innerSet_length (n : Nat) : ∀ (f x l r : Nat) (ds : List Int), (innerSet n f x l r ds).length = ds.length
  | 0, _, _, _, _ => rfl
  | f + 1, x, l, r, ds => by
    unfold innerSet
    split
    · simp
    · rw [innerSet_length, innerSet_length]
theorem xor_low {y s : Nat} (h : y < 64) : y ^^^ ((y >>> s) <<< s) ≤ y := by
  rcases Nat.lt_or_ge s 8 with hs | hs
  · have : ∀ (y : Fin 64) (s : Fin 8), y.val ^^^ ((y.val >>> s.val) <<< s.val) ≤ y.val := by decide +kernel
    exact this ⟨y, h⟩ ⟨s, hs⟩
  · have : y >>> s = 0 := by rw [Nat.shiftRight_eq_div_pow]; exact Nat.div_eq_of_lt (Nat.lt_of_lt_of_le h (Nat.le_trans (show 64 ≤ 2 ^ 8 by decide) (Nat.pow_le_pow_right (by decide) hs)))
    rw [this, Nat.zero_shiftLeft, Nat.xor_zero]; exact Nat.le_refl _
theorem bitXor_nat {a b : Nat} (ha : a < 64) (hb : b < 64) : Builtin.bitXor (a : Int) (b : Int) = ((a ^^^ b : Nat) : Int) := by
  have : ∀ (a b : Fin 64), Builtin.bitXor ((a.val : Nat) : Int) ((b.val : Nat) : Int) = ((a.val ^^^ b.val : Nat) : Int) := by decide +kernel
  exact this ⟨a, ha⟩ ⟨b, hb⟩
noncomputable def i2d (a n : Nat) : List Int := if a = 0 then List.replicate ((Builtin.Int.intBits (a : Int) + n - 1) / n) 0 else innerSet n 8 a 0 ((Builtin.Int.intBits (a : Int) + n - 1) / n) (List.replicate ((Builtin.Int.intBits (a : Int) + n - 1) / n) 0)
section
variable {w : World} {mg mb : Str → Option Value} {B : Heap} {os : OsState} {F : Facts} {s : Shared} {σ σ' : List Cell} {A : Around} {k : Nat} {E : Value → Shared → Prop} {a d m md ll it l b c : Addr} {vs : Array Value} {v : Value} {i M : Int} {sg : Str} {R : Result → Shared → Prop} {ns ms : List Int}
theorem bits_le {a : Nat} (h : a < 64) : Builtin.Int.intBits (a : Int) ≤ 6 := by
  have : ∀ a : Fin 64, Builtin.Int.intBits ((a.val : Nat) : Int) ≤ 6 := by decide +kernel
  exact this ⟨a, h⟩
noncomputable def dnum (a n : Nat) : Nat := (Builtin.Int.intBits (a : Int) + n - 1) / n
theorem dnum_eq {a n : Nat} (h : a < 64) (hn : 0 < n) : ((Builtin.Int.intBits (a : Int) : Int) + n - 1).fdiv n = (dnum a n : Nat) := by
  rw [Int.fdiv_eq_ediv_of_nonneg _ (by omega)]
  unfold dnum
  rw [show ((Builtin.Int.intBits (a : Int) : Int) + n - 1) = ((Builtin.Int.intBits (a : Int) + n - 1 : Nat) : Int) from by omega]
  rfl
theorem dnum_le {a n : Nat} (h : a < 64) (hn : 0 < n) (hn2 : n ≤ 2) : dnum a n ≤ 7 := by
  have := bits_le h
  unfold dnum
  exact Nat.le_trans (Nat.div_le_self _ _) (by omega)
theorem dnum_pos {a n : Nat} (h : a < 64) (h0 : 0 < a) (hn : 0 < n) (hn2 : n ≤ 2) : 0 < dnum a n := by
  have : ∀ (a : Fin 64) (n : Fin 3), 0 < a.val → 0 < n.val → 0 < dnum a.val n.val := by decide +kernel
  exact this ⟨a, h⟩ ⟨n, by omega⟩ h0 hn
theorem St.iceLis {l : Addr} (x : St B os F s ((l, LIs ns) :: σ)) : ∃ F', FIs F' l ns ∧ Le F F' ∧ St B os F' s σ := by
  obtain ⟨o, F', p, le, e, y⟩ := x.ice
  obtain ⟨hc, n, vs, hd, hi⟩ := p
  exact ⟨F', ⟨vs.toList, ⟨o, e, hc, n, by simpa using hd⟩, hi⟩, le, y⟩
section
theorem ownM33a : True := by
  (k_with "binaryOp Mult ref int" => (refine' Mine.ci_mul (by k_extra "stk") (by k_extra "fact") (by k_extra "om") (by k_extra "om") ?_; intros))
  (k_with "exec FunctionDef" => (refine' nestDef_K rfl rfl rfl ?_))
  trivial
set_option maxHeartbeats 2000000 in
theorem int2_c {c : Cell} {F0 : Facts} {a n : Nat} {t1 t2 : Tok} {Q : Value → Shared → Prop} (U : Bs w mg mb B) (x : St B os F s (c :: (184, TabQ F0 113 4 "_int2digits.<locals>.inner") :: σ)) (le0 : Le F0 F) (r : Rm A 30) (ha : a < 64) (hn : 0 < n) (hn2 : n ≤ 2) (h : ∀ q F' s', Le F F' → FIs F' q (i2d a n) → St B os F' s' (c :: (184, TabQ F' 113 4 "_int2digits.<locals>.inner") :: σ) → Q (.ref q) s') :
    wpAny (model prg w) A (call (.ref 189) [.int a t1, .int n t2]) Q E s := by
  refine wpAny_call ?_
  refine' enterK fInt2 (binds := [("a", .int a t1), ("n", .int n t2)]) (lb := [("a", .int a t1)]) (nc := fun L => [(L + 3, Cel none), (L + 2, Cel none), (L + 1, Cel (some (.int n t2)))]) U x r rfl rfl rfl ?k1 ?k2 ?k3 ?k4 ?_ rfl rfl rfl
  case k1 => intro n y hy; simp only [List.mem_cons, List.not_mem_nil, or_false] at hy; rcases hy with rfl | rfl; exact .inl rfl; exact .inr ⟨rfl, rfl⟩
  case k2 => decide +kernel
  case k3 => exact fun L => List.forall_mem_cons.mpr ⟨rfl, List.forall_mem_nil _⟩
  case k4 => exact fun L => rfl
  intro L s₁ x₁ r₁
  clear x
  dsimp only [List.cons_append, List.nil_append] at x₁
  have hd := dnum_eq (n := n) ha hn
  have hd2 := dnum_le ha hn hn2
  have hq0 : 0 ≤ ((Builtin.Int.intBits (a : Int) : Int) + n - 1).fdiv n := by rw [hd]; omega
  have hq1 : ((Builtin.Int.intBits (a : Int) : Int) + n - 1).fdiv n ≤ 7 := by rw [hd]; omega
  k_extra "go"
  rename St _ _ _ _ _ => xx
  rename Addr => ad
  rw [hd, Int.toNat_natCast] at xx
  refine def_c (σ1 := [_, _, _, _, _, _]) U xx (by k_extra "le") cInt2 rfl (by decide) rfl rfl fun f F5 s5 le5 hf x5 => ?_
  dsimp only [List.cons_append, List.nil_append] at x5
  clear xx
  walk_at "storeName"
  clear x5
  rename St _ _ _ _ _ => xx
  obtain ⟨F6, hI, le6, x6⟩ := (xx.swap).flip.iceCel
  obtain ⟨F7, hA, le7, x7⟩ := (x6.swap).flip.iceCel
  obtain ⟨F8, hN, le8, x8⟩ := (x7.swap).flip.iceCel
  clear xx x6 x7
  replace hA := hA.le le8
  replace hI := (hI.le le7).le le8
  replace hf := ((hf.le le6).le le7).le le8
  have key : ∀ (fu y l r' : Nat) (ds : List Int) (u1 u2 u3 : Tok) (A : Around) (c : Cell) (σ : List Cell) (G : Facts) (s : Shared) (Q : Value → Shared → Prop) (E : Value → Shared → Prop), Le F8 G → St B os G s (c :: (ad, LIs ds) :: σ) → Rm A (fu + 2) → l < r' → r' ≤ l + fu → r' ≤ ds.length → ds.length ≤ 100 → y < 64 →
      (∀ F' s', Le G F' → St B os F' s' (c :: (ad, LIs (innerSet n fu y l r' ds)) :: σ) → Q .none s') → wpAny (model prg w) A (call (.ref f) [.int y u1, .int l u2, .int r' u3]) Q E s := by
    clear x8 h
    intro fu
    induction fu with
    | zero => intros; omega
    | succ fu ih =>
      intro y l r' ds u1 u2 u3 A c σ G s Q E leG x r hlr hrl hrd hds hy h
      refine wpAny_call ?_
      refine' enterN (binds := [("x", .int y u1), ("L", .int l u2), ("R", .int r' u3)]) (keys := ["x", "L", "R"]) U x r (hf.le leG) (fun _ _ _ _ => rfl) rfl rfl (by decide) rfl ?_ rfl rfl rfl
      intro doc pm c' ctv L' s₁ x₁ r₁
      replace x₁ := x₁.swap
      clear x
      replace hA := hA.le leG
      replace hN := hN.le leG
      replace hI := hI.le leG
      k_extra "go"
      · rename (_ = _) => heq
        rename St _ _ _ _ _ => xx
        have hrec : innerSet n (fu + 1) y l r' ds = ds.set (l : Int).toNat y := by rw [innerSet, if_pos (by omega), Int.toNat_natCast]
        rw [hrec] at h
        k_extra "uq"
        refine h _ _ ?le (xx.drop .head).flip
        case le => k_extra "le"
      · rename (¬ _) => hne
        rename St _ _ _ _ _ => xx
        have em : ((l : Int) + r').fdiv (2 ^ Int.toNat 1) = (((l + r') / 2 : Nat) : Int) := by
          rw [show ((2 : Int) ^ Int.toNat 1) = 2 from rfl, Int.fdiv_eq_ediv_of_nonneg _ (by omega)]; omega
        generalize hmid : (l + r') / 2 = mid at em
        have hml : l < mid := by omega
        have hmr : mid < r' := by omega
        have es : ((mid : Int) - l) * n = (((mid - l) * n : Nat) : Int) := by
          rw [Int.natCast_mul, show ((mid - l : Nat) : Int) = (mid : Int) - l from by omega]
        have hsb : (mid - l) * n ≤ 200 := Nat.le_trans (Nat.mul_le_mul (show mid - l ≤ 100 by omega) hn2) (by omega)
        rw [em, es] at xx ⊢
        generalize hsh : (mid - l) * n = sh at *
        k_extra "go"
        rename St _ _ _ _ _ => xx
        have eu : (y : Int).fdiv (2 ^ (sh : Int).toNat) = ((y >>> sh : Nat) : Int) := by
          rw [Int.toNat_natCast, Int.fdiv_eq_ediv_of_nonneg _ (Int.pow_nonneg (by omega)), Nat.shiftRight_eq_div_pow]; norm_cast
        rw [eu] at xx ⊢
        have hup : y >>> sh ≤ y := by rw [Nat.shiftRight_eq_div_pow]; exact Nat.div_le_self _ _
        have hul : (y >>> sh) * 2 ^ sh ≤ y := by rw [Nat.shiftRight_eq_div_pow]; exact Nat.div_mul_le_self _ _
        have hxl : y ^^^ ((y >>> sh) <<< sh) ≤ y := xor_low hy
        generalize hupp : y >>> sh = upp at *
        k_extra "go"
        rename St _ _ _ _ _ => xx
        have ex : Builtin.bitXor (y : Int) ((upp : Int) * 2 ^ (sh : Int).toNat) = ((y ^^^ (upp <<< sh) : Nat) : Int) := by
          rw [Int.toNat_natCast, Nat.shiftLeft_eq, show ((upp : Int) * 2 ^ sh) = ((upp * 2 ^ sh : Nat) : Int) from by norm_cast]; exact bitXor_nat hy (by omega)
        rw [ex] at xx ⊢
        have hrec : innerSet n (fu + 1) y l r' ds = innerSet n fu upp mid r' (innerSet n fu (y ^^^ (upp <<< sh)) l mid ds) := by
          rw [innerSet, if_neg (by omega), hmid, hsh, hupp]
        refine ih _ _ _ _ _ _ _ _ _ _ _ _ _ _ (by k_extra "le") xx r₁ hml (by omega) (by omega) hds (by omega) fun F' s' le' x' => ?_
        clear xx
        k_extra "go"
        rename St _ _ _ _ _ => xx
        refine ih _ _ _ _ _ _ _ _ _ _ _ _ _ _ (by k_extra "le") xx r₁ hmr (by omega) (by rw [innerSet_length]; omega) (by rw [innerSet_length]; omega) (by omega) fun F' s' le' x' => ?_
        clear xx
        k_extra "go"
        rename St _ _ _ _ _ => xx
        rw [hrec] at h
        k_extra "uq"
        refine h _ _ ?le (xx.drop .head).flip
        case le => k_extra "le"
  have hzl : (List.replicate (dnum a n) (0 : Int)).length ≤ 1000 := by rw [List.length_replicate]; omega
  k_extra "go"
  · rename St _ _ _ _ _ => xx
    rename ((a : Int) ≠ 0) => hne
    have ha0 : a ≠ 0 := fun e => hne (by rw [e]; rfl)
    have hpos := dnum_pos ha (by omega) hn hn2
    rw [List.length_replicate]
    refine key 8 a 0 (dnum a n) _ _ _ _ _ _ _ _ _ _ _ (by k_extra "le") xx (by k_extra "rm") hpos (by omega) (by rw [List.length_replicate]; exact Nat.le_refl _) (by rw [List.length_replicate]; omega) ha fun F' s' le' x' => ?_
    clear xx
    k_extra "go"
    rename St _ _ _ _ _ => xx
    obtain ⟨Fz, hz, lez, xz⟩ := (xx.drop .head).iceLis
    k_extra "uq"
    refine h _ _ _ ?le ?fi (xz.imp (.tail .head) fun o ho => ho.le ?leq)
    case fi => rw [i2d, if_neg ha0]; exact hz
    case le => k_extra "le"
    case leq => k_extra "le"
  · rename St _ _ _ _ _ => xx
    obtain ⟨Fz, hz, lez, xz⟩ := (xx.drop .head).iceLis
    k_extra "uq"
    refine h _ _ _ ?le ?fi (xz.imp (.tail .head) fun o ho => ho.le ?leq)
    case fi => rw [i2d, if_pos (by omega)]; exact hz
    case le => k_extra "le"
    case leq => k_extra "le"
end
end
end
theorem backM33 : True := by
  (k_with "binaryOp Mult ref int" => (refine' Mine.fi_mul (by k_extra "stk") (by k_extra "fact") (by k_extra "om") (by k_extra "om") ?_; intros))
  trivial
theorem linesM34 : True := by
  (k_with "exec FunctionDef" => (refine' nestDef_K rfl rfl rfl ?_))
  trivial
section
/-- the number that the digits at places l to r stand for -/
noncomputable def d2iGo (n : Nat) (ds : List Int) : Nat → Nat → Nat → Int
  | 0, _, _ => 0
  | f + 1, l, r => if l + 1 = r then ds.getD l 0 else d2iGo n ds f ((l + r) / 2) r * 2 ^ (((l + r) / 2 - l) * n) + d2iGo n ds f l ((l + r) / 2)
noncomputable def d2i (ds : List Int) (n : Nat) : Int := if ds.length = 0 then 0 else d2iGo n ds 8 0 ds.length
theorem d2i_bnd {n : Nat} {ds : List Int} (hd : ∀ d ∈ ds, 0 ≤ d ∧ d < 2 ^ n) : ∀ f l r, l < r → r ≤ l + f → r ≤ ds.length → 0 ≤ d2iGo n ds f l r ∧ d2iGo n ds f l r < 2 ^ (n * (r - l))
  | 0, l, r, h, h2, _ => by omega
  | f + 1, l, r, h, h2, h3 => by
    unfold d2iGo
    split
    · have hm := hd (ds.getD l 0) (by rw [List.getD_eq_getElem?_getD, List.getElem?_eq_getElem (by omega)]; exact List.getElem_mem _)
      rw [show r - l = 1 from by omega, Nat.mul_one]; exact hm
    · generalize hm : (l + r) / 2 = m
      obtain ⟨a0, a1⟩ := d2i_bnd hd f m r (by omega) (by omega) h3
      obtain ⟨b0, b1⟩ := d2i_bnd hd f l m (by omega) (by omega) (by omega)
      have hp : (0 : Int) < 2 ^ ((m - l) * n) := Int.pow_pos (by omega)
      refine ⟨Int.add_nonneg (Int.mul_nonneg a0 (Int.le_of_lt hp)) b0, ?_⟩
      have e1 : (2 : Int) ^ (n * (r - l)) = 2 ^ (n * (r - m)) * 2 ^ ((m - l) * n) := by
        rw [← Int.pow_add]; congr 1
        rw [Nat.mul_comm (m - l) n, ← Nat.mul_add]; congr 1; omega
      have e2 : (d2iGo n ds f m r + 1) * 2 ^ ((m - l) * n) ≤ 2 ^ (n * (r - m)) * 2 ^ ((m - l) * n) := Int.mul_le_mul_of_nonneg_right (by omega) (Int.le_of_lt hp)
      rw [Int.add_mul, Int.one_mul] at e2
      rw [Nat.mul_comm n (m - l)] at b1
      rw [e1]; omega
section
variable {w : World} {mg mb : Str → Option Value} {B : Heap} {os : OsState} {F : Facts} {s : Shared} {σ σ' : List Cell} {A : Around} {k : Nat} {E : Value → Shared → Prop} {a d m md ll it l b c : Addr} {vs : Array Value} {v : Value} {i M : Int} {sg : Str} {R : Result → Shared → Prop} {ns ms : List Int}
theorem fi_truthy {Q : Bool → Shared → Prop} (x : St B os F s σ) (f : FIs F l ns) (hz : ns.length ≤ 1000) (h : ∀ s', St B os F s' σ → Q (decide (ns.length ≠ 0)) s') : wpAny (model prg w) A (truthy (.ref l)) Q E s := by
  obtain ⟨vs, _, hl, hi⟩ := fi_is x f
  refine wpAny_truthy_list hl (by rw [List.size_toArray, hi.length]; omega) ?_
  have e : (!vs.toArray.isEmpty) = decide (ns.length ≠ 0) := by
    rw [← hi.length]; cases vs <;> simp
  rw [e]
  k_extra "uq"
  exact h _ x.toks
set_option maxHeartbeats 2000000 in
theorem dig2_c {c : Cell} {F0 : Facts} {n : Nat} {q : Addr} {ds : List Int} {t2 : Tok} {Q : Value → Shared → Prop} (U : Bs w mg mb B) (x : St B os F s (c :: (191, TabQ F0 128 4 "_digits2int.<locals>.inner") :: σ)) (le0 : Le F0 F) (r : Rm A 30) (hq : FIs F q ds) (hdl : ds.length ≤ 8) (hdb : ∀ d ∈ ds, 0 ≤ d ∧ d < 2 ^ n) (hn : 0 < n) (hn2 : n ≤ 2)
    (h : ∀ t F' s', Le F F' → St B os F' s' (c :: (191, TabQ F' 128 4 "_digits2int.<locals>.inner") :: σ) → Q (.int (d2i ds n) t) s') :
    wpAny (model prg w) A (call (.ref 196) [.ref q, .int n t2]) Q E s := by
  refine wpAny_call ?_
  refine' enterK fDig2 (binds := [("digits", .ref q), ("n", .int n t2)]) (lb := []) (nc := fun L => [(L + 3, Cel none), (L + 2, Cel (some (.int n t2))), (L + 1, Cel (some (.ref q)))]) U x r rfl rfl rfl ?k1 ?k2 ?k3 ?k4 ?_ rfl rfl rfl
  case k1 => intro n y hy; simp only [List.mem_cons, List.not_mem_nil, or_false] at hy; rcases hy with rfl | rfl; exact .inr ⟨rfl, rfl⟩; exact .inr ⟨rfl, rfl⟩
  case k2 => decide +kernel
  case k3 => exact fun L => List.forall_mem_nil _
  case k4 => exact fun L => rfl
  intro L s₁ x₁ r₁
  clear x
  dsimp only [List.cons_append, List.nil_append] at x₁
  k_extra "go"
  refine def_c (σ1 := [_, _, _, _, _]) U x₁ le0 cDig2 rfl (by decide) rfl rfl fun f F5 s5 le5 hf x5 => ?_
  dsimp only [List.cons_append, List.nil_append] at x5
  walk_at "storeName"
  clear x5 x₁
  rename St _ _ _ _ _ => xx
  obtain ⟨F6, hI, le6, x6⟩ := xx.flip.iceCel
  obtain ⟨F7, hN, le7, x7⟩ := x6.flip.iceCel
  obtain ⟨F8, hD, le8, x8⟩ := x7.flip.iceCel
  clear xx x6 x7
  replace hN := hN.le le8
  replace hI := (hI.le le7).le le8
  replace hf := ((hf.le le6).le le7).le le8
  replace hq := (((hq.le le5).le le6).le le7).le le8
  have key : ∀ (fu l r' : Nat) (u2 u3 : Tok) (A : Around) (σ : List Cell) (G : Facts) (s : Shared) (Q : Value → Shared → Prop) (E : Value → Shared → Prop), Le F8 G → St B os G s σ → Rm A (fu + 2) → l < r' → r' ≤ l + fu → r' ≤ ds.length →
      (∀ t F' s', Le G F' → St B os F' s' σ → Q (.int (d2iGo n ds fu l r') t) s') → wpAny (model prg w) A (call (.ref f) [.int l u2, .int r' u3]) Q E s := by
    clear x8 h
    intro fu
    induction fu with
    | zero => intros; omega
    | succ fu ih =>
      intro l r' u2 u3 A σ G s Q E leG x r hlr hrl hrd h
      refine wpAny_call ?_
      refine' enterN (binds := [("L", .int l u2), ("R", .int r' u3)]) (keys := ["L", "R"]) U x r (hf.le leG) (fun _ _ _ _ => rfl) rfl rfl (by decide) rfl ?_ rfl rfl rfl
      intro doc pm c' ctv L' s₁ x₁ r₁
      clear x
      replace hD := hD.le leG
      replace hN := hN.le leG
      replace hI := hI.le leG
      have hqG := hq.le leG
      k_extra "go"
      · rename (_ = _) => heq
        rename St _ _ _ _ _ => xx
        have hrec : d2iGo n ds (fu + 1) l r' = ds.getD (l : Int).toNat 0 := by rw [d2iGo, if_pos (by omega), Int.toNat_natCast]
        rw [hrec] at h
        k_extra "uq"
        exact h _ G _ (Le.refl _) (xx.drop .head).toks
      · rename (¬ _) => hne
        rename St _ _ _ _ _ => xx
        have em : ((l : Int) + r').fdiv (2 ^ Int.toNat 1) = (((l + r') / 2 : Nat) : Int) := by
          rw [show ((2 : Int) ^ Int.toNat 1) = 2 from rfl, Int.fdiv_eq_ediv_of_nonneg _ (by omega)]; omega
        generalize hmid : (l + r') / 2 = mid at em
        have hml : l < mid := by omega
        have hmr : mid < r' := by omega
        have es : ((mid : Int) - l) * n = (((mid - l) * n : Nat) : Int) := by
          rw [Int.natCast_mul, show ((mid - l : Nat) : Int) = (mid : Int) - l from by omega]
        have hsb : (mid - l) * n ≤ 200 := Nat.le_trans (Nat.mul_le_mul (show mid - l ≤ 100 by omega) hn2) (by omega)
        rw [em] at xx ⊢
        rw [es] at xx
        have hrec : d2iGo n ds (fu + 1) l r' = d2iGo n ds fu mid r' * 2 ^ ((mid - l) * n) + d2iGo n ds fu l mid := by
          rw [d2iGo, if_neg (by omega), hmid]
        rw [hrec] at h
        obtain ⟨v0, v1⟩ := d2i_bnd hdb fu mid r' hmr (by omega) hrd
        have hpw : (2 : Int) ^ (n * (r' - mid)) ≤ 2 ^ 16 := by
          have : (2 : Nat) ^ (n * (r' - mid)) ≤ 2 ^ 16 := Nat.pow_le_pow_right (by decide) (Nat.le_trans (Nat.mul_le_mul hn2 (show r' - mid ≤ 8 by omega)) (by decide))
          exact_mod_cast this
        have v2 : d2iGo n ds fu mid r' < 65536 := Int.lt_of_lt_of_le v1 hpw
        generalize hsh : (mid - l) * n = sh at *
        refine ih _ _ _ _ _ _ _ _ _ _ (by k_extra "le") xx r₁ hmr (by omega) hrd fun t6 F' s' le' x' => ?_
        clear xx
        k_extra "go"
        rename St _ _ _ _ _ => xx
        refine ih _ _ _ _ _ _ _ _ _ _ (by k_extra "le") xx.toks r₁ hml (by omega) (by omega) fun t7 F' s' le' x' => ?_
        clear xx
        k_extra "go"
        rename St _ _ _ _ _ => xx
        rw [Int.toNat_natCast]
        have xf := xx.drop .head
        first | exact h _ _ _ (by k_extra "le") xf | exact h _ _ _ (by k_extra "le") xf.toks
  have hzl : ds.length ≤ 1000 := by omega
  k_extra "go"
  rename St _ _ _ _ _ => xx
  refine fi_truthy (by k_extra "stk") (by k_extra "fis") hzl fun s9 x9 => ?_
  clear xx
  k_extra "go"
  · rename St _ _ _ _ _ => xx
    have hne : ds.length ≠ 0 := by first | assumption | simpa using (by assumption : decide (ds.length ≠ 0) = true)
    refine key 8 0 ds.length _ _ _ _ _ _ _ _ (by k_extra "le") xx (by k_extra "rm") (by omega) (by omega) (Nat.le_refl _) fun t6 F' s' le' x' => ?_
    clear xx
    k_extra "go"
    rename St _ _ _ _ _ => xx
    rw [d2i, if_neg hne] at h
    k_extra "uq"
    refine h _ _ _ ?leA ((xx.drop .head).imp (.tail .head) fun o ho => ho.le ?leqA)
    case leA => k_extra "le"
    case leqA => k_extra "le"
  · rename St _ _ _ _ _ => xx
    have hne : ¬ ds.length ≠ 0 := by first | assumption | simpa using (by assumption : decide (ds.length ≠ 0) = false)
    rw [d2i, if_pos (by omega)] at h
    k_extra "uq"
    refine h _ _ _ ?leB ((xx.drop .head).imp (.tail .head) fun o ho => ho.le ?leqB)
    case leB => k_extra "le"
    case leqB => k_extra "le"
end
end
section
section
variable {w : World} {mg mb : Str → Option Value} {B : Heap} {os : OsState} {F : Facts} {s : Shared} {σ σ' : List Cell} {A : Around} {k : Nat} {E : Value → Shared → Prop} {a d m md ll it l b c : Addr} {vs : Array Value} {v : Value} {i M : Int} {sg : Str} {R : Result → Shared → Prop} {ns ms : List Int}
theorem St.pull (l1 : List Cell) {p q : Cell} (x : St B os F s (p :: (l1 ++ q :: σ))) : St B os F s (p :: q :: (l1 ++ σ)) := x.perm (.cons _ List.perm_middle)
theorem St.unpull (l1 : List Cell) {p q : Cell} (x : St B os F s (p :: q :: (l1 ++ σ))) : St B os F s (p :: (l1 ++ q :: σ)) := x.perm (.cons _ List.perm_middle.symm)
/-- the block of a comprehension over a range -/
theorem comp_block {env : Env} {elt iter : Expr} {x : Str} {px : Pos} {ifs : List Expr} {scope : Scope} {cl : List (Str × Addr)} {pos : Pos} {RR : Value → Addr → Result → Shared → Prop} {x0 n0 st : Int}
    (y : St B os F s ((it, Is (rgO x0 n0 st)) :: σ)) (hcell : ∀ z ∈ scope.names, z.2 ≠ .cell) (hkind : scope.kind = .function)
    (h : ∀ C D s₄, St B os F s₄ ((C, Loc []) :: (D, Is { cls := .type "list", data := .seq #[] }) :: (it, Is (rgO x0 n0 st)) :: σ) → codeAny (model prg w) A (.compLoop (.ListComp elt [⟨.Name x px, iter, ifs, 0⟩] scope pos) 0 (.ref it) (.ref D) (compEnvC scope cl C env)) (RR (.ref D) C) s₄) :
    wpAny (model prg w) A (newList []) (fun acc s₃ => wpAny (model prg w) A (newFunctionEnv scope env.globals cl [] env.qual none .none (some env)) (fun cenv s₄ =>
      codeAny (model prg w) A (.compStart (.ListComp elt [⟨.Name x px, iter, ifs, 0⟩] scope pos) 0 (.ref it) acc { cenv with scope := relabel scope env }) (RR acc cenv.locals) s₄) E s₃) E s := by
  refine wpAny_newObj_type (wpAny_newFunctionEnv hcell (by intro y hy; simp at hy) (fun h₁ hns₁ hsb₁ => ?_) hkind)
  dsimp only at hns₁ hsb₁ ⊢
  have y1 := y.wd.push { cls := .type "list", data := .seq #[] }
  generalize hH2 : s.heap.push { cls := .type "list", dict := none, data := .seq ([] : List Value).toArray } = H2 at hns₁ hsb₁ ⊢
  replace y1 : Wd B F H2 ((s.heap.objs.size, Is { cls := .type "list", data := .seq #[] }) :: (it, Is (rgO x0 n0 st)) :: σ) := hH2 ▸ y1
  have y2 : Wd B F h₁ ((H2.objs.size, Loc []) :: (s.heap.objs.size, Is { cls := .type "list", data := .seq #[] }) :: (it, Is (rgO x0 n0 st)) :: σ) := by
    refine y1.new (Wd.size_none H2) (fun b o e => hsb₁.extBut b o (Nat.ne_of_lt (Heap.lt_size e)) (Heap.get?_push_of_some _ e)) ?_
    obtain ⟨o, es, ep, e1, e2, e3, e4⟩ := hns₁
    exact ⟨o, e1, _, ⟨es, ep, e2, e3, e4⟩, List.forall_mem_nil _⟩
  have y3 : St B os F { s with heap := h₁, toks := s.toks + ([] : List (Str × Value)).length } _ := y.with_ y2
  have z := h _ _ _ y3
  refine codeAny_compStart_list z ?_
  exact wpAny_pyIter_rangeiter (y3.wd.get (.tail _ (.tail _ (.head _)))) z
theorem comp_rg {env : Env} {elt iter : Expr} {x : Str} {px : Pos} {ifs : List Expr} {scope : Scope} {cl : List (Str × Addr)} {pos : Pos} {Q : Value → Shared → Prop}
    (hclos : closureFor scope env = pure cl) (hcell : ∀ z ∈ scope.names, z.2 ≠ .cell) (hkind : scope.kind = .function) (hnames : ∀ y ∈ scope.names, y.2 = .local → scope.names.lookup y.1 = some .local)
    (h : wpAny (model prg w) A (eval iter env) (fun xv s₁ => wpAny (model prg w) A (pyIter xv) (fun itv s₂ => ∃ it F x0 n0 st σ, itv = .ref it ∧ St B os F s₂ ((it, Is (rgO x0 n0 st)) :: σ) ∧
      ∀ C D s₄, St B os F s₄ ((C, Loc []) :: (D, Is { cls := .type "list", data := .seq #[] }) :: (it, Is (rgO x0 n0 st)) :: σ) → codeAny (model prg w) A (.compLoop (.ListComp elt [⟨.Name x px, iter, ifs, 0⟩] scope pos) 0 (.ref it) (.ref D) (compEnvC scope cl C env))
        (fun r s' => r = .ok .next ∧ ∃ F' l σ', St B os F' s' ((C, Loc l) :: σ') ∧ ∀ s'', St B os F' s'' σ' → Q (.ref D) s'') s₄) E s₁) E s)
    (hs : ∀ x, foldedSetIterable iter env x = pure x := by intro _; rfl) :
    wpAny (model prg w) A (eval (.ListComp elt [⟨.Name x px, iter, ifs, 0⟩] scope pos) env) Q E s := by
  rw [eval_ListComp]
  refine wpAny_comprehension_free (use := none) rfl hs hclos hkind hnames (wpAny_mono h (fun xv s₁ h₁ => wpAny_mono h₁ (fun it s₂ h₂ => ?_) fun _ _ e => e) fun _ _ e => e)
  obtain ⟨it, F, x0, n0, st, σ, rfl, y, h⟩ := h₂
  refine comp_block (RR := fun acc C => compPost (model prg w) A E none Q acc C) y hcell hkind fun C D s₄ y₄ => codeAny_mono (h C D s₄ y₄) fun r s' hr => ?_
  obtain ⟨rfl, F', l, σ', z, hz⟩ := hr
  obtain ⟨m, hn, _⟩ := z.wd.loc (.head _)
  exact ⟨m, hn, fun h' hs' => hz _ (z.with_ (z.wd.turn_drop .head ⟨_, .head _⟩ hs'.extBut))⟩
end
end
section
theorem i2d_len (a n : Nat) : (i2d a n).length = dnum a n := by
  unfold i2d dnum
  split
  · simp
  · rw [innerSet_length]; simp
theorem dnum_mono {b l n : Nat} (hbl : b < l) (hl : l < 64) (hn2 : n ≤ 2) : dnum b n ≤ dnum l n := by
  have h : ∀ a b : Fin 64, a.val < b.val → Builtin.Int.intBits ((a.val : Nat) : Int) ≤ Builtin.Int.intBits ((b.val : Nat) : Int) := by decide +kernel
  have := h ⟨b, by omega⟩ ⟨l, hl⟩ hbl
  unfold dnum
  exact Nat.div_le_div_right (by simp only at this; omega)
/-- the lower number's digits, filled up -/
noncomputable def lowD (b l n : Nat) : List Int := i2d b n ++ List.replicate (dnum l n - dnum b n) 0
/-- the places where the two numbers differ -/
noncomputable def diffs (up lo : List Int) (k : Nat) : List Nat := (List.range k).filter fun i => up.getD i 0 != lo.getD i 0
theorem diffs_len (up lo : List Int) (k : Nat) : (diffs up lo k).length ≤ k := by
  unfold diffs
  exact Nat.le_trans (List.length_filter_le _ _) (by simp)
theorem diffs_ne {up lo : List Int} {k : Nat} (h : up.getD k 0 ≠ lo.getD k 0) : diffs up lo (k + 1) = diffs up lo k ++ [k] := by
  unfold diffs
  rw [List.range_succ, List.filter_append, List.filter_cons_of_pos (by simpa using h)]; rfl
theorem diffs_eq {up lo : List Int} {k : Nat} (h : up.getD k 0 = lo.getD k 0) : diffs up lo (k + 1) = diffs up lo k := by
  unfold diffs
  rw [List.range_succ, List.filter_append, List.filter_cons_of_neg (by simpa using h)]; simp
theorem foldr_max {p : Nat} : ∀ {l : List Nat}, p ∈ l → (∀ a ∈ l, a ≤ p) → l.foldr max 0 = p := by
  have le : ∀ (l : List Nat), (∀ a ∈ l, a ≤ p) → l.foldr max 0 ≤ p := by
    intro l
    induction l with
    | nil => intro _; exact Nat.zero_le _
    | cons a r ih => intro h; exact Nat.max_le.mpr ⟨h a List.mem_cons_self, ih fun x hx => h x (List.mem_cons_of_mem _ hx)⟩
  have ge : ∀ (l : List Nat), p ∈ l → p ≤ l.foldr max 0 := by
    intro l
    induction l with
    | nil => intro h; cases h
    | cons a r ih =>
      intro h
      rcases List.mem_cons.mp h with rfl | h
      · exact Nat.le_max_left _ _
      · exact Nat.le_trans (ih h) (Nat.le_max_right _ _)
  exact fun {l} h1 h2 => Nat.le_antisymm (le l h2) (ge l h1)
/-- the digits, and the highest place where they differ, shortly -/
noncomputable def digS (a n : Nat) : List Int := (List.range (dnum a n)).map fun j => ((a / 2 ^ (n * j) % 2 ^ n : Nat) : Int)
theorem digS_all : ∀ (a : Fin 40) (n : Fin 3), 0 < n.val → i2d a.val n.val = digS a.val n.val := by decide +kernel
noncomputable def plS (w b l : Nat) : Nat → Nat
  | 0 => 0
  | p + 1 => if b / 2 ^ (w * (p + 1)) ≠ l / 2 ^ (w * (p + 1)) then p + 1 else plS w b l p
/-- how far the two numbers are apart at that place -/
noncomputable def apart (b l n p : Nat) : Nat := l / 2 ^ (n * p) - b / 2 ^ (n * p)
structure Ends (b l n p : Nat) (up lo : List Int) : Prop where
  pl : (diffs up lo up.length).foldr max 0 = p
  ne : 0 < (diffs up lo up.length).length
  lt : p < up.length
  np : n * p + n ≤ 7
  dig : up.getD p 0 = lo.getD p 0 + (apart b l n p : Nat)
  lo0 : 0 ≤ lo.getD p 0
  up4 : up.getD p 0 < 4
  k0 : 0 < apart b l n p
  k3 : apart b l n p ≤ 3
  top : l < 2 ^ (n * p + n) * (b / 2 ^ (n * p + n) + apart b l n p)
  fro : 2 ^ (n * p) * (b / 2 ^ (n * p) + apart b l n p) = l / 2 ^ (n * p) * 2 ^ (n * p)
  end_ : d2i (List.replicate p 0 ++ up.drop p) n = ((l / 2 ^ (n * p) * 2 ^ (n * p) : Nat) : Int)
  d0 : up.getD 0 0 = ((l % 2 ^ n : Nat) : Int)
  all : up.all (fun d => decide (0 ≤ d ∧ d < 2 ^ n)) = true
noncomputable def factsB (b l n p : Nat) (up lo : List Int) : Bool :=
  (diffs up lo up.length).foldr max 0 == p && decide (0 < (diffs up lo up.length).length) && decide (p < up.length) && decide (n * p + n ≤ 7) &&
  decide (up.getD p 0 = lo.getD p 0 + (apart b l n p : Nat) ∧ 0 ≤ lo.getD p 0 ∧ up.getD p 0 < 4 ∧ b / 2 ^ (n * p) < l / 2 ^ (n * p) ∧ apart b l n p ≤ 3 ∧ l < 2 ^ (n * p + n) * (b / 2 ^ (n * p + n) + apart b l n p)
   ∧ d2i (List.replicate p 0 ++ up.drop p) n = ((l / 2 ^ (n * p) * 2 ^ (n * p) : Nat) : Int) ∧ up.getD 0 0 = ((l % 2 ^ n : Nat) : Int)) && up.all (fun d => decide (0 ≤ d ∧ d < 2 ^ n))
theorem facts_all : ∀ (b l : Fin 40) (n : Fin 3), b.val < l.val → 0 < n.val → factsB b.val l.val n.val (plS n.val b.val l.val 5) (digS l.val n.val) (digS b.val n.val ++ List.replicate (dnum l.val n.val - dnum b.val n.val) 0) = true := by decide +kernel
theorem ends {b l n : Nat} (hbl : b < l) (hl : l < 40) (hn : 0 < n) (hn2 : n ≤ 2) : Ends b l n (plS n b l 5) (i2d l n) (lowD b l n) := by
  have h := facts_all ⟨b, by omega⟩ ⟨l, hl⟩ ⟨n, by omega⟩ hbl hn
  have e1 := digS_all ⟨b, by omega⟩ ⟨n, by omega⟩ hn
  have e2 := digS_all ⟨l, hl⟩ ⟨n, by omega⟩ hn
  dsimp only at h e1 e2
  unfold lowD
  rw [← e1, ← e2] at h
  unfold factsB at h
  simp only [Bool.and_eq_true, decide_eq_true_eq, beq_iff_eq] at h
  obtain ⟨⟨⟨⟨⟨k1, k2⟩, k3⟩, k4⟩, k5, k6, k7, k8, k9, k10, k11, k12⟩, k13⟩ := h
  refine ⟨k1, k2, k3, k4, k5, k6, k7, by unfold apart; omega, k9, k10, ?_, k11, k12, k13⟩
  unfold apart
  rw [show b / 2 ^ (n * plS n b l 5) + (l / 2 ^ (n * plS n b l 5) - b / 2 ^ (n * plS n b l 5)) = l / 2 ^ (n * plS n b l 5) from by omega, Nat.mul_comm]
/-- what _law_end answers -/
noncomputable def endS (b l w le : Nat) : Nat :=
  if le ≤ plS w b l 5 then l / 2 ^ (w * plS w b l 5) * 2 ^ (w * plS w b l 5) else if l % 2 ^ w + 1 = 2 ^ w ∧ b + 1 < l then l - 1 else l
/-- what Whitespace reads from the lead -/
noncomputable def leadRun (b k : Nat) : List Int × Nat × Nat × Nat := wsRun (List.replicate b 32 ++ (List.replicate k 9 ++ [120, 32, 9])) [] 0 0 0
noncomputable def leadB (b k : Nat) : Bool := let r := leadRun b k
  decide (r.1.length ≤ 41) && r.1.all (fun n => decide (0 ≤ n ∧ n ≤ 200)) && r.2.1 == 0 && r.2.2.2 == k && (List.range 8).all (fun q => indentOf (2 ^ q) r.1 r.2.1 r.2.2.2 == ((2 ^ q * (b / 2 ^ q + k) : Nat) : Int))
theorem lead_all : ∀ (b : Fin 40) (k : Fin 4), 0 < k.val → leadB b.val k.val = true := by decide +kernel
structure Lead (b k : Nat) (r : List Int × Nat × Nat × Nat) : Prop where
  len : r.1.length ≤ 41
  all : ∀ n ∈ r.1, 0 ≤ n ∧ n ≤ 200
  z : r.2.1 = 0
  nt : r.2.2.2 = k
  ind : ∀ q, q < 8 → indentOf (2 ^ q) r.1 r.2.1 r.2.2.2 = ((2 ^ q * (b / 2 ^ q + k) : Nat) : Int)
theorem lead_ {b k : Nat} (hb : b < 40) (h0 : 0 < k) (h3 : k ≤ 3) : Lead b k (leadRun b k) := by
  have h := lead_all ⟨b, hb⟩ ⟨k, by omega⟩ h0
  unfold leadB at h
  simp only [Bool.and_eq_true, decide_eq_true_eq, beq_iff_eq, List.all_eq_true] at h
  obtain ⟨⟨⟨⟨k1, k2⟩, k3⟩, k4⟩, k5⟩ := h
  exact ⟨k1, k2, k3, k4, fun q hq => k5 q (List.mem_range.mpr hq)⟩
theorem lead_cps {b : Nat} {k : Int} : (Txt.mul (Str.ofString " ") (b : Int) ++ Txt.mul (Str.ofString "\t") k ++ Str.ofString "x \t").cps.toList = List.replicate b 32 ++ (List.replicate k.toNat 9 ++ [120, 32, 9]) := by
  have e1 : Str.ofString " " = ⟨#[32]⟩ := by decide
  have e2 : Str.ofString "\t" = ⟨#[9]⟩ := by decide
  have e3 : Str.ofString "x \t" = ⟨#[120, 32, 9]⟩ := by decide
  rw [e1, e2, e3]
  show ((Txt.mul ⟨#[32]⟩ (b : Int)).cps ++ (Txt.mul ⟨#[9]⟩ k).cps ++ #[120, 32, 9]).toList = _
  rw [Array.toList_append, Array.toList_append, mul_one_list, mul_one_list, Int.toNat_natCast, List.append_assoc]
end
section
/-- the plain law: words, rows, ends -/
noncomputable def rk (w n : Nat) : Nat := rankOf (2 ^ w) 6 n
noncomputable def wsB (x : Bool) : Str := if x then " \t" else "\t "
noncomputable def letter (r : Nat) : Str := ⟨#[102, 97 + r]⟩
noncomputable def itN (w : Nat) (a o : Bool) (j : Nat) : Str × Str := (wsB (if 0 < rk w (j + 1) then o else a), letter (rk w (j + 1)))
/-- the word at j, the one at bh with fs ahead of it -/
noncomputable def itB (w : Nat) (a o : Bool) (bh : Nat) (fs : Str) (j : Nat) : Str × Str := if j = bh then (fs, letter (rk w (j + 1))) else itN w a o j
noncomputable def itsOf (it : Nat → Str × Str) (b c : Nat) : List (Str × Str) := (List.range' b (c - b)).map it
noncomputable def sgL (le s : Nat) : List Nat := [102, 101, 100, 99, 98].take (6 - le) ++ s :: [102, 101, 100, 99, 98].drop (6 - le)
noncomputable def hitN (w : Nat) (act : Bool) (c n : Nat) : Bool := if c < 64 then act && (rk w (n + 1) == 0) else rk w n + 97 == c
noncomputable def lastN (h : Nat → Bool) : Nat → Option Nat
  | 0 => none
  | k + 1 => if h (k + 1) = true then some (k + 1) else lastN h k
noncomputable def splitN (h : Nat → Nat → Bool) (k : Nat) : List Nat → Option Nat
  | [] => none
  | c :: r => match lastN (h c) k with
    | some k => some k
    | none => splitN h k r
noncomputable def rowGo (w b d le : Nat) (act : Bool) : Option Nat := splitN (fun c k => hitN w act c (b + k)) d (sgL le 32)
noncomputable def rowFin (w b d le : Nat) (act : Bool) : Bool :=
  (d == 0 || decide (b < endS b (b + d) w (if act then le else 0) ∧ endS b (b + d) w (if act then le else 0) ≤ b + d) &&
    (rowGo w b d le act == some (endS b (b + d) w (if act then le else 0) - b) ||
      (rowGo w b d le act == none && decide (endS b (b + d) w (if act then le else 0) = b + d) && (if act then d == 1 else decide (b + d < b / 2 ^ w * 2 ^ w + 2 ^ w))))) &&
  (act || decide (b / 2 ^ w * 2 ^ w + 2 ^ w ≤ b + d) || rowGo w b d le act == none)
theorem rowFin_all : ∀ (b : Fin 38) (d : Fin 11) (w : Fin 3) (le : Fin 4) (act : Bool), 0 < w.val → 0 < le.val → b.val + d.val < 39 → rowFin w.val b.val d.val le.val act = true := by decide +kernel
theorem rk_le {w n : Nat} (hw : 0 < w) (hw2 : w ≤ 2) (hn : 0 < n) (hn2 : n < 64) : rk w n ≤ 5 := by
  have h : ∀ (n : Fin 64) (w : Fin 3), 0 < n.val → 0 < w.val → rk w.val n.val ≤ 5 := by decide +kernel
  exact h ⟨n, hn2⟩ ⟨w, by omega⟩ hn hw
theorem htFin : ∀ (a o p : Bool) (r : Fin 6), ∀ c ∈ [if o then 9 else 32, 98, 99, 100, 101, 102],
    ((Txt.isspace ⟨#[c]⟩ && ((wsB (if p then o else a)).length != 0 && Txt.item (wsB (if p then o else a)) 0 == ⟨#[c]⟩)) || ((letter r.val).length != 0 && Txt.item (letter r.val) (-1) == ⟨#[c]⟩)) =
      (if c < 64 then (a != o) && !p else r.val + 97 == c) := by decide +kernel
end
section
section
variable {it : Nat → Str × Str} {b c e k w bh le : Nat} {a o : Bool} {fs : Str}
theorem itsOf_length : (itsOf it b c).length = c - b := by simp [itsOf]
theorem itsOf_get? : (itsOf it b c)[k]? = if k < c - b then some (it (b + k)) else none := by
  unfold itsOf
  rw [List.getElem?_map]
  by_cases h : k < c - b
  · rw [if_pos h, List.getElem?_eq_getElem (by simpa using h)]; simp
  · rw [if_neg h, List.getElem?_eq_none (by simp; omega)]; rfl
theorem itsOf_getD {d : Str × Str} (hk : b + k < c) : (itsOf it b c).getD k d = it (b + k) := by
  rw [List.getD_eq_getElem?_getD, itsOf_get?, if_pos (by omega)]; rfl
theorem itsOf_snoc (h : b ≤ c) : itsOf it b (c + 1) = itsOf it b c ++ [it c] := by
  unfold itsOf
  rw [show c + 1 - b = (c - b) + 1 from by omega, List.range'_1_concat, List.map_append]
  simp; congr 1; omega
theorem itsOf_cons (h : b < c) : itsOf it b c = it b :: itsOf it (b + 1) c := by
  unfold itsOf
  rw [show c - b = (c - (b + 1)) + 1 from by omega, List.range'_succ]; rfl
theorem itsOf_nil (h : c ≤ b) : itsOf it b c = [] := by
  unfold itsOf; rw [show c - b = 0 from by omega]; rfl
theorem itsOf_take (h2 : e ≤ c) : (itsOf it b c).take (e - b) = itsOf it b e := by
  apply List.ext_getElem?
  intro j
  rw [List.getElem?_take, itsOf_get?, itsOf_get?]
  by_cases hj : j < e - b
  · rw [if_pos hj, if_pos hj, if_pos (by omega)]
  · rw [if_neg hj, if_neg hj]
theorem itsOf_drop (h1 : b ≤ e) : (itsOf it b c).drop (e - b) = itsOf it e c := by
  apply List.ext_getElem?
  intro j
  rw [List.getElem?_drop, itsOf_get?, itsOf_get?]
  by_cases hj : j < c - e
  · rw [if_pos hj, if_pos (by omega)]; congr 2; omega
  · rw [if_neg hj, if_neg (by omega)]
theorem itB_ne {j : Nat} (h : j ≠ bh) : itB w a o bh fs j = itN w a o j := if_neg h
theorem itB_eq : itB w a o bh fs bh = (fs, letter (rk w (bh + 1))) := if_pos rfl
theorem itB_2 {j : Nat} : (itB w a o bh fs j).2 = letter (rk w (j + 1)) := by unfold itB; split <;> rfl
theorem ht_its {ch : Nat} (hw : 0 < w) (hw2 : w ≤ 2) (hb : bh ≤ b) (hk : 0 < k) (hkc : b + k < c) (hc : c < 60) (hch : ch ∈ [if o then 9 else 32, 98, 99, 100, 101, 102]) :
    ht (itsOf (itB w a o bh fs) b c) ch k = hitN w (a != o) ch (b + k) := by
  unfold ht
  rw [itsOf_getD hkc, itsOf_getD (show b + (k - 1) < c by omega), itB_2, itB_ne (show b + k ≠ bh by omega), show b + (k - 1) + 1 = b + k from by omega]
  have hr : rk w (b + k) ≤ 5 := rk_le hw hw2 (by omega) (by omega)
  have h := htFin a o (decide (0 < rk w (b + k + 1))) ⟨rk w (b + k), by omega⟩ ch hch
  simp only [decide_eq_true_eq] at h
  unfold itN hitN
  dsimp only at h ⊢
  rw [h]
  congr 2
  cases z : rk w (b + k + 1) <;> simp
theorem lastHit_its {ch : Nat} (hw : 0 < w) (hw2 : w ≤ 2) (hb : bh ≤ b) (hc : c < 60) (hch : ch ∈ [if o then 9 else 32, 98, 99, 100, 101, 102]) :
    ∀ k, b + k < c ∨ k = 0 → lastHit (itsOf (itB w a o bh fs) b c) ch k = lastN (fun k => hitN w (a != o) ch (b + k)) k
  | 0, _ => rfl
  | k + 1, h => by
    unfold lastHit lastN
    rw [ht_its hw hw2 hb (by omega) (by omega) hc hch, lastHit_its hw hw2 hb hc hch k (by omega)]
theorem splitAt_its (hw : 0 < w) (hw2 : w ≤ 2) (hb : bh ≤ b) (hbc : b < c) (hc : c < 60) :
    ∀ sg : List Nat, (∀ ch ∈ sg, ch ∈ [if o then 9 else 32, 98, 99, 100, 101, 102]) → splitAt (itsOf (itB w a o bh fs) b c) sg = splitN (fun ch k => hitN w (a != o) ch (b + k)) (c - b - 1) sg
  | [], _ => rfl
  | ch :: r, h => by
    unfold splitAt splitN
    rw [itsOf_length, lastHit_its hw hw2 hb hc (h ch List.mem_cons_self) _ (by omega), splitAt_its hw hw2 hb hbc hc r fun x hx => h x (List.mem_cons_of_mem _ hx)]
    try (cases lastN (fun k => hitN w (a != o) ch (b + k)) (c - b - 1) <;> rfl)
theorem splitN_s {h : Nat → Nat → Bool} {k s : Nat} (hs : h s = h 32) (h1 : 0 < le) (h3 : le ≤ 3) : splitN h k (sgL le s) = splitN h k (sgL le 32) := by
  have : le = 1 ∨ le = 2 ∨ le = 3 := by omega
  rcases this with rfl | rfl | rfl <;> simp [sgL, splitN, hs]
theorem split_row (hw : 0 < w) (hw2 : w ≤ 2) (h1 : 0 < le) (h3 : le ≤ 3) (hb : bh ≤ b) (hbc : b < c) (hc : c < 60) :
    splitAt (itsOf (itB w a o bh fs) b c) (sgL le (if o then 9 else 32)) = rowGo w b (c - b - 1) le (a != o) := by
  rw [splitAt_its hw hw2 hb hbc hc]
  · unfold rowGo
    refine splitN_s ?_ h1 h3
    funext k
    unfold hitN
    cases o <;> simp
  · intro ch hch
    have : le = 1 ∨ le = 2 ∨ le = 3 := by omega
    rcases this with rfl | rfl | rfl <;> (simp [sgL] at hch; simp; omega)
theorem letter_len {r : Nat} : (letter r).length = 2 := rfl
theorem wsB_len {x : Bool} : (wsB x).length = 2 := by cases x <;> decide
theorem tot_cons {p : Str × Str} {l : List (Str × Str)} : tot (p :: l) = p.1.length + p.2.length + tot l := by simp [tot]
theorem tot_its (hb : bh < b) : ∀ n, tot (itsOf (itB w a o bh fs) b (b + n)) = 4 * n
  | 0 => by rw [itsOf_nil (by omega)]; rfl
  | n + 1 => by
    have ih := tot_its (hb) n
    rw [show b + (n + 1) = b + n + 1 from by omega, itsOf_snoc (by omega)]
    unfold tot at ih ⊢
    rw [List.map_append, List.sum_append, ih, itB_ne (by omega)]
    simp [itN, wsB_len, letter_len]; omega
theorem tot_its' (hb : bh < b) (hc : b ≤ c) : tot (itsOf (itB w a o bh fs) b c) = 4 * (c - b) := by
  have := tot_its (w := w) (a := a) (o := o) (fs := fs) hb (c - b)
  rwa [show b + (c - b) = c from by omega] at this
theorem tot_first (hc : bh < c) : tot (itsOf (itB w a o bh fs) bh c) = 4 * (c - bh) + fs.length - 2 := by
  rw [itsOf_cons hc, tot_cons, tot_its' (by omega) (by omega), itB_eq]
  simp [letter_len]; omega
end
noncomputable abbrev S3 := Int × List (Str × Str) × List Str
noncomputable def stp (M : Int) (sg : List Nat) (st : S3) (p : Str × Str) : S3 := stepC M sg st.1 st.2.1 st.2.2 p
section
variable {w bh le room last : Nat} {M : Nat} {a o : Bool} {fin : S3}
/-- what holds at the head of the law's loop: b words are laid, the row holds those up to c -/
structure Inv (w : Nat) (a o : Bool) (bh last M le : Nat) (fin : S3) (b l h : Nat) (rows : List Str) (fs : Str) : Prop where
  hb : bh ≤ b
  bl : b < l
  bl2 : h = 0 → b + 2 ≤ l
  lb : l ≤ b + 9
  run : ∃ c, b ≤ c ∧ c ≤ l ∧ c ≤ last ∧ (fs = Str.ofString "" ∨ bh < c) ∧ (itsOf (itB w a o bh fs) c last).foldl (stp M (sgL le (if o then 9 else 32))) ((h : Int), itsOf (itB w a o bh fs) b c, rows) = fin ∧
    ∀ c', c < c' → ((M : Int) < h + tot (itsOf (itB w a o bh fs) b c') ↔ l < c')
/-- pushes that do not cut -/
theorem run_to {b l1 h c : Nat} {rows : List Str} {fs : Str} (l' : Nat) (hcl : c ≤ l') (hl' : l' ≤ last) (hbc : b ≤ c)
    (hno : ∀ c', c < c' → c' ≤ l' → stepC M (sgL le (if o then 9 else 32)) h (itsOf (itB w a o bh fs) b (c' - 1)) rows (itB w a o bh fs (c' - 1)) = ((h : Int), itsOf (itB w a o bh fs) b c', rows)) :
    (itsOf (itB w a o bh fs) c last).foldl (stp M (sgL le (if o then 9 else 32))) ((h : Int), itsOf (itB w a o bh fs) b c, rows) =
    (itsOf (itB w a o bh fs) l' last).foldl (stp M (sgL le (if o then 9 else 32))) ((h : Int), itsOf (itB w a o bh fs) b l', rows) := by
  induction l' with
  | zero => have : c = 0 := by omega
            subst this; rfl
  | succ l' ih =>
    by_cases hc : c = l' + 1
    · rw [hc]
    · rw [ih (by omega) (by omega) fun c' h1 h2 => hno c' h1 (by omega), itsOf_cons (show l' < last by omega), List.foldl_cons]
      congr 1
      have := hno (l' + 1) (by omega) (Nat.le_refl _)
      rw [show l' + 1 - 1 = l' from rfl] at this
      exact this
theorem step_inv {b l h : Nat} {rows : List Str} {fs : Str} (hw : 0 < w) (hw2 : w ≤ 2) (h1 : 0 < le) (h3 : le ≤ 3) (hr2 : 2 ≤ room) (hr : room ≤ 8) (hM1 : 4 * room ≤ M) (hM2 : M < 4 * room + 4) (hlast : last < 38) (hbl : b < last) (I : Inv w a o bh last M le fin b l h rows fs)
    {l1 e : Nat} (hl1 : l1 = if h = 0 ∧ a = o then max l (b / 2 ^ w * 2 ^ w + 2 ^ w) else l) (he : e = if l1 < last then endS b l1 w (if a = o then 0 else le) else last) :
    b < e ∧ e ≤ last ∧ (e = last → fin.2.2 ++ [accText fin.2.1] = rows ++ [accText (itsOf (itB w a o bh fs) b e)]) ∧ (e < last → Inv w a o bh last M le fin e (max (e + room) (l1 + 1)) 0 (rows ++ [accText (itsOf (itB w a o bh fs) b e)]) fs) := by
  obtain ⟨hb, bl, bl2, lb, c, hbc, hcl, hcL, hfs, hrun, hcap⟩ := I
  have hpow : 2 ^ w ≤ 4 := by
    have : 2 ^ w ≤ 2 ^ 2 := Nat.pow_le_pow_right (by decide) hw2
    omega
  have hdiv : b / 2 ^ w * 2 ^ w ≤ b := Nat.div_mul_le_self _ _
  have hll1 : l ≤ l1 := by rw [hl1]; split <;> omega
  have hl1b : l1 ≤ b + 9 := by rw [hl1]; split <;> omega
  have hno : ∀ c', c < c' → c' ≤ l1 → c' ≤ last → stepC M (sgL le (if o then 9 else 32)) h (itsOf (itB w a o bh fs) b (c' - 1)) rows (itB w a o bh fs (c' - 1)) = ((h : Int), itsOf (itB w a o bh fs) b c', rows) := by
    intro c' g1 g2 g3
    have hs : itsOf (itB w a o bh fs) b (c' - 1) ++ [itB w a o bh fs (c' - 1)] = itsOf (itB w a o bh fs) b c' := by
      rw [← itsOf_snoc (by omega), show c' - 1 + 1 = c' from by omega]
    unfold stepC
    rw [hs]
    by_cases g4 : c' ≤ l
    · rw [if_neg (by rw [hcap c' g1]; omega)]
    · rw [if_pos (by rw [hcap c' g1]; omega)]
      have g5 : h = 0 ∧ a = o := by
        rw [hl1] at g2
        split at g2
        · assumption
        · omega
      rw [if_pos g5] at hl1
      rw [split_row hw hw2 h1 h3 hb (by omega) (by omega)]
      have hf := rowFin_all ⟨b, by omega⟩ ⟨c' - b - 1, by omega⟩ ⟨w, by omega⟩ ⟨le, by omega⟩ (a != o) hw h1 (by show b + (c' - b - 1) < 39; omega)
      unfold rowFin at hf
      rw [Bool.and_eq_true] at hf
      have hf2 := hf.2
      dsimp only at hf2
      have ha : (a != o) = false := by rw [g5.2]; simp
      rw [ha] at hf2 ⊢
      have hd : ¬ b / 2 ^ w * 2 ^ w + 2 ^ w ≤ b + (c' - b - 1) := by omega
      rw [decide_eq_false hd] at hf2
      simp only [Bool.false_or, beq_iff_eq] at hf2
      rw [hf2]
      dsimp only
      rw [if_neg (by omega)]
  by_cases hlast1 : l1 < last
  · rw [if_pos hlast1] at he
    have hrt := run_to (M := M) (le := le) (last := last) (rows := rows) (h := h) (w := w) (a := a) (o := o) (bh := bh) (fs := fs) (l1 := l1) l1 (show c ≤ l1 by omega) (by omega) hbc fun c' g1 g2 => hno c' g1 g2 (by omega)
    rw [hrt, itsOf_cons hlast1, List.foldl_cons] at hrun
    have hs : itsOf (itB w a o bh fs) b l1 ++ [itB w a o bh fs l1] = itsOf (itB w a o bh fs) b (l1 + 1) := (itsOf_snoc (by omega)).symm
    have hsp := split_row (a := a) (o := o) (fs := fs) (c := l1 + 1) hw hw2 h1 h3 hb (by omega) (by omega)
    have hf := rowFin_all ⟨b, by omega⟩ ⟨l1 - b, by omega⟩ ⟨w, by omega⟩ ⟨le, by omega⟩ (a != o) hw h1 (by show b + (l1 - b) < 39; omega)
    unfold rowFin at hf
    rw [Bool.and_eq_true] at hf
    have hf1 := hf.1
    dsimp only at hf1
    have hd0 : ((l1 - b) == 0) = false := by simp; omega
    rw [hd0, Bool.false_or, Bool.and_eq_true] at hf1
    obtain ⟨k1, k2⟩ := hf1
    have k1 := of_decide_eq_true k1
    have hle : (if (a != o) = true then le else 0) = (if a = o then 0 else le) := by cases a <;> cases o <;> rfl
    rw [show b + (l1 - b) = l1 from by omega, hle] at k1 k2
    rw [← he] at k1 k2
    rw [show l1 + 1 - b - 1 = l1 - b from by omega] at hsp
    refine ⟨k1.1, by omega, fun q => by omega, fun _ => ?_⟩
    have hover : (M : Int) < h + tot (itsOf (itB w a o bh fs) b (l1 + 1)) := (hcap (l1 + 1) (by omega)).mpr (by omega)
    have key : stp M (sgL le (if o then 9 else 32)) ((h : Int), itsOf (itB w a o bh fs) b l1, rows) (itB w a o bh fs l1) = (((0 : Nat) : Int), itsOf (itB w a o bh fs) e (l1 + 1), rows ++ [accText (itsOf (itB w a o bh fs) b e)]) := by
      unfold stp stepC
      dsimp only
      rw [hs, if_pos hover, hsp]
      rw [Bool.or_eq_true] at k2
      rcases k2 with k2 | k2
      · rw [beq_iff_eq] at k2
        rw [k2]
        dsimp only
        rw [itsOf_drop (by omega), itsOf_take (by omega)]; rfl
      · rw [Bool.and_eq_true, Bool.and_eq_true, beq_iff_eq] at k2
        obtain ⟨⟨k3, k4⟩, k5⟩ := k2
        have k4 := of_decide_eq_true k4
        rw [k3]
        dsimp only
        have hh : 0 < h := by
          rcases Nat.eq_zero_or_pos h with z | z
          · exfalso
            have := bl2 z
            by_cases ha : a = o
            · rw [if_pos ⟨z, ha⟩] at hl1
              rw [if_neg (by rw [ha]; simp)] at k5
              have k5 := of_decide_eq_true k5
              omega
            · rw [if_pos (by simpa using ha)] at k5
              have := eq_of_beq k5
              omega
          · exact z
        rw [if_pos (by omega)]
        have hne : l1 ≠ bh := by omega
        rw [itB_ne hne, k4, show l1 + 1 = l1 + 1 from rfl, itsOf_cons (show l1 < l1 + 1 by omega), itsOf_nil (Nat.le_refl _), itB_ne hne]
        have : ¬ (itN w a o l1).1.length = 0 := by unfold itN; rw [wsB_len]; omega
        rw [if_neg this]; rfl
    rw [key] at hrun
    refine ⟨by omega, by omega, fun _ => by omega, by omega, l1 + 1, by omega, by omega, by omega, .inr (by omega), hrun, fun c' g1 => ?_⟩
    rw [tot_its' (by omega) (by omega)]
    omega
  · rw [if_neg hlast1] at he
    subst he
    have hrt := run_to (M := M) (le := le) (last := e) (rows := rows) (h := h) (w := w) (a := a) (o := o) (bh := bh) (fs := fs) (l1 := l1) e hcL (Nat.le_refl _) hbc fun c' g1 g2 => hno c' g1 (by omega) g2
    rw [hrt, itsOf_nil (Nat.le_refl _), List.foldl_nil] at hrun
    refine ⟨hbl, Nat.le_refl _, fun _ => ?_, fun q => absurd q (Nat.lt_irrefl _)⟩
    rw [← hrun]
end
end
section
/-- the items that come up -/
noncomputable def fsOf : Fin 4 → Str
  | 0 => ""
  | 1 => " "
  | 2 => wsB false
  | 3 => wsB true
noncomputable def GoodI (p : Str × Str) : Prop := ∃ (r : Fin 6) (k : Fin 4), p = (fsOf k, letter r.val)
theorem good_len {p : Str × Str} (h : GoodI p) : p.1.length + p.2.length ≤ 4 := by
  obtain ⟨r, k, rfl⟩ := h
  have : ∀ (r : Fin 6) (k : Fin 4), (fsOf k).length + (letter r.val).length ≤ 4 := by decide +kernel
  exact this r k
theorem good_ne {p : Str × Str} (h : GoodI p) : p.2 ≠ Str.ofString "" := by
  obtain ⟨r, k, rfl⟩ := h
  have : ∀ (r : Fin 6), letter r.val ≠ Str.ofString "" := by decide +kernel
  exact this r
theorem good_lay {p : Str × Str} (h : GoodI p) : Lay2 p := by
  obtain ⟨r, k, rfl⟩ := h
  have : ∀ (r : Fin 6) (k : Fin 4), (PyData.tuple [.str (fsOf k), .str (letter r.val)]).layable0 = true := by decide +kernel
  exact this r k
theorem good_f {p : Str × Str} (h : GoodI p) : 102 ∈ (itx p).cps.toList := by
  obtain ⟨r, k, rfl⟩ := h
  have : ∀ (r : Fin 6) (k : Fin 4), 102 ∈ (itx (fsOf k, letter r.val)).cps.toList := by decide +kernel
  exact this r k
theorem good_itx {p : Str × Str} (h : GoodI p) : (itx p).length ≤ 4 := by
  obtain ⟨r, k, rfl⟩ := h
  have : ∀ (r : Fin 6) (k : Fin 4), (itx (fsOf k, letter r.val)).length ≤ 4 := by decide +kernel
  exact this r k
theorem good_sp {p : Str × Str} (h : GoodI p) : GoodI (if p.1.length = 0 then " " else p.1, p.2) := by
  obtain ⟨r, k, rfl⟩ := h
  dsimp only
  split
  · exact ⟨r, 1, rfl⟩
  · exact ⟨r, k, rfl⟩
theorem good_itN {w j : Nat} {a o : Bool} (hw : 0 < w) (hw2 : w ≤ 2) (hj : j < 60) : GoodI (itN w a o j) := by
  have hr := rk_le (n := j + 1) hw hw2 (by omega) (by omega)
  refine ⟨⟨rk w (j + 1), by omega⟩, if (if 0 < rk w (j + 1) then o else a) = true then 3 else 2, ?_⟩
  unfold itN
  cases (if 0 < rk w (j + 1) then o else a) <;> rfl
theorem good_itB {w j bh : Nat} {a o : Bool} {fs : Str} (hw : 0 < w) (hw2 : w ≤ 2) (hj : j < 60) (hfs : fs = Str.ofString "" ∨ fs = Str.ofString " ") : GoodI (itB w a o bh fs j) := by
  unfold itB
  split
  · have hr := rk_le (n := j + 1) hw hw2 (by omega) (by omega)
    rcases hfs with rfl | rfl
    · exact ⟨⟨rk w (j + 1), by omega⟩, 0, rfl⟩
    · exact ⟨⟨rk w (j + 1), by omega⟩, 1, rfl⟩
  · exact good_itN hw hw2 hj
theorem lastHit_bnd {its : List (Str × Str)} {c k : Nat} : ∀ n, lastHit its c n = some k → 0 < k ∧ k ≤ n
  | 0, h => by simp [lastHit] at h
  | n + 1, h => by
    unfold lastHit at h
    split at h
    · cases h; omega
    · have := lastHit_bnd n h; omega
theorem splitAt_bnd {its : List (Str × Str)} {k : Nat} : ∀ sg : List Nat, splitAt its sg = some k → 0 < k ∧ k ≤ its.length - 1
  | [], h => by simp [splitAt] at h
  | c :: r, h => by
    unfold splitAt at h
    split at h
    · rename_i k' e
      cases h
      exact lastHit_bnd _ e
    · exact splitAt_bnd r h
theorem mem_join {c : Nat} : ∀ {l : List Str} {x : Str}, x ∈ l → c ∈ x.cps.toList → c ∈ (Str.join (Str.ofString "") l).cps.toList
  | [], _, h, _ => by cases h
  | [y], x, h, hc => by
    rw [List.mem_singleton] at h; subst h; exact hc
  | y :: z :: r, x, h, hc => by
    show c ∈ (y.cps ++ (Str.ofString "").cps ++ (Str.join (Str.ofString "") (z :: r)).cps).toList
    rw [Array.toList_append, Array.toList_append]
    rcases List.mem_cons.mp h with rfl | h
    · exact List.mem_append_left _ (List.mem_append_left _ hc)
    · exact List.mem_append_right _ (mem_join h hc)
theorem acc_nospace {its : List (Str × Str)} (hne : its ≠ []) (hg : ∀ p ∈ its, GoodI p) : Txt.isspace (accText its) = false := by
  obtain ⟨p, hp⟩ := List.exists_mem_of_ne_nil _ hne
  have hm : 102 ∈ (accText its).cps.toList := by
    show 102 ∈ (Builtin.Str.glued (Str.ofString "") (its.map itx)).cps.toList
    rw [StrLaws.glued_eq_join]
    exact mem_join (List.mem_map_of_mem hp) (good_f (hg p hp))
  unfold Txt.isspace
  rw [← Array.all_toList, Bool.and_eq_false_iff]
  right
  rw [List.all_eq_false]
  exact ⟨102, hm, by decide +kernel⟩
theorem join_len {l : List Str} {n : Nat} (h : ∀ x ∈ l, x.length ≤ n) : (Txt.join (Str.ofString "") l).length ≤ n * l.length := by
  show (Builtin.Str.glued (Str.ofString "") l).length ≤ _
  rw [StrLaws.glued_eq_join]
  have h1 := StrLaws.join_length_le (Str.ofString "") l
  have h2 := StrLaws.sumLen_le l h
  have h3 : (Str.ofString "").length = 0 := by decide
  rw [h3, Nat.mul_zero, Nat.add_zero] at h1
  rw [Nat.mul_comm n]
  exact Nat.le_trans h1 h2
theorem acc_len_le {its : List (Str × Str)} (hg : ∀ p ∈ its, GoodI p) : (accText its).length ≤ 4 * its.length := by
  have := join_len (l := its.map itx) (n := 4) fun x hx => by
    obtain ⟨p, hp, rfl⟩ := List.mem_map.mp hx
    exact good_itx (hg p hp)
  rwa [List.length_map] at this
structure GoodS (n : Nat) (i0 : Int) (st : S3) : Prop where
  ini : st.1 = i0 ∨ st.1 = 0
  its : ∀ p ∈ st.2.1, GoodI p
  len : st.2.1.length ≤ n
  ne : 0 < n → st.2.1 ≠ []
  ts : st.2.2.length ≤ n
  tl : ∀ t ∈ st.2.2, t.length ≤ 4 * n
theorem GoodS.step {M : Int} {sg : List Nat} {n : Nat} {i0 : Int} {st : S3} {p : Str × Str} (h : GoodS n i0 st) (hp : GoodI p) : GoodS (n + 1) i0 (stp M sg st p) := by
  obtain ⟨i, its, ts⟩ := st
  obtain ⟨h1, h2, h3, h4, h5, h6⟩ := h
  dsimp only at h1 h2 h3 h4 h5 h6
  have hall : ∀ q ∈ its ++ [p], GoodI q := fun q hq => by
    rcases List.mem_append.mp hq with hq | hq
    · exact h2 q hq
    · rw [List.mem_singleton] at hq; subst hq; exact hp
  have keep : GoodS (n + 1) i0 (i, its ++ [p], ts) := ⟨h1, hall, by simp; omega, fun _ => by simp, by simp only; omega, fun t ht => by have := h6 t ht; omega⟩
  unfold stp stepC
  dsimp only
  split
  · split
    · rename_i k hk
      have hb := splitAt_bnd _ hk
      rw [List.length_append, List.length_singleton] at hb
      refine ⟨.inr rfl, fun q hq => hall q (List.mem_of_mem_drop hq), by simp; omega, fun _ => ?_, by simp; omega, fun t ht => ?_⟩
      · intro e
        have := congrArg List.length e
        simp at this; omega
      · rcases List.mem_append.mp ht with ht | ht
        · have := h6 t ht; omega
        · rw [List.mem_singleton] at ht; subst ht
          have := acc_len_le (its := (its ++ [p]).take k) fun q hq => hall q (List.mem_of_mem_take hq)
          rw [List.length_take] at this
          omega
    · split
      · refine ⟨.inr rfl, fun q hq => ?_, by simp, fun _ => by simp, by simp; omega, fun t ht => ?_⟩
        · rw [List.mem_singleton] at hq; subst hq; exact good_sp hp
        · rcases List.mem_append.mp ht with ht | ht
          · have := h6 t ht; omega
          · rw [List.mem_singleton] at ht; subst ht
            have := acc_len_le h2
            omega
      · exact keep
  · exact keep
end
section
section
variable {w bh le room last head : Nat} {M : Nat} {a o : Bool} {fin : S3}
theorem fs0_len : (Str.ofString "").length = 0 := by decide
theorem fs1_len : (Str.ofString " ").length = 1 := by decide
theorem inv_first (hr2 : 2 ≤ room) (hr : room ≤ 8) (hM1 : 4 * room ≤ M) (hM2 : M < 4 * room + 4) (hh : head ≤ M + 1) (hbl : bh < last) (hl : bh < bh + (M + 2 - head) / 4) (hfl : bh + room + 1 ≤ last)
    (hrun : (itsOf (itB w a o bh (Str.ofString "")) bh last).foldl (stp M (sgL le (if o then 9 else 32))) ((head : Int), [], []) = fin) :
    Inv w a o bh last M le fin bh (bh + (M + 2 - head) / 4) head [] (Str.ofString "") := by
  refine ⟨Nat.le_refl _, hl, fun h => by omega, by omega, bh, Nat.le_refl _, by omega, by omega, .inl rfl, ?_, fun c' hc => ?_⟩
  · rw [itsOf_nil (Nat.le_refl _)]; exact hrun
  · rw [tot_first hc, fs0_len]; omega
theorem split_one {p : Str × Str} {sg : List Nat} : splitAt [p] sg = none := by
  cases h : splitAt [p] sg with
  | none => rfl
  | some k => have := splitAt_bnd sg h; simp at this; omega
theorem itsOf_congr {it it' : Nat → Str × Str} {b c : Nat} (h : ∀ j, b ≤ j → it j = it' j) : itsOf it b c = itsOf it' b c := by
  unfold itsOf
  refine List.map_congr_left fun j hj => h j ?_
  rw [List.mem_range'_1] at hj; exact hj.1
theorem inv_bump (hr2 : 2 ≤ room) (hr : room ≤ 8) (hM1 : 4 * room ≤ M) (hM2 : M < 4 * room + 4) (hh : head ≤ M + 1) (hbl : bh < last) (hl : ¬ bh < bh + (M + 2 - head) / 4) (hfl : bh + room + 1 ≤ last)
    (hrun : (itsOf (itB w a o bh (Str.ofString "")) bh last).foldl (stp M (sgL le (if o then 9 else 32))) ((head : Int), [], []) = fin) :
    Inv w a o bh last M le fin bh (bh + (M + 1) / 4) 0 [Str.ofString ""] (Str.ofString " ") := by
  refine ⟨Nat.le_refl _, by omega, fun h => by omega, by omega, bh + 1, by omega, by omega, by omega, .inr (by omega), ?_, fun c' hc => ?_⟩
  · rw [itsOf_cons hbl, List.foldl_cons] at hrun
    rw [← hrun]
    have e1 : itsOf (itB w a o bh (Str.ofString " ")) (bh + 1) last = itsOf (itB w a o bh (Str.ofString "")) (bh + 1) last := itsOf_congr fun j hj => by rw [itB_ne (by omega), itB_ne (by omega)]
    rw [e1]
    congr 1
    unfold stp stepC
    dsimp only
    rw [List.nil_append, itB_eq, if_pos (by rw [tot_cons]; dsimp only; rw [fs0_len, letter_len]; show (M : Int) < head + ((0 + 2 + tot [] : Nat) : Int); have : tot [] = 0 := rfl; omega), split_one]
    dsimp only
    rw [if_pos (by omega), if_pos fs0_len, itsOf_cons (show bh < bh + 1 by omega), itsOf_nil (Nat.le_refl _), itB_eq]
    rfl
  · rw [tot_first (by omega), fs1_len]; omega
end
theorem wsB_beq {a o : Bool} : (wsB a == wsB o) = decide (a = o) := by
  have : ∀ (a o : Bool), (wsB a == wsB o) = decide (a = o) := by decide +kernel
  exact this a o
theorem bump_word {r : Nat} (hr : r ≤ 5) : Str.ofString " " ++ itx (Str.ofString "", letter r) = itx (Str.ofString " ", letter r) := by
  have : ∀ (r : Fin 6), Str.ofString " " ++ itx (Str.ofString "", letter r.val) = itx (Str.ofString " ", letter r.val) := by decide +kernel
  exact this ⟨r, by omega⟩
end
section
section
variable {w : World} {mg mb : Str → Option Value} {B : Heap} {os : OsState} {F : Facts} {s : Shared} {σ σ' : List Cell} {A : Around} {k : Nat} {E : Value → Shared → Prop} {a d m md ll it l b c : Addr} {vs : Array Value} {v : Value} {i M : Int} {sg : Str} {R : Result → Shared → Prop} {ns ms : List Int}
theorem subTail {value slice : Expr} {o i : Value} {T id : String} {ops : List Value} {Q : Value → Shared → Prop} (hT : s.TypeIs o T) (hl : typeLookup (.type T) "__getitem__" = pure (some (.builtin id))) (h : wpAny (model prg w) A (getItem o i) Q E s)
    (hs : subscripted slice false o i = operate ops (getItem o i)) (ht : ∀ r, letTemporaryGo value o r = pure ()) :
    wpAny (model prg w) A (subscriptTail value slice o i) Q E s := by
  unfold subscriptTail
  refine wpAny_bind ?_
  rw [getitemInPython_of_ne hT.not_modules]
  refine wpAny_bind (wpAny_specialOf hT hl ?_)
  have fin : wpAny (model prg w) A (subscripted slice false o i) (fun r s₃ => wpAny (model prg w) A (letTemporaryGo value o r >>= fun _ => pure r) Q E s₃) E s := by
    rw [hs]
    exact wpAny_operating (wpAny_mono h (fun r s₃ h₃ => wpAny_bind (wpAny_of_eq (ht r) (wpAny_pure h₃))) fun _ _ x => x)
  first
    | exact wpAny_pure (wpAny_bind fin)
    | exact wpAny_bind (wpAny_pure (wpAny_bind fin))
    | exact wpAny_bind fin
noncomputable def slO (vl vu : Value) : Obj := { cls := .type "slice", data := .fields #[vl, vu, .none] }
theorem fi_from {value slice : Expr} {p : Nat} {t : Tok} {Q : Value → Shared → Prop} (x : St B os F s σ) (f : FIs F l ns) (hz : ns.length ≤ 1000) (hp : p ≤ ns.length) (h : ∀ q F' s', Le F F' → FIs F' q (ns.drop p) → St B os F' s' σ → Q (.ref q) s')
    (hs : ∀ sl, subscripted slice false (.ref l) (.ref sl) = operate [.ref sl, .ref l] (getItem (.ref l) (.ref sl)) := by intro _; with_unfolding_all rfl) (hg : ∀ r, letTemporaryGo value (.ref l) r = pure () := by intro _; with_unfolding_all rfl) :
    wpAny (model prg w) A (subscriptTail value slice (.ref l) (.ref s.heap.objs.size)) Q E { s with heap := s.heap.push { cls := .type "slice", data := .fields #[.int p t, .none, .none] } } := by
  obtain ⟨vs, _, hl, hi⟩ := fi_is x f
  refine subTail (hl.push _).typeIs slot_list_getitem.lookup (wpAny_getItem_list_slice (hl.push _) (Heap.IsSliceOf.new ..) (.int p t) .none .none (by simp) ?_ (by rw [List.size_toArray, hi.length, sizeLine_eq]; omega)) (hs _) hg
  rw [slicePick_from _ p (by rw [List.size_toArray, hi.length]; exact hp)]
  have y : St B os F { s with heap := s.heap.push { cls := .type "slice", data := .fields #[.int p t, .none, .none] } } σ := x.with_ (x.wd.grow fun b o e => Heap.get?_push_of_some _ e)
  obtain ⟨F', le, e, z⟩ := newF (o := lstO (vs.drop p)) y rfl (tk := s.toks)
  k_extra "uq"
  exact h _ F' _ le ⟨_, ⟨_, e, rfl, _, rfl⟩, hi.drop p⟩ z
theorem rg_make1 {b : Int} {u : Tok} {Q : Value → Shared → Prop} (y : St B os F s σ) (q : ∀ r F' s', Le F F' → (∃ t v, F' r = some (rngO 0 b 1 t u v)) → St B os F' s' σ → Q (.ref r) s') :
    wpAny (model prg w) A (call (.type "range") [.int b u]) Q E s := by
  obtain ⟨F', le, e, y'⟩ := newF (o := rngO 0 b 1 s.toks u (s.toks + 1)) y rfl (tk := s.toks + 1 + 1)
  exact call_range_1 (q _ _ _ le ⟨_, _, e⟩ y')
theorem ci_append {n : Int} {t : Tok} {Q : Value → Shared → Prop} (x : St B os F s σ) (u : Up l (LIs ns) (LIs (ns ++ [n])) σ σ') (hz : ns.length ≤ 1000) (h : ∀ s', St B os F s' σ' → Q .none s') :
    wpAny (model prg w) A (call (.builtin "list.append") [.ref l, .int n t]) Q E s := by
  obtain ⟨o, e, hc, k, vs, hd, hi⟩ := x.wd.cell _ u.mem
  have hl : s.heap.IsList l vs := ⟨o, e, hc, k, hd⟩
  refine wpAny_list_append hl (fun h' hl' hs => ?_) (by rw [← Array.length_toList, hi.length, sizeLine_eq]; omega)
  obtain ⟨o', e', hc', k', hd'⟩ := hl'
  k_extra "uq"
  exact h _ (x.with_ (x.wd.same u hs ⟨o', e', hc', _, _, hd', by rw [Array.toList_push]; exact hi.append (.cons _ _ .nil)⟩))
theorem li_max {vs : List Value} {Q : Value → Shared → Prop} (x : St B os F s σ) (hh : A.handled = none) (hl : s.heap.IsList l vs.toArray) (hi : IntsAre vs ns) (hne : 0 < ns.length)
    (h : ∀ M t s', St B os F s' σ → M ∈ ns → (∀ a, a ∈ ns → a ≤ M) → Q (.int M t) s') : wpAny (model prg w) A (call (.builtin "max") [.ref l]) Q E s := by
  obtain ⟨xs, e⟩ := hi.allInts.items
  have hns : ns = xs.toList.map (·.1) := by
    rw [← hi.numsOf, ← nums_intItems, ← e]
  have hsz : 0 < xs.size := by
    have h3 := hne; rw [hns, List.length_map, Array.length_toList] at h3; exact h3
  rw [e] at hl
  refine max_intList hh hl hsz fun v h' tk hv hk => ?_
  obtain ⟨t, rfl⟩ := intItems_at hv
  obtain ⟨h1, h2⟩ := argBest_gt (numAt xs) (xs.size - 1)
  k_extra "uq"
  refine h _ t _ (x.with_ (x.wd.grow hk)) ?_ fun a ha => ?_
  · rw [hns, numAt_eq]; exact getD_mem (by rw [List.length_map, Array.length_toList]; omega)
  · rw [hns] at ha
    obtain ⟨j, hj, rfl⟩ := mem_getD ha
    rw [List.length_map, Array.length_toList] at hj
    rw [← numAt_eq]; exact h2 j (by omega)
section
theorem ownM37a : True := by
  (k_with "binaryOp Add str str" => (refine' PyProof.Rows.SBL.add ?_ (by rw [sizeLine_eq]; omega); intro _ _ _))
  trivial
set_option maxHeartbeats 2000000 in
theorem end_tail {c : Cell} {L q1 q3 : Addr} {s1 s2 s3 s4 s5 : Stmt} {body : List Stmt} {b l n le : Nat} {t1 t2 t3 t4 t5 t6 : Tok} {Q : Flow → Shared → Prop} (U : Bs w mg mb B) (hb : fEnd.fd.body = .stmts (s1 :: s2 :: s3 :: s4 :: s5 :: body))
    (x : St B os F s ((L, Loc [("behind", .int b t1), ("limit", .int l t2), ("wide", .int n t3), ("least", .int le t4), ("place", .int (plS n b l 5 : Nat) t5), ("end", .int (l / 2 ^ (n * plS n b l 5) * 2 ^ (n * plS n b l 5) : Nat) t6)]) :: (L + 2, Cel (some (.ref q3))) :: (L + 1, Cel (some (.ref q1))) :: c :: σ)) (r : Rm (A.deeper (callEnvC fEnd.fd L 274)) 50)
    (hlo : FIs F q3 (lowD b l n)) (hup : FIs F q1 (i2d l n))
    (hbl : b < l) (hl : l < 40) (hn : 0 < n) (hn2 : n ≤ 2) (hle : le ≤ 10)
    (h : ∀ t F' s', Le F F' → St B os F' s' (c :: σ) → Q (.ret (.int (endS b l n le) t)) s') :
    wpAny (model prg w) (A.deeper (callEnvC fEnd.fd L 274)) (execs body (callEnvC fEnd.fd L 274)) Q (fun _ _ => False) s := by
  cases hb
  have hE := ends hbl hl hn hn2
  have u1 := i2d_len l n
  have u2 := i2d_len b n
  have u3 := dnum_mono (n := n) hbl (show l < 64 by omega) hn2
  have u4 := dnum_le (show l < 64 by omega) hn hn2
  have v1 : (lowD b l n).length = (i2d l n).length := by unfold lowD; rw [List.length_append, List.length_replicate, u1, u2]; omega
  have z1 : (i2d l n).length ≤ 1000 := by omega
  unfold endS at h
  generalize hp : plS n b l 5 = p at *
  have k1 := hE.lt
  have k2 := hE.np
  have k3 := hE.dig
  have k4 := hE.k0
  have k5 := hE.k3
  have k6 := hE.lo0
  have k7 := hE.up4
  have w1 : (i2d l n).getD (p : Int).toNat 0 - (lowD b l n).getD (p : Int).toNat 0 = (apart b l n p : Nat) := by rw [Int.toNat_natCast, k3]; omega
  have w2 : (i2d l n).getD (p : Int).toNat 0 < 4 := by rw [Int.toNat_natCast]; exact k7
  have w3 : 0 ≤ (lowD b l n).getD (p : Int).toNat 0 := by rw [Int.toNat_natCast]; exact k6
  have hlA : (Txt.mul (Str.ofString " ") (b : Int)).length ≤ 100 := len_mul_one (c := 32) (by decide) (by omega)
  have hlB : (Txt.mul (Str.ofString "\t") ((i2d l n).getD (p : Int).toNat 0 - (lowD b l n).getD (p : Int).toNat 0)).length ≤ 50 := len_mul_one (c := 9) (by decide) (by omega)
  have hlC : (Str.ofString "x \t").length = 3 := by decide
  have hrun : wsRun (Txt.mul (Str.ofString " ") (b : Int) ++ Txt.mul (Str.ofString "\t") ((i2d l n).getD (p : Int).toNat 0 - (lowD b l n).getD (p : Int).toNat 0) ++ Str.ofString "x \t").cps.toList [] 0 0 0 = leadRun b (apart b l n p) := by
    rw [lead_cps, w1, Int.toNat_natCast]; rfl
  have hasc : (Txt.mul (Str.ofString " ") (b : Int) ++ Txt.mul (Str.ofString "\t") ((i2d l n).getD (p : Int).toNat 0 - (lowD b l n).getD (p : Int).toNat 0) ++ Str.ofString "x \t").cps.all (· < 128) = true := by
    rw [← Array.all_toList, lead_cps]; simp [List.all_append, List.all_replicate]
  have hlen : (Txt.mul (Str.ofString " ") (b : Int) ++ Txt.mul (Str.ofString "\t") ((i2d l n).getD (p : Int).toNat 0 - (lowD b l n).getD (p : Int).toNat 0) ++ Str.ofString "x \t").length ≤ 200 := by
    rw [Str.length_append, Str.length_append]; omega
  have hLd := lead_ (b := b) (k := apart b l n p) (by omega) k4 k5
  k_extra "go"
  rename St _ _ _ _ _ => xx
  refine ws_new U (by first | exact xx | exact xx.toks) (by k_extra "rm") hasc hlen fun m F1 s1 le1 hW x1 => ?_
  rw [hrun] at hW
  clear xx hrun hasc hlen
  obtain ⟨g1, g2, g3, g4, g5⟩ := hLd
  generalize leadRun b (apart b l n p) = RR at *
  have e1 : (2 : Int) ^ ((n : Int) * p).toNat = ((2 ^ (n * p) : Nat) : Int) := by
    rw [show ((n : Int) * p).toNat = n * p from by rw [← Int.natCast_mul, Int.toNat_natCast]]; push_cast; rfl
  have e2 : (2 : Int) ^ ((n : Int) * p + n).toNat = ((2 ^ (n * p + n) : Nat) : Int) := by
    rw [show ((n : Int) * p + n).toNat = n * p + n from by rw [← Int.natCast_mul, ← Int.natCast_add, Int.toNat_natCast]]; push_cast; rfl
  have e3 : ((n : Int) * p) = ((n * p : Nat) : Int) := by push_cast; rfl
  have hpw : ∀ q, q ≤ 7 → 0 < 2 ^ q ∧ 2 ^ q ≤ 1000 := fun q hq => ⟨Nat.pow_pos (by decide), Nat.le_trans (Nat.pow_le_pow_right (by decide) hq) (by decide)⟩
  k_extra "go"
  rename St _ _ _ _ _ => xx
  rw [e1]
  refine indent_c U (by first | exact xx | exact xx.toks) (by k_extra "rm") hW (hpw _ (by omega)).1 (hpw _ (by omega)).2 g2 (by omega) (by omega) (by omega) fun t7 F2 s2 le2 x2 => ?_
  rw [g5 (n * p) (by omega), hE.fro]
  clear xx x1
  replace hW := hW.le le2
  have hfro := hE.fro
  have htop := hE.top
  generalize l / 2 ^ (n * p) * 2 ^ (n * p) = EN at *
  k_extra "go"
  · rename (_ ≠ _) => hne
    exact absurd rfl hne
  rename St _ _ _ _ _ => xx
  rw [e2]
  refine indent_c U (by first | exact xx | exact xx.toks) (by k_extra "rm") hW (hpw _ (by omega)).1 (hpw _ (by omega)).2 g2 (by omega) (by omega) (by omega) fun t8 F3 s3 le3 x3 => ?_
  rw [g5 (n * p + n) (by omega)]
  clear xx x2
  have hd0 := hE.d0
  have hd1 : (i2d l n).getD (Int.toNat 0) 0 = ((l % 2 ^ n : Nat) : Int) := hd0
  have hpn : (2 : Int) ^ Int.toNat (n : Int) = ((2 ^ n : Nat) : Int) := by rw [Int.toNat_natCast]; push_cast; rfl
  generalize 2 ^ (n * p + n) * (b / 2 ^ (n * p + n) + apart b l n p) = TP at *
  k_extra "go"
  · exfalso; omega
  all_goals
    rename St _ _ _ _ _ => xx
    have xf := ((xx.drop .head).drop .head).drop .head
    have lef : Le F F3 := (le1.trans le2).trans le3
    (try dsimp only)
  · rw [if_pos (by omega)] at h
    first | exact h _ _ _ lef xf | exact h _ _ _ lef xf.toks
  · rename (_ + 1 = _) => hq
    rw [hd1, hpn] at hq
    rw [if_neg (by omega), if_pos ⟨by omega, by omega⟩] at h
    rw [show ((l : Int) - 1) = ((l - 1 : Nat) : Int) from by omega]
    first | exact h _ _ _ lef xf | exact h _ _ _ lef xf.toks
  · rw [if_neg (by omega), if_neg (fun q => by omega)] at h
    first | exact h _ _ _ lef xf | exact h _ _ _ lef xf.toks
  · rename (_ + 1 ≠ _) => hq
    rw [hd1, hpn] at hq
    rw [if_neg (by omega), if_neg (fun q => by omega)] at h
    first | exact h _ _ _ lef xf | exact h _ _ _ lef xf.toks
end
end
end
theorem backM37 : True := by
  (k_with "binaryOp Add str str" => (refine' PyProof.Rows.SBL.add ?_ (by rw [sizeLine_eq]; have hlen_f : (Str.ofString "f").length = 1 := (by decide); omega); intro _ _ _))
  trivial
section
section
variable {w : World} {mg mb : Str → Option Value} {B : Heap} {os : OsState} {F : Facts} {s : Shared} {σ σ' : List Cell} {A : Around} {k : Nat} {E : Value → Shared → Prop} {a d m md ll it l b c : Addr} {vs : Array Value} {v : Value} {i M : Int} {sg : Str} {R : Result → Shared → Prop} {ns ms : List Int}
set_option maxHeartbeats 2000000 in
theorem end_c {c : Cell} {F0 F1 : Facts} {b l n le : Nat} {t1 t2 t3 t4 : Tok} {Q : Value → Shared → Prop} (U : Bs w mg mb B) (x : St B os F s (c :: (184, TabQ F0 113 4 "_int2digits.<locals>.inner") :: (191, TabQ F1 128 4 "_digits2int.<locals>.inner") :: σ)) (le0 : Le F0 F) (le1 : Le F1 F) (r : Rm A 60)
    (hbl : b < l) (hl : l < 40) (hn : 0 < n) (hn2 : n ≤ 2) (hle : le ≤ 10)
    (h : ∀ t F' s', Le F F' → St B os F' s' (c :: (184, TabQ F' 113 4 "_int2digits.<locals>.inner") :: (191, TabQ F' 128 4 "_digits2int.<locals>.inner") :: σ) → Q (.int (endS b l n le) t) s') :
    wpAny (model prg w) A (call (.ref 274) [.int b t1, .int l t2, .int n t3, .int le t4]) Q E s := by
  refine wpAny_call ?_
  refine' enterK fEnd (binds := [("behind", .int b t1), ("limit", .int l t2), ("wide", .int n t3), ("least", .int le t4)]) (lb := [("behind", .int b t1), ("limit", .int l t2), ("wide", .int n t3), ("least", .int le t4)]) (nc := fun L => [(L + 2, Cel none), (L + 1, Cel none)]) U x r rfl rfl rfl ?k1 ?k2 ?k3 ?k4 ?_ rfl rfl rfl
  case k1 => intro n y hy; simp only [List.mem_cons, List.not_mem_nil, or_false] at hy; rcases hy with rfl | rfl | rfl | rfl <;> exact .inl rfl
  case k2 => decide +kernel
  case k3 => exact fun L => List.forall_mem_cons.mpr ⟨rfl, List.forall_mem_cons.mpr ⟨rfl, List.forall_mem_cons.mpr ⟨rfl, List.forall_mem_cons.mpr ⟨rfl, List.forall_mem_nil _⟩⟩⟩⟩
  case k4 => exact fun L => rfl
  intro L s₁ x₁ r₁
  clear x
  dsimp only [List.cons_append, List.nil_append] at x₁
  k_extra "go"
  rename St _ _ _ _ _ => xx
  refine int2_c U (xx.pull [_, _, _]) le0 (by k_extra "rm") (show l < 64 by omega) hn hn2 fun q1 F2 s2 le2 hq1 x2 => ?_
  replace x2 := x2.unpull [_, _, _]
  dsimp only [List.cons_append, List.nil_append] at x2
  clear xx
  k_extra "go"
  rename St _ _ _ _ _ => xx
  refine int2_c U (xx.pull [_, _, _]) (Le.refl _) (by k_extra "rm") (show b < 64 by omega) hn hn2 fun q2 F3 s3 le3 hq2 x3 => ?_
  replace x3 := x3.unpull [_, _, _]
  dsimp only [List.cons_append, List.nil_append] at x3
  clear xx
  have u1 := i2d_len l n
  have u2 := i2d_len b n
  have u3 := dnum_mono (n := n) hbl (show l < 64 by omega) hn2
  have u4 := dnum_le (show l < 64 by omega) hn hn2
  have hE := ends hbl hl hn hn2
  have k1 := hE.ne
  have k2 := hE.lt
  have k3 := hE.np
  have z1 : (i2d l n).length ≤ 1000 := by omega
  have z2 : (i2d b n).length ≤ 1000 := by omega
  k_extra "go"
  rename St _ _ _ _ _ => xx
  rename (FIs _ _ (_ ++ _)) => hlo
  rename Addr => q3
  rw [show ((↑(i2d l n).length - ↑(i2d b n).length : Int)).toNat = dnum l n - dnum b n from by rw [u1, u2]; omega] at hlo
  refine comp_rg (B := B) (os := os) rfl (by decide) rfl (by decide +kernel) ?_
  k_extra "go"
  clear xx
  rename St _ _ _ _ _ => xx
  refine rg_make1 (by k_extra "stk") fun rr F6 s6 le6 e6 x6 => ?_
  obtain ⟨t6, v6, e6⟩ := e6
  refine rg_iter x6 e6 (small_up (a := 0) (by omega) z1) fun it s7 x7 => ?_
  rw [rangeSize_up] at x7
  refine ⟨it, F6, _, _, _, _, rfl, x7, fun C D s₄ x₄ => ?_⟩
  clear xx x6 x7
  have hlo6 : FIs F6 q3 (lowD b l n) := by k_extra "fis"
  have hup6 : FIs F6 q1 (i2d l n) := by k_extra "fis"
  have v1 : (lowD b l n).length = (i2d l n).length := by unfold lowD; rw [List.length_append, List.length_replicate, u1, u2]; omega
  refine codeAny_compLoop_tests (fun n' s' => ∃ (i : Nat) (F' : Facts) (lc : List (Str × Value)), i + n' = (i2d l n).length ∧ Le F6 F' ∧ St B os F' s' ((C, Loc lc) :: (D, LIs ((diffs (i2d l n) (lowD b l n) i).map Int.ofNat)) :: (it, Is (rgO i n' 1)) :: (L, Loc [("behind", .int b t1), ("limit", .int l t2), ("wide", .int n t3), ("least", .int le t4)]) :: (L + 2, Cel (some (.ref q3))) :: (L + 1, Cel (some (.ref q1))) :: c :: (184, TabQ F3 113 4 "_int2digits.<locals>.inner") :: (191, TabQ F1 128 4 "_digits2int.<locals>.inner") :: σ)) ?_ (i2d l n).length ?_ 
  · rintro n' s₈ ⟨i, F', lc, hi, le', x₈⟩
    clear x₄
    by_cases hn0 : n' = 0
    · subst hn0
      have hii : i = (i2d l n).length := by omega
      refine rg_end x₈ (by k_extra "memd") (.tail (.tail .head)) r₁.hh (by omega) fun s₄ x₄ => ?_
      (try dsimp only)
      refine ⟨rfl, F', lc, _, x₄, fun s'' x'' => ?_⟩
      clear x₈ x₄
      k_extra "go"
      rename St _ _ _ _ _ => xx
      obtain ⟨vsD, hlD, hiD⟩ := ci_is (ns := (diffs (i2d l n) (lowD b l n) i).map Int.ofNat) xx (by k_extra "memd")
      refine li_max (by k_extra "stk") r₁.hh hlD hiD ?nonempty fun M tM sM xM hM1 hM2 => ?_
      case nonempty => rw [List.length_map, hii]; exact k1
      clear xx
      replace xM := xM.drop .head
      rw [hii] at hM1 hM2
      obtain ⟨p, hp, rfl⟩ := List.mem_map.mp hM1
      have hpl : plS n b l 5 = p := hE.pl.symm.trans (foldr_max hp fun a ha => by
        have := hM2 (Int.ofNat a) (List.mem_map_of_mem ha)
        exact Int.ofNat_le.mp this)
      have hE' := hE
      rw [hpl] at hE' k2 k3
      have hpz : p ≤ 7 := by omega
      rw [show Int.ofNat p = (p : Int) from rfl]
      k_extra "go"
      rename St _ _ _ _ _ => xx
      refine fi_from (p := p) xx (by k_extra "fis") z1 (by omega) fun q5 F9 s9 le9 e9 x9 => ?_
      clear xx
      rename (FIs _ _ (List.replicate _ _)) => hrep
      rw [Int.toNat_natCast] at hrep
      have z3 : ((i2d l n).drop p).length ≤ 1000 := by rw [List.length_drop]; omega
      have z4 : (List.replicate p (0 : Int)).length ≤ 1000 := by rw [List.length_replicate]; omega
      k_extra "go"
      rename St _ _ _ _ _ => xx
      rename (FIs _ _ (_ ++ _)) => hen
      have z5 : ((List.replicate p (0 : Int)) ++ (i2d l n).drop p).length ≤ 8 := by rw [List.length_append, List.length_replicate, List.length_drop]; omega
      have hpw : (0 : Int) < 2 ^ n := Int.pow_pos (by omega)
      refine dig2_c U (xx.pull [_, _, _, _]) ?lee (by k_extra "rm") hen z5 ?digs hn hn2 fun t10 F10 s10 le10 x10 => ?_
      case lee => k_extra "le"
      case digs =>
        intro d hd
        rcases List.mem_append.mp hd with hd | hd
        · rw [List.eq_of_mem_replicate hd]; exact ⟨Int.le_refl _, hpw⟩
        · have := List.all_eq_true.mp hE.all d (List.mem_of_mem_drop hd)
          simpa using this
      replace x10 := x10.unpull [_, _, _, _]
      dsimp only [List.cons_append, List.nil_append] at x10
      clear xx
      rw [hE'.end_]
      subst hpl
      repeat' ((fail_if_success (with_reducible show wpAny _ _ (execs [_, _, _, _, _, _] _) _ _ _)); first | k_extra "useQ" | walk1)
      rename St _ _ _ _ _ => xx
      refine end_tail (s1 := _) (s2 := _) (s3 := _) (s4 := _) (s5 := _) U rfl xx (by k_extra "rm") (by k_extra "fis") (by k_extra "fis") hbl hl hn hn2 hle fun t F' s' le' x' => ?_
      k_extra "uq"
      refine h _ _ _ ?lea ((x'.imp (.tail .head) fun o ho => ho.le ?leb).imp (.tail (.tail .head)) fun o ho => ho.le ?lec)
      case lea => k_extra "le"
      case leb => k_extra "le"
      case lec => k_extra "le"
    · refine rg_item x₈ (.tail (.tail .head)) (by omega) fun t' s₄ x₄ => ?_
      (try dsimp only)
      clear x₈
      have x₅ := x₄.weak (l' := []) (List.forall_mem_nil _)
      clear x₄
      have hii : i < (i2d l n).length := by omega
      have hii2 : i < (lowD b l n).length := by omega
      k_extra "gox"
      · rename (_ ≠ _) => hne
        rename St _ _ _ _ _ => xx
        refine ci_append xx (.tail .head) (by rw [List.length_map]; have := diffs_len (i2d l n) (lowD b l n) i; omega) fun s5 x5 => ?_
        refine' ⟨n' - 1, by omega, i + 1, F', _, by omega, le', ?finA⟩
        case finA =>
         rw [diffs_ne (by rw [Int.toNat_natCast] at hne; exact hne), List.map_append]
         rw [show ((i : Int) + 1) = ((i + 1 : Nat) : Int) from by omega, show ((n' : Int) - 1) = ((n' - 1 : Nat) : Int) from by omega] at x5
         exact x5
      · rename (_ = _) => heq
        rename St _ _ _ _ _ => xx
        refine' ⟨n' - 1, by omega, i + 1, F', _, by omega, le', ?finB⟩
        case finB =>
         rw [diffs_eq (by rw [Int.toNat_natCast] at heq; exact heq)]
         rw [show ((i : Int) + 1) = ((i + 1 : Nat) : Int) from by omega, show ((n' : Int) - 1) = ((n' - 1 : Nat) : Int) from by omega] at xx
         exact xx
  · refine ⟨0, F6, [], by omega, Le.refl _, ?_⟩
    have z := x₄.imp (P' := LIs []) (.tail .head) fun o ho => by cases ho; exact ⟨rfl, _, _, rfl, .nil⟩
    rw [show ((i2d l n).length : Int) = (((i2d l n).length - 0 : Int).toNat : Int) from by omega] at z
    exact z
end
end
section
/-- enumerate over a list -/
noncomputable def EnP (it : Addr) (i : Int) (o : Obj) : Prop := ∃ old, o = { cls := .type "enumerate", dict := none, data := .fields #[.none, .bool false, .ref it, rawInt i, .none, old], slots := #[] }
noncomputable def EnO (it t : Addr) (i : Int) (v : Value) : Obj := { cls := .type "enumerate", dict := none, data := .fields #[rawInt t, .bool false, .ref it, rawInt i, .none, v], slots := #[] }
noncomputable def LitP (l : Addr) (i : Nat) (o : Obj) : Prop := o.cls = .type "list_iterator" ∧ o.data = .fields #[.ref l, .int i 0]
section
variable {w : World} {mg mb : Str → Option Value} {B : Heap} {os : OsState} {F : Facts} {s : Shared} {σ σ' : List Cell} {A : Around} {k : Nat} {E : Value → Shared → Prop} {a d m md ll it l b c e : Addr} {vs : Array Value} {v : Value} {i M : Int} {sg : Str} {R : Result → Shared → Prop} {ns ms : List Int}
theorem en_make {Q : Value → Shared → Prop} (x : St B os F s σ) (f : FIs F l ns) (q : ∀ e it s', St B os F s' ((e, EnP it 0) :: (it, LitP l 0) :: σ) → Q (.ref e) s') : wpAny (model prg w) A (call (.type "enumerate") [.ref l]) Q E s := by
  obtain ⟨vs, _, hl, hi⟩ := fi_is x f
  refine call_enumerate_list hl fun h' he hit hz hk => q _ s.heap.objs.size _ (x.with_ ?_)
  refine Wd.addAll (news := [(s.heap.objs.size + 1, EnP s.heap.objs.size 0), (s.heap.objs.size, LitP l 0)]) (x.wd.grow hk) (fun p hp => ?_) (fun p hp => ?_) ?_
  · simp only [List.mem_cons, List.not_mem_nil, or_false] at hp
    rcases hp with rfl | rfl
    · exact x.wd.fresh (high_none (Nat.le_succ _))
    · exact x.wd.fresh (high_none (Nat.le_refl _))
  · simp only [List.mem_cons, List.not_mem_nil, or_false] at hp
    rcases hp with rfl | rfl
    · exact ⟨_, he, _, rfl⟩
    · obtain ⟨o, e1, e2, e3⟩ := hit
      exact ⟨o, e1, e2, e3⟩
  · simp
theorem en_turn {env : Env} {p q : Str × Value} {xa xb : Str} {pa pb pt : Pos} {kt : Nat} {j : Nat} {Body N : Shared → Prop} {E1 E2 E3 : Value → Shared → Prop} (x : St B os F s ((env.locals, Loc [p, q]) :: (e, EnP it j) :: (it, LitP l j) :: σ)) (hh : A.handled = none) (f : FIs F l ns) (hj : j < ns.length)
    (ha1 : p.1 ≠ xa) (ha2 : q.1 ≠ xa) (hb1 : p.1 ≠ xb) (hb2 : q.1 ≠ xb) (hab : xa ≠ xb)
    (h : ∀ t u F' s', Le F F' → St B os F' s' ((env.locals, Loc [p, q, (xa, .int j t), (xb, .int (ns.getD j 0) u)]) :: (e, EnP it ((j + 1 : Nat) : Int)) :: (it, LitP l (j + 1)) :: σ) → Body s')
    (hk : env.scope.kind = .function := by rfl) (ha : env.kindOf xa = some .local := by rfl) (hb : env.kindOf xb = some .local := by rfl) :
    wpAny (model prg w) A (pyNext (.ref e)) (fun r s₁ => match r with
      | none => N s₁
      | some v => wpAny (model prg w) A (letOwnedTupleGo (.Tuple [.Name xa pa, .Name xb pb] kt pt) (.ref e) v) (fun _ s₁' => wpAny (model prg w) A (assign (.Tuple [.Name xa pa, .Name xb pb] kt pt) env v) (fun _ s₂ => Body s₂) E1 s₁') E2 s₁) E3 s := by
  obtain ⟨vs, _, hl, hi⟩ := fi_is x f
  obtain ⟨u, hu⟩ := hi.get j (ns.getD j 0) (by rw [List.getElem?_eq_getElem hj, List.getD_eq_getElem?_getD, List.getElem?_eq_getElem hj]; rfl)
  obtain ⟨oe, ge, old, rfl⟩ := x.wd.cell _ (.tail _ (.head _))
  obtain ⟨oi, gi, ci, di⟩ := x.wd.cell _ (.tail _ (.tail _ (.head _)))
  have nd := x.wd.nodup
  simp only [List.map_cons, List.nodup_cons, List.mem_cons, not_or] at nd
  obtain ⟨⟨n1, n2, n3⟩, ⟨n4, n5⟩, n6, n7⟩ := nd
  refine wpAny_pyNext_enum_item ge ⟨oi, gi, ci, di⟩ hl (by simpa using hu) n4 fun h' heo hit' ht hz hk' => ?_
  (try dsimp only)
  have y0 : Wd B F h' ((env.locals, Loc [p, q]) :: (e, Is (EnO it s.heap.objs.size (((j : Nat) : Int) + 1) (.int (ns.getD j 0) u))) :: (it, LitP l (j + 1)) :: σ) := by
    refine ⟨x.wd.base, fun b o eb => ?_, fun c hc => ?_, fun c hc => ?_, x.wd.nodup⟩
    · refine hk' b o (fun q => ?_) (fun q => ?_) (x.wd.keep _ _ eb)
      · have := x.wd.off _ (.tail _ (.head _)); rw [← q, eb] at this; cases this
      · have := x.wd.off _ (.tail _ (.tail _ (.head _))); rw [← q, eb] at this; cases this
    · rcases List.mem_cons.mp hc with rfl | hc
      · obtain ⟨o, g1, g2⟩ := x.wd.cell _ (.head _)
        exact ⟨o, hk' _ _ n1 n2 g1, g2⟩
      · rcases List.mem_cons.mp hc with rfl | hc
        · exact ⟨_, heo, rfl⟩
        · rcases List.mem_cons.mp hc with rfl | hc
          · obtain ⟨o, g1, g2, g3⟩ := hit'; exact ⟨o, g1, g2, g3⟩
          · obtain ⟨o, g1, g2⟩ := x.wd.cell _ (.tail _ (.tail _ (.tail _ hc)))
            exact ⟨o, hk' _ _ (fun z => n5 (z ▸ List.mem_map_of_mem hc)) (fun z => n6 (z ▸ List.mem_map_of_mem hc)) g1, g2⟩
    · rcases List.mem_cons.mp hc with rfl | hc
      · have := x.wd.off _ (.head _); exact this
      · rcases List.mem_cons.mp hc with rfl | hc
        · have := x.wd.off _ (.tail _ (.head _)); exact this
        · rcases List.mem_cons.mp hc with rfl | hc
          · have := x.wd.off _ (.tail _ (.tail _ (.head _))); exact this
          · have := x.wd.off _ (.tail _ (.tail _ (.tail _ hc))); exact this
  have fr := x.wd.fresh (Wd.size_none s.heap)
  have y1 : Wd B F h' ([(s.heap.objs.size, Is (tupO [.int (j : Nat) s.toks, .int (ns.getD j 0) u]))] ++ ((env.locals, Loc [p, q]) :: (e, Is (EnO it s.heap.objs.size (((j : Nat) : Int) + 1) (.int (ns.getD j 0) u))) :: (it, LitP l (j + 1)) :: σ)) := by
    refine y0.addAll (fun p hp => ?_) (fun p hp => ?_) (by simp)
    · rw [List.mem_singleton] at hp; subst hp
      refine ⟨fr.1, fun q hq => ?_⟩
      have g := fr.2
      rcases List.mem_cons.mp hq with rfl | hq
      · exact g _ (.head _)
      · rcases List.mem_cons.mp hq with rfl | hq
        · have := g _ (.tail _ (.head _)); exact this
        · rcases List.mem_cons.mp hq with rfl | hq
          · have := g _ (.tail _ (.tail _ (.head _))); exact this
          · exact g _ (.tail _ (.tail _ (.tail _ hq)))
    · rw [List.mem_singleton] at hp; subst hp
      exact ⟨_, ht, rfl⟩
  obtain ⟨y2, le, et⟩ := y1.freeze .head (.head _)
  refine wpAny_letOwnedTupleGo_enum (i := ((j : Nat) : Int) + 1) heo fun h₂ he₂ hs₂ => ?_
  have y3 := y2.same (P' := EnP it ((j + 1 : Nat) : Int)) (.tail .head) hs₂ ⟨_, he₂, _, rfl⟩
  have x3 : St B os _ { s with heap := h₂, toks := s.toks + 1 } _ := x.with_ y3
  refine unpack2 x3 hh et (.there ha1 (.there ha2 .nil)) (.there hb1 (.there hb2 (.there hab .nil))) (fun s' x' => ?_) hk ha hb
  k_extra "uq"
  exact h _ _ _ _ le x'
theorem en_end {env : Env} {P : Obj → Prop} {j : Nat} {Q : Option Value → Shared → Prop} (x : St B os F s ((env.locals, P) :: (e, EnP it j) :: (it, LitP l j) :: σ)) (hh : A.handled = none) (f : FIs F l ns) (hj : ns.length ≤ j) (h : ∀ s', St B os F s' ((env.locals, P) :: σ) → Q none s') :
    wpAny (model prg w) A (pyNext (.ref e)) Q E s := by
  obtain ⟨vs, _, hl, hi⟩ := fi_is x f
  obtain ⟨oe, ge, old, rfl⟩ := x.wd.cell _ (.tail _ (.head _))
  obtain ⟨oi, gi, ci, di⟩ := x.wd.cell _ (.tail _ (.tail _ (.head _)))
  refine wpAny_pyNext_enum_end hh ge ⟨oi, gi, ci, di⟩ hl (by rw [← hi.length] at hj; simpa using hj) fun h' hx => ?_
  k_extra "uq"
  exact h _ (x.with_ ((x.wd.turn_drop (.tail (.tail .head)) ⟨_, .tail _ (.tail _ (.head _))⟩ fun b o hb eb => hx b o hb eb).drop (.tail .head)))
/-- a list of texts, walked -/
theorem ls_iter {ts : List Str} {Q : Value → Shared → Prop} (x : St B os F s σ) (f : FSs F l ts) (q : ∀ it s', St B os F s' ((it, LitP l 0) :: σ) → Q (.ref it) s') : wpAny (model prg w) A (pyIter (.ref l)) Q E s := by
  obtain ⟨vs, _, hl, hi⟩ := fs_is x f
  exact wpAny_pyIter_list hl (q _ _ ⟨x.wd.new (Wd.size_none _) (fun _ _ e => Heap.get?_push_of_some _ e) ⟨_, Heap.get?_push_size _ rfl, rfl, rfl⟩, x.bare, x.os⟩)
theorem ls_item {ts : List Str} {j : Nat} {y : Str} {Q : Option Value → Shared → Prop} (x : St B os F s σ) (f : FSs F l ts) (u : Up it (LitP l j) (LitP l (j + 1)) σ σ') (hj : ts[j]? = some y) (q : ∀ t s', St B os F s' σ' → Q (some (.str y t)) s') : wpAny (model prg w) A (pyNext (.ref it)) Q E s := by
  obtain ⟨vs, _, hl, hi⟩ := fs_is x f
  obtain ⟨o, g, c1, c2⟩ := x.wd.cell _ u.mem
  obtain ⟨t, ht⟩ := hi.get _ _ hj
  exact wpAny_pyNext_list_item ⟨o, g, c1, c2⟩ hl (by simpa using ht) fun h' hi' hs => q t _ (x.with_ (x.wd.same u hs hi'))
theorem ls_end {ts : List Str} {j : Nat} {Q : Option Value → Shared → Prop} (x : St B os F s σ) (f : FSs F l ts) (hm : (it, LitP l j) ∈ σ) (u : Dr it σ σ') (hh : A.handled = none) (hj : ts.length ≤ j) (q : ∀ s', St B os F s' σ' → Q none s') : wpAny (model prg w) A (pyNext (.ref it)) Q E s := by
  obtain ⟨vs, _, hl, hi⟩ := fs_is x f
  obtain ⟨o, g, c1, c2⟩ := x.wd.cell _ hm
  have hv : vs.length = ts.length := strs_length hi
  exact wpAny_pyNext_list_end hh ⟨o, g, c1, c2⟩ hl (by simp; omega) fun h' hx => q _ (x.with_ (x.wd.turn_drop u ⟨_, hm⟩ fun b o hb eb => hx b o hb eb))
end
end
section
/-- the drawn numbers: the script's are added in turn -/
noncomputable def drawGo : List Int → Nat → List Int → List Int
  | [], _, ns => ns
  | x :: r, j, ns => drawGo r (j + 1) (ns.set (j % 6) (ns.getD (j % 6) 0 + Int.fmod x 1000000))
structure Drw (ns : List Int) (m : Int) : Prop where
  len : ns.length = 6
  bnd : ∀ j, j < 6 → 0 ≤ ns.getD j 0 ∧ ns.getD j 0 ≤ m
theorem Drw.step {ns : List Int} {m x : Int} (d : Drw ns m) (j : Nat) : Drw (ns.set (j % 6) (ns.getD (j % 6) 0 + Int.fmod x 1000000)) (m + 1000000) := by
  have h1 : 0 ≤ Int.fmod x 1000000 := Int.fmod_nonneg_of_pos _ (by decide)
  have h2 : Int.fmod x 1000000 < 1000000 := Int.fmod_lt_of_pos _ (by decide)
  refine ⟨by rw [List.length_set]; exact d.len, fun i hi => ?_⟩
  have b1 := d.bnd i hi
  have b2 := d.bnd (j % 6) (Nat.mod_lt _ (by decide))
  have hl := d.len
  rw [List.getD_eq_getElem?_getD, List.getElem?_set]
  by_cases h : j % 6 = i
  · rw [if_pos h, if_pos (by omega)]
    simp only [Option.getD_some]
    omega
  · rw [if_neg h, ← List.getD_eq_getElem?_getD]; omega
section
variable {w : World} {mg mb : Str → Option Value} {B : Heap} {os : OsState} {F : Facts} {s : Shared} {σ σ' : List Cell} {A : Around} {k : Nat} {E : Value → Shared → Prop} {a d m md ll it l b c e : Addr} {vs : Array Value} {v : Value} {i M : Int} {sg : Str} {R : Result → Shared → Prop} {ns ms : List Int}
theorem St.front3 {a1 a2 a3 : Cell} (x : St B os F s (a1 :: a2 :: a3 :: σ)) : St B os F s (a3 :: a1 :: a2 :: σ) := x.perm (List.perm_middle (l₁ := [_, _]) (l₂ := σ))
theorem ci_get {u : Tok} {j : Int} {Q : Value → Shared → Prop} (x : St B os F s σ) (hm : (l, LIs ns) ∈ σ) (h0 : 0 ≤ j) (hz : j ≤ 1000) (hj : j < ns.length) (h : ∀ t, Q (.int (ns.getD j.toNat 0) t) s) :
    wpAny (model prg w) A (getItem (.ref l) (.int j u)) Q E s := by
  obtain ⟨vs, hl, hi⟩ := ci_is x hm
  obtain ⟨t, ht⟩ := hi.get _ _ (getD_some h0 hj)
  exact wpAny_getItem_list hl h0 (by omega) (by simpa using ht) (h t)
section
theorem ownM40a : True := by
  (k_with "getItem ref int" => (refine' Mine.ci_get (by k_extra "stk") (by k_extra "memd") (by k_extra "om") (by k_extra "om") (by k_extra "om") ?_; intros))
  trivial
set_option maxHeartbeats 2000000 in
theorem draw_c {c : Cell} {L ld : Addr} {xs : List Int} {s1 : Stmt} {tgt iter : Expr} {body orelse rest : List Stmt} {pos : Pos} {Q : Flow → Shared → Prop} (U : Bs w mg mb B) (hb : fLaw.fd.body = .stmts (s1 :: .For tgt iter body orelse pos :: rest)) (hh : A.handled = none)
    (x : St B os F s ((L, Loc [("script", .ref l), ("drawn", .ref ld)]) :: (ld, LIs ns) :: c :: σ)) (f : FIs F l xs) (hd : Drw ns 100) (hz : xs.length ≤ 63)
    (h : ∀ F' s', Le F F' → Drw (drawGo xs 0 ns) 64000000 → St B os F' s' ((L, Loc [("script", .ref l), ("drawn", .ref ld)]) :: (ld, LIs (drawGo xs 0 ns)) :: c :: σ) → Q .next s') :
    wpAny (model prg w) A (exec (.For tgt iter body orelse pos) (callEnvC fLaw.fd L 279)) Q (fun _ _ => False) s := by
  cases hb
  refine wpAny_For ?_
  k_extra "gox"
  rename St _ _ _ _ _ => xx
  refine en_make (by k_extra "stk") f fun e it s2 x2 => ?_
  clear xx
  obtain ⟨oe, ge, old, rfl⟩ := x2.wd.cell _ (.head _)
  refine wpAny_pyIter_enum ge ?_
  clear ge
  replace x2 := x2.front3
  have h63 : (63 : Int) = 63 := rfl
  refine codeAny_forLoop_any (fun n s' => ∃ (j : Nat) (ns' : List Int) (F' : Facts), j + n = xs.length ∧ Le F F' ∧ drawGo (xs.drop j) j ns' = drawGo xs 0 ns ∧ Drw ns' (100 + 1000000 * j) ∧
    St B os F' s' ((L, Loc [("script", .ref l), ("drawn", .ref ld)]) :: (e, EnP it (j : Nat)) :: (it, LitP l j) :: (ld, LIs ns') :: c :: σ)) ?_ xs.length ⟨0, ns, F, by omega, Le.refl _, rfl, ⟨hd.len, fun i hi => by have := hd.bnd i hi; omega⟩, x2⟩
  clear x2
  rintro n s3 ⟨j, ns', F', hjn, le', hrun, hd', x3⟩
  by_cases hn0 : n = 0
  · refine en_end (env := callEnvC fLaw.fd L 279) (j := j) x3 hh (f.le le') (by omega) fun s4 x4 => ?_
    (try dsimp only)
    rw [List.drop_of_length_le (by omega)] at hrun
    replace hrun : ns' = drawGo xs 0 ns := hrun
    k_extra "gox"
    rw [← hrun] at h
    k_extra "uq"
    exact h _ _ le' ⟨hd'.len, fun i hi => by have := hd'.bnd i hi; omega⟩ x4
  · refine en_turn (env := callEnvC fLaw.fd L 279) (j := j) x3 hh (f.le le') (by omega) (show Str.ofString "script" ≠ Str.ofString "at" by decide) (show Str.ofString "drawn" ≠ Str.ofString "at" by decide) (show Str.ofString "script" ≠ Str.ofString "x" by decide) (show Str.ofString "drawn" ≠ Str.ofString "x" by decide) (by decide) fun t u F4 s4 le4 x4 => ?_
    clear x3
    have hm0 : 0 ≤ (j : Int).fmod 6 := Int.fmod_nonneg_of_pos _ (by decide)
    have hm1 : (j : Int).fmod 6 < 6 := Int.fmod_lt_of_pos _ (by decide)
    have hlen := hd'.len
    have hme : (j : Int).fmod 6 = ((j % 6 : Nat) : Int) := by rw [Int.fmod_eq_emod_of_nonneg _ (by decide)]; rfl
    have e10 : (10 : Int) ^ Int.toNat 6 = 1000000 := by decide
    have b2 := hd'.bnd (j % 6) (Nat.mod_lt _ (by decide))
    k_extra "gox"
    rename St _ _ _ _ _ => xx
    (try dsimp only)
    rw [hme, Int.toNat_natCast, e10] at xx
    refine ⟨n - 1, by omega, j + 1, _, F4, by omega, le'.trans le4, ?_, ?_, xx.weak2⟩
    · rw [← hrun, show xs.drop j = xs.getD j 0 :: xs.drop (j + 1) from by
        rw [List.drop_eq_getElem_cons (by omega), List.getD_eq_getElem?_getD, List.getElem?_eq_getElem (by omega)]; rfl]
      rfl
    · have := hd'.step (x := xs.getD j 0) j
      rw [show (100 + 1000000 * ((j + 1 : Nat) : Int)) = 100 + 1000000 * j + 1000000 from by omega]
      exact this
end
end
end
section
section
variable {w : World} {mg mb : Str → Option Value} {B : Heap} {os : OsState} {F : Facts} {s : Shared} {σ σ' : List Cell} {A : Around} {k : Nat} {E : Value → Shared → Prop} {a d m md ll it l b c e : Addr} {vs : Array Value} {v : Value} {i M : Int} {sg : Str} {R : Result → Shared → Prop} {ns ms : List Int}
section
theorem ownM41a : True := by
  (k_with "newList" => (refine' Mine.lstC (by k_extra "stk") (by k_extra "simp") ?_; intros))
  trivial
set_option maxHeartbeats 4000000 in
theorem law_0 {c : Cell} {L : Addr} {xs : List Int} {s1 s2 : Stmt} {rest : List Stmt} {Q : Flow → Shared → Prop} (U : Bs w mg mb B)
    (hb : fLaw.fd.body = .stmts (s1 :: s2 :: rest)) (hh : A.handled = none)
    (x : St B os F s ((L, Loc [("script", .ref l)]) :: c :: σ)) (f : FIs F l xs) (hz : xs.length ≤ 63)
    (h : ∀ ld F' s', Le F F' → Drw (drawGo xs 0 [1, 11, 6, 1, 5, 5]) 64000000 → St B os F' s' ((L, Loc [("script", .ref l), ("drawn", .ref ld)]) :: (ld, LIs (drawGo xs 0 [1, 11, 6, 1, 5, 5])) :: c :: σ) →
      wpAny (model prg w) A (execs rest (callEnvC fLaw.fd L 279)) Q (fun _ _ => False) s') :
    wpAny (model prg w) A (execs (s1 :: s2 :: rest) (callEnvC fLaw.fd L 279)) Q (fun _ _ => False) s := by
  cases hb
  walk1
  walk1
  k_extra "goe"
  rename St _ _ _ _ _ => xx
  replace xx := xx.imp (P' := LIs [1, 11, 6, 1, 5, 5]) (.tail .head) fun o ho => by cases ho; exact ⟨rfl, _, _, rfl, .cons _ _ (.cons _ _ (.cons _ _ (.cons _ _ (.cons _ _ (.cons _ _ .nil)))))⟩
  refine draw_c U rfl hh xx f ⟨rfl, fun j hj => ?_⟩ hz fun F' s' le hd x' => ?_
  · have : j = 0 ∨ j = 1 ∨ j = 2 ∨ j = 3 ∨ j = 4 ∨ j = 5 := by omega
    rcases this with rfl | rfl | rfl | rfl | rfl | rfl <;> decide
  · k_extra "uq"
    exact h _ _ _ le hd x'
end
end
end
theorem backM41 : True := by
  (k_with "newList" => (refine' Mine.lstF (by k_extra "stk") (by k_extra "simp") ?_; intros))
  (k_with "newList" => ((with_reducible show wpAny _ _ (newList []) _ _ _); refine' Mine.lstE (by k_extra "stk") ?_; intros))
  trivial
section
section
variable {w : World} {mg mb : Str → Option Value} {B : Heap} {os : OsState} {F : Facts} {s : Shared} {σ σ' : List Cell} {A : Around} {k : Nat} {E : Value → Shared → Prop} {a d m md ll it l b c e : Addr} {vs : Array Value} {v : Value} {i M : Int} {sg : Str} {R : Result → Shared → Prop} {ns ms : List Int}
theorem fs_raw {x y : Str} {t u : Tok} {q : Addr} (e : F q = some { cls := .type "list", data := .seq [.str x t, .str y u].toArray }) : FSs F q [x, y] := ⟨_, e, .cons _ _ (.cons _ _ .nil)⟩
theorem subTailT {value slice : Expr} {o i : Value} {T id : String} {ops : List Value} {Q : Value → Shared → Prop} (hT : s.TypeIs o T) (hl : typeLookup (.type T) "__getitem__" = pure (some (.builtin id))) (h : wpAny (model prg w) A (getItem o i) Q E s)
    (hs : subscripted slice false o i = operate ops (getItem o i)) :
    wpAny (model prg w) A (subscriptTail value slice o i) Q E s := by
  unfold subscriptTail
  refine wpAny_bind ?_
  rw [getitemInPython_of_ne hT.not_modules]
  refine wpAny_bind (wpAny_specialOf hT hl ?_)
  have fin : wpAny (model prg w) A (subscripted slice false o i) (fun r s₃ => wpAny (model prg w) A (letTemporaryGo value o r >>= fun _ => pure r) Q E s₃) E s := by
    rw [hs]
    exact wpAny_operating (wpAny_mono h (fun r s₃ h₃ => wpAny_bind (wpAny_letTemporaryGo (wpAny_pure h₃))) fun _ _ x => x)
  first
    | exact wpAny_pure (wpAny_bind fin)
    | exact wpAny_bind (wpAny_pure (wpAny_bind fin))
    | exact wpAny_bind fin
theorem fs_itemT {ts : List Str} {y : Str} {value slice : Expr} {u : Tok} {j : Int} {Q : Value → Shared → Prop} (x : St B os F s σ) (f : FSs F l ts) (h0 : 0 ≤ j) (hz : j ≤ 1000) (hj : ts[j.toNat]? = some y) (h : ∀ t, Q (.str y t) s)
    (hs : subscripted slice false (.ref l) (.int j u) = operate [.ref l, .int j u] (getItem (.ref l) (.int j u)) := by with_unfolding_all rfl) :
    wpAny (model prg w) A (subscriptTail value slice (.ref l) (.int j u)) Q E s := by
  obtain ⟨vs, _, hl, hi⟩ := fs_is x f
  obtain ⟨t, ht⟩ := hi.get _ _ hj
  exact subTailT hl.typeIs slot_list_getitem.lookup (wpAny_getItem_list hl h0 (by omega) (by simpa using ht) (h t)) hs
theorem sl_u {value slice : Expr} {y : Str} {j : Int} {t uj : Tok} {Q : Value → Shared → Prop} (x : St B os F s σ) (hy : y.length ≤ 1000) (h : ∀ t' s', St B os F s' σ → Q (.str (Txt.slice y none (some j)) t') s')
    (hs : subscripted slice false (.str y t) (.ref s.heap.objs.size) = operate [.ref s.heap.objs.size, .str y t] (getItem (.str y t) (.ref s.heap.objs.size)) := by with_unfolding_all rfl) (hg : ∀ r, letTemporaryGo value (.str y t) r = pure () := by intro _; with_unfolding_all rfl) :
    wpAny (model prg w) A (subscriptTail value slice (.str y t) (.ref s.heap.objs.size)) Q E { s with heap := s.heap.push { cls := .type "slice", data := .fields #[.none, .int j uj, .none] } } :=
  tail_of_ItemOn (SBH.sliceItem_ns (P := fun h' => Wd B F h' σ) (fun h ob w => w.grow fun _ _ e => Heap.get?_push_of_some _ e) x.wd (fun h' t' k y => h _ _ (x.with_ y)) (by rw [sizeLine_eq]; omega)) hs hg
theorem sl_l {value slice : Expr} {y : Str} {j : Int} {t uj : Tok} {Q : Value → Shared → Prop} (x : St B os F s σ) (hy : y.length ≤ 1000) (h : ∀ t' s', St B os F s' σ → Q (.str (Txt.slice y (some j) none) t') s')
    (hs : subscripted slice false (.str y t) (.ref s.heap.objs.size) = operate [.ref s.heap.objs.size, .str y t] (getItem (.str y t) (.ref s.heap.objs.size)) := by with_unfolding_all rfl) (hg : ∀ r, letTemporaryGo value (.str y t) r = pure () := by intro _; with_unfolding_all rfl) :
    wpAny (model prg w) A (subscriptTail value slice (.str y t) (.ref s.heap.objs.size)) Q E { s with heap := s.heap.push { cls := .type "slice", data := .fields #[.int j uj, .none, .none] } } :=
  tail_of_ItemOn (SBH.sliceItem_sn (P := fun h' => Wd B F h' σ) (fun h ob w => w.grow fun _ _ e => Heap.get?_push_of_some _ e) x.wd (fun h' t' k y => h _ _ (x.with_ y)) (by rw [sizeLine_eq]; omega)) hs hg
theorem pick2 {x y : Str} {j : Int} (h0 : 0 ≤ j) (h1 : j < 2) : [x, y][j.toNat]? = some (if j = 0 then x else y) := by
  have : j = 0 ∨ j = 1 := by omega
  rcases this with rfl | rfl <;> rfl
/-- the numbers that the law draws -/
theorem law_nums (N0 N1 N2 N3 N4 N5 : Nat) {D : List Int} (hD : D = [(N0 : Int), N1, N2, N3, N4, N5]) :
    ∃ (w' le bh room width head last : Nat) (wa wo : Bool), (0 < w' ∧ w' ≤ 2 ∧ 0 < le ∧ le ≤ 3 ∧ bh < 24 ∧ 2 ≤ room ∧ room ≤ 8 ∧ 4 * room ≤ width ∧ width < 4 * room + 4 ∧ head ≤ width + 1 ∧ bh + room + 1 ≤ last ∧ last ≤ bh + room + 6) ∧
      (D.getD (Int.toNat 0) 0).fmod 2 + 1 = (w' : Int) ∧ (if ((D.getD (Int.toNat 0) 0).fdiv 2).fmod 2 = 0 then Str.ofString " \t" else Str.ofString "\t ") = wsB wa ∧ (0 ≤ ((D.getD (Int.toNat 0) 0).fdiv 2).fmod 2 ∧ ((D.getD (Int.toNat 0) 0).fdiv 2).fmod 2 < 2) ∧
      (if ((D.getD (Int.toNat 0) 0).fdiv 4).fmod 2 = 0 then Str.ofString "\t " else Str.ofString " \t") = wsB wo ∧ Txt.item (Str.ofString " \t") (((D.getD (Int.toNat 0) 0).fdiv 4).fmod 2) = ⟨#[if wo then 9 else 32]⟩ ∧ (0 ≤ ((D.getD (Int.toNat 0) 0).fdiv 4).fmod 2 ∧ ((D.getD (Int.toNat 0) 0).fdiv 4).fmod 2 < 2) ∧
      ((D.getD (Int.toNat 0) 0).fdiv 8).fmod 3 + 1 = (le : Int) ∧ (D.getD (Int.toNat 1) 0).fmod 24 = (bh : Int) ∧ (D.getD (Int.toNat 2) 0).fmod 7 + 2 = (room : Int) ∧ 4 * (room : Int) + (D.getD (Int.toNat 3) 0).fmod 4 = (width : Int) ∧
      (D.getD (Int.toNat 4) 0).fmod ((width : Int) + 2) = (head : Int) ∧ (bh : Int) + room + 1 + (D.getD (Int.toNat 5) 0).fmod 6 = (last : Int) := by
  subst hD
  have m (a b : Nat) : (a : Int).fmod b = ((a % b : Nat) : Int) := by rw [Int.fmod_eq_emod_of_nonneg _ (Int.natCast_nonneg b)]; rfl
  have d (a b : Nat) : (a : Int).fdiv b = ((a / b : Nat) : Int) := by rw [Int.fdiv_eq_ediv_of_nonneg _ (Int.natCast_nonneg b)]; rfl
  have b2 (a b : Nat) : 0 ≤ ((a : Int).fdiv b).fmod 2 ∧ ((a : Int).fdiv b).fmod 2 < 2 := by
    rw [d, show (2 : Int) = ((2 : Nat) : Int) from rfl, m]; exact ⟨Int.natCast_nonneg _, Int.ofNat_lt.mpr (Nat.mod_lt _ (by decide))⟩
  have tw (a b : Nat) {P : Int → Prop} (h0 : a / b % 2 = 0 → P 0) (h1 : a / b % 2 = 1 → P 1) : P (((a : Int).fdiv b).fmod 2) := by
    rw [d, show (2 : Int) = ((2 : Nat) : Int) from rfl, m]
    rcases Nat.mod_two_eq_zero_or_one (a / b) with q | q
    · rw [q]; exact h0 q
    · rw [q]; exact h1 q
  refine ⟨N0 % 2 + 1, N0 / 8 % 3 + 1, N1 % 24, N2 % 7 + 2, 4 * (N2 % 7 + 2) + N3 % 4, N4 % (4 * (N2 % 7 + 2) + N3 % 4 + 2), N1 % 24 + (N2 % 7 + 2) + 1 + N5 % 6, decide (N0 / 2 % 2 = 0), decide (N0 / 4 % 2 = 1), ?_,
    by rw [show (2 : Int) = ((2 : Nat) : Int) from rfl]; exact congrArg (· + 1) (m N0 2), tw N0 2 (P := fun x => (if x = 0 then Str.ofString " \t" else Str.ofString "\t ") = wsB (decide (N0 / 2 % 2 = 0))) (fun q => by rw [q]; rfl) (fun q => by rw [q]; rfl), b2 N0 2, tw N0 4 (P := fun x => (if x = 0 then Str.ofString "\t " else Str.ofString " \t") = wsB (decide (N0 / 4 % 2 = 1))) (fun q => by rw [q]; rfl) (fun q => by rw [q]; rfl), tw N0 4 (P := fun x => Txt.item (Str.ofString " \t") x = ⟨#[if decide (N0 / 4 % 2 = 1) then 9 else 32]⟩) (fun q => by rw [q]; decide) (fun q => by rw [q]; decide), b2 N0 4,
    (congrArg (fun x => x.fmod 3 + 1) (d N0 8)).trans (congrArg (· + 1) (m (N0 / 8) 3)), m N1 24, congrArg (· + 2) (m N2 7), congrArg (4 * ((N2 % 7 + 2 : Nat) : Int) + ·) (m N3 4), m N4 _, congrArg (((N1 % 24 : Nat) : Int) + (N2 % 7 + 2 : Nat) + 1 + ·) (m N5 6)⟩
  have h1 := Nat.mod_lt N0 (y := 2) (by decide)
  have h2 := Nat.mod_lt (N0 / 8) (y := 3) (by decide)
  have h4 := Nat.mod_lt N2 (y := 7) (by decide)
  have h5 := Nat.mod_lt N3 (y := 4) (by decide)
  have h7 := Nat.mod_lt N5 (y := 6) (by decide)
  refine ⟨Nat.succ_pos _, h1, Nat.succ_pos _, h2, Nat.mod_lt _ (by decide), Nat.le_add_left .., Nat.succ_le_succ h4, Nat.le_add_right .., Nat.add_lt_add_left h5 _, Nat.le_of_lt_succ (Nat.mod_lt _ (Nat.succ_pos _)), Nat.le_add_right .., Nat.add_le_add_left (Nat.le_of_lt_succ h7) _⟩
section
theorem ownM42a : True := by
  (k_with "subscriptTail" => (refine' Mine.fs_itemT (by k_extra "stk") (Mine.fs_raw (by k_extra "fact")) (by omega) (by omega) (Mine.pick2 (by omega) (by omega)) ?_; intro _))
  (k_with "subscriptTail" => ((with_reducible show wpAny _ _ (subscriptTail _ _ (Value.str _ _) (Value.int _ _)) _ _ _); refine' tail_of_ItemOn (SBL.item (by omega) (by omega) (by omega) ?_) (by with_unfolding_all rfl) (by intro _; with_unfolding_all rfl); intro _))
  (k_with "subscriptTail" => ((with_reducible show wpAny _ _ (subscriptTail _ (Expr.Slice none (some _) none _) (Value.str _ _) _) _ _ _); refine' Mine.sl_u (by k_extra "stk") (by k_extra "om") ?_; intros))
  (k_with "subscriptTail" => ((with_reducible show wpAny _ _ (subscriptTail _ (Expr.Slice (some _) none none _) (Value.str _ _) _) _ _ _); refine' Mine.sl_l (by k_extra "stk") (by k_extra "om") ?_; intros))
  (k_with "binaryOp Add str str" => (refine' PyProof.Rows.SBL.add ?_ (by rw [sizeLine_eq]; omega); intro _ _ _))
  trivial
set_option maxHeartbeats 4000000 in
theorem law_a {L ld : Addr} {N0 N1 N2 N3 N4 N5 : Nat} {s1 s2 s3 s4 s5 s6 s7 s8 s9 s10 s11 s12 s13 s14 : Stmt} {rest : List Stmt} {Q : Flow → Shared → Prop} (U : Bs w mg mb B)
    (hb : fLaw.fd.body = .stmts (s1 :: s2 :: s3 :: s4 :: s5 :: s6 :: s7 :: s8 :: s9 :: s10 :: s11 :: s12 :: s13 :: s14 :: rest)) (hh : A.handled = none)
    (x : St B os F s ((L, Loc [("script", .ref l), ("drawn", .ref ld)]) :: (ld, LIs [(N0 : Int), N1, N2, N3, N4, N5]) :: (L + 3, Cel none) :: (L + 2, Cel none) :: (L + 1, Cel none) :: σ))
    (h : ∀ (w' le bh room width head last : Nat) (wa wo : Bool) (t1 t2 t3 t4 t5 t6 t7 t8 t9 t10 t11 : Tok) F' s', 0 < w' → w' ≤ 2 → 0 < le → le ≤ 3 → bh < 24 → 2 ≤ room → room ≤ 8 → 4 * room ≤ width → width < 4 * room + 4 → head ≤ width + 1 → bh + room + 1 ≤ last → last ≤ bh + room + 6 → Le F F' →
      CelF F' (L + 1) (.int (2 ^ w' : Nat) t2) → CelF F' (L + 2) (.str (wsB wa) t3) → CelF F' (L + 3) (.str (wsB wo) t4) →
      St B os F' s' ((L, Loc [("wide", .int w' t1), ("least", .int le t5), ("signs", .str ⟨(sgL le (if wo then 9 else 32)).toArray⟩ t6), ("behind", .int bh t7), ("room", .int room t8), ("width", .int width t9), ("head", .int head t10), ("last", .int last t11)]) :: σ) →
      wpAny (model prg w) A (execs rest (callEnvC fLaw.fd L 279)) Q (fun _ _ => False) s') :
    wpAny (model prg w) A (execs (s3 :: s4 :: s5 :: s6 :: s7 :: s8 :: s9 :: s10 :: s11 :: s12 :: s13 :: s14 :: rest) (callEnvC fLaw.fd L 279)) Q (fun _ _ => False) s := by
  cases hb
  obtain ⟨D, hD⟩ : ∃ D, D = [(N0 : Int), N1, N2, N3, N4, N5] := ⟨_, rfl⟩
  have gl : D.length = 6 := by rw [hD]; rfl
  rw [← hD] at x
  obtain ⟨w', le, bh, room, width, head, last, wa, wo, ⟨hw1, hw2, hle1, hle3, hbh, hr2, hr8, hwd1, hwd2, hhd, hla1, hla2⟩, e1, ewa, ⟨b2l, b2u⟩, ewo, esg, ⟨b3l, b3u⟩, e4, e5, e6, e7, e8, e9⟩ := law_nums N0 N1 N2 N3 N4 N5 hD
  clear hD
  walk1
  walk1
  k_extra "goe"
  rename St _ _ _ _ _ => xx
  rw [e1] at xx
  clear x
  walk1
  k_extra "goe"
  rename St _ _ _ _ _ => xx
  rw [show (2 : Int) ^ Int.toNat (w' : Int) = ((2 ^ w' : Nat) : Int) from by rw [Int.toNat_natCast]; push_cast; rfl] at xx
  walk1
  k_extra "goe"
  rename St _ _ _ _ _ => xx
  rw [ewa] at xx
  walk1
  have hl2 : (Str.ofString " \t").length = 2 := by decide
  k_extra "goe"
  rename St _ _ _ _ _ => xx
  rw [esg] at xx
  walk1
  k_extra "goe"
  rename St _ _ _ _ _ => xx
  rw [ewo] at xx
  walk1
  k_extra "goe"
  rename St _ _ _ _ _ => xx
  rw [e4] at xx
  have hl5 : (Str.ofString "fedcb").length = 5 := by decide
  have hs1 : (⟨#[if wo = true then 9 else 32]⟩ : Str).length = 1 := rfl
  have hla : (Txt.slice (Str.ofString "fedcb") none (some (6 - (le : Int)))).length ≤ 5 := Txt.slice_le _ _ _
  have hlb : (Txt.slice (Str.ofString "fedcb") (some (6 - (le : Int))) none).length ≤ 5 := Txt.slice_le _ _ _
  have esl : Txt.slice (Str.ofString "fedcb") none (some (6 - (le : Int))) ++ ⟨#[if wo = true then 9 else 32]⟩ ++ Txt.slice (Str.ofString "fedcb") (some (6 - (le : Int))) none = ⟨(sgL le (if wo then 9 else 32)).toArray⟩ := by
    have : ∀ (le : Fin 4) (wo : Bool), 0 < le.val → Txt.slice (Str.ofString "fedcb") none (some (6 - ((le.val : Nat) : Int))) ++ ⟨#[if wo = true then 9 else 32]⟩ ++ Txt.slice (Str.ofString "fedcb") (some (6 - ((le.val : Nat) : Int))) none = ⟨(sgL le.val (if wo then 9 else 32)).toArray⟩ := by decide +kernel
    exact this ⟨le, by omega⟩ wo hle1
  walk1
  k_extra "goe"
  rename St _ _ _ _ _ => xx
  rw [esl] at xx
  walk1
  k_extra "goe"
  rename St _ _ _ _ _ => xx
  rw [e5] at xx
  walk1
  k_extra "goe"
  rename St _ _ _ _ _ => xx
  rw [e6] at xx
  walk1
  k_extra "goe"
  rename St _ _ _ _ _ => xx
  rw [e7] at xx
  walk1
  k_extra "goe"
  rename St _ _ _ _ _ => xx
  rw [e8] at xx
  walk1
  repeat' ((fail_if_success (with_reducible show wpAny _ _ (execs [_, _, _, _, _, _, _, _, _, _] _) _ _ _)); first | k_extra "useQ" | walk1)
  rename St _ _ _ _ _ => xx
  rw [e9] at xx
  (try dsimp only)
  obtain ⟨Fa, ha, lea, xa⟩ := (xx.drop (.tail .head)).flip.iceCel
  obtain ⟨Fb, hb, leb, xb⟩ := xa.flip.iceCel
  obtain ⟨Fc, hc, lec, xc⟩ := xb.flip.iceCel
  k_extra "uq"
  refine h w' le bh room width head last wa wo _ _ _ _ _ _ _ _ _ _ _ Fc _ hw1 hw2 hle1 hle3 hbh hr2 hr8 hwd1 hwd2 hhd hla1 hla2 ?leA hc (hb.le lec) ((ha.le leb).le lec) (xc.weak (by k_extra "reloc"))
  case leA => k_extra "le"
end
end
end
theorem backM42 : True := by
  (k_with "subscriptTail" => ((fail_if_success (with_reducible show wpAny _ _ (subscriptTail _ (Expr.Slice _ _ _ _) _ _) _ _ _)); refine' Mine.tup_itemK (by k_extra "stk") (by k_extra "fact") (by k_extra "dec") (by k_extra "rfl") (by k_extra "dec") (by k_extra "simp") (by k_extra "rfl") ?_; intros))
  (k_with "subscriptTail" => ((fail_if_success (with_reducible show wpAny _ _ (subscriptTail _ (Expr.Slice _ _ _ _) _ _) _ _ _)); refine' Mine.acc_item (by k_extra "asm") (by k_extra "stk") (by k_extra "memd") (by k_extra "rfl") (by k_extra "om") (by k_extra "om") (by k_extra "asm") ?_; intros))
  (k_with "subscriptTail" => ((with_reducible show wpAny _ _ (subscriptTail _ _ (Value.str _ _) (Value.int _ _)) _ _ _); refine' SBL.item (by k_extra "om") (by k_extra "om") (by k_extra "om") ?_; intros))
  (k_with "binaryOp Add str str" => (refine' PyProof.Rows.SBL.add ?_ (by rw [sizeLine_eq]; have hlen_f : (Str.ofString "f").length = 1 := (by decide); omega); intro _ _ _))
  (k_with "subscriptTail" => ((fail_if_success (with_reducible show wpAny _ _ (subscriptTail _ (Expr.Slice _ _ _ _) _ _) _ _ _)); refine' Mine.fi_item (by k_extra "stk") (by k_extra "fis") (by k_extra "om") (by k_extra "om") (by k_extra "oml") ?_; intros))
  (k_with "subscriptTail" => ((fail_if_success (with_reducible show wpAny _ _ (subscriptTail _ (Expr.Slice _ _ _ _) _ _) _ _ _)); refine' Mine.ci_item (by k_extra "stk") (by k_extra "memd") (by k_extra "om") (by k_extra "om") (by k_extra "oml") ?_; intros))
  (k_with "subscriptTail" => ((fail_if_success (with_reducible show wpAny _ _ (subscriptTail _ (Expr.Slice _ _ _ _) _ _) _ _ _)); refine' Mine.ft_item (by k_extra "stk") (by k_extra "fts") (by k_extra "om") (by k_extra "aom") (by k_extra "om") (by k_extra "rfl") ?_; intros))
  trivial
section
/-- a list of texts that turns -/
noncomputable def LsP (ts : List Str) (o : Obj) : Prop := o.cls = .type "list" ∧ ∃ n vs, o.data = .seq vs n ∧ StrsAre vs.toList ts
theorem strsAre_set {n : Str} {t : Tok} : ∀ {vs : List Value} {ns : List Str}, StrsAre vs ns → ∀ j : Nat, StrsAre (vs.set j (.str n t)) (ns.set j n)
  | _, _, .nil, _ => .nil
  | _, _, .cons m u h, 0 => .cons _ _ h
  | _, _, .cons m u h, j + 1 => .cons _ _ (strsAre_set h j)
section
variable {w : World} {mg mb : Str → Option Value} {B : Heap} {os : OsState} {F : Facts} {s : Shared} {σ σ' : List Cell} {A : Around} {k : Nat} {E : Value → Shared → Prop} {a d m md ll it l b c e : Addr} {vs : Array Value} {v : Value} {i M : Int} {sg : Str} {R : Result → Shared → Prop} {ns ms : List Int} {ts : List Str}
theorem ls_is (x : St B os F s σ) (hm : (l, LsP ts) ∈ σ) : ∃ vs : List Value, s.heap.IsList l vs.toArray ∧ StrsAre vs ts := by
  obtain ⟨o, e, hc, n, vs, hd, h⟩ := x.wd.cell _ hm
  exact ⟨vs.toList, ⟨_, e, hc, _, by simpa using hd⟩, h⟩
theorem ls_app {y : Str} {t : Tok} {Q : Value → Shared → Prop} (x : St B os F s σ) (u : Up l (LsP ts) (LsP (ts ++ [y])) σ σ') (hz : ts.length ≤ 1000) (h : ∀ s', St B os F s' σ' → Q .none s') :
    wpAny (model prg w) A (call (.builtin "list.append") [.ref l, .str y t]) Q E s := by
  obtain ⟨o, e, hc, k, vs, hd, hi⟩ := x.wd.cell _ u.mem
  have hl : s.heap.IsList l vs := ⟨o, e, hc, k, hd⟩
  refine wpAny_list_append hl (fun h' hl' hs => ?_) (by rw [← Array.length_toList, hi.len_eq, sizeLine_eq]; omega)
  obtain ⟨o', e', hc', k', hd'⟩ := hl'
  k_extra "uq"
  exact h _ (x.with_ (x.wd.same u hs ⟨o', e', hc', _, _, hd', by rw [Array.toList_push]; exact hi.append' (.cons _ _ .nil)⟩))
theorem ls_get {y : Str} {value slice : Expr} {u : Tok} {j : Int} {Q : Value → Shared → Prop} (x : St B os F s σ) (hm : (l, LsP ts) ∈ σ) (h0 : 0 ≤ j) (hz : j ≤ 1000) (hj : ts[j.toNat]? = some y) (h : ∀ t, Q (.str y t) s)
    (hs : subscripted slice false (.ref l) (.int j u) = operate [.ref l, .int j u] (getItem (.ref l) (.int j u)) := by with_unfolding_all rfl) :
    wpAny (model prg w) A (subscriptTail value slice (.ref l) (.int j u)) Q E s := by
  obtain ⟨vs, hl, hi⟩ := ls_is x hm
  obtain ⟨t, ht⟩ := hi.get _ _ hj
  exact subTailT hl.typeIs slot_list_getitem.lookup (wpAny_getItem_list hl h0 (by omega) (by simpa using ht) (h t)) hs
theorem ls_set {y : Str} {u t : Tok} {j : Int} {Q : Unit → Shared → Prop} (x : St B os F s σ) (p : Up l (LsP ts) (LsP (ts.set j.toNat y)) σ σ') (h0 : 0 ≤ j) (hz : j < ts.length) (hz2 : ts.length ≤ 1000) (h : ∀ s', St B os F s' σ' → Q () s') :
    wpAny (model prg w) A (setItem (.ref l) (.int j u) (.str y t)) Q E s := by
  obtain ⟨o, e, hcl, k, vs, hd, hi⟩ := x.wd.cell _ p.mem
  have hl : s.heap.IsList l vs := ⟨_, e, hcl, _, hd⟩
  have hn : vs.size = ts.length := by rw [← hi.len_eq, Array.length_toList]
  refine wpAny_setItem_list hl h0 (by omega) (by rw [hn]; exact hz) fun h' hl' hs => ?_
  obtain ⟨o', e', hc, k', hd'⟩ := hl'
  k_extra "uq"
  refine h _ (x.with_ (x.wd.same p hs ⟨o', e', hc, _, _, hd', ?_⟩))
  have e4 : (vs.setIfInBounds j.toNat (Value.str y t)).toList = vs.toList.set j.toNat (Value.str y t) := by simp
  rw [e4]
  exact strsAre_set hi _
theorem ls_from {value slice : Expr} {p : Nat} {t : Tok} {Q : Value → Shared → Prop} (x : St B os F s σ) (hm : (l, LsP ts) ∈ σ) (hz : ts.length ≤ 1000) (hp : p ≤ ts.length) (h : ∀ q F' s', Le F F' → FSs F' q (ts.drop p) → St B os F' s' σ → Q (.ref q) s')
    (hs : ∀ sl, subscripted slice false (.ref l) (.ref sl) = operate [.ref sl, .ref l] (getItem (.ref l) (.ref sl)) := by intro _; with_unfolding_all rfl) :
    wpAny (model prg w) A (subscriptTail value slice (.ref l) (.ref s.heap.objs.size)) Q E { s with heap := s.heap.push { cls := .type "slice", data := .fields #[.int p t, .none, .none] } } := by
  obtain ⟨vs, hl, hi⟩ := ls_is x hm
  refine subTailT (hl.push _).typeIs slot_list_getitem.lookup (wpAny_getItem_list_slice (hl.push _) (Heap.IsSliceOf.new ..) (.int p t) .none .none (by simp) ?_ (by rw [List.size_toArray, hi.len_eq, sizeLine_eq]; omega)) (hs _)
  rw [slicePick_from _ p (by rw [List.size_toArray, hi.len_eq]; exact hp)]
  have y : St B os F { s with heap := s.heap.push { cls := .type "slice", data := .fields #[.int p t, .none, .none] } } σ := x.with_ (x.wd.grow fun b o e => Heap.get?_push_of_some _ e)
  obtain ⟨F', le, e, z⟩ := newF (o := lstO (vs.drop p)) y rfl (tk := s.toks)
  k_extra "uq"
  exact h _ F' _ le ⟨_, e, hi.drop' p⟩ z
theorem ls_run {value slice : Expr} {p r : Nat} {t u : Tok} {Q : Value → Shared → Prop} (x : St B os F s σ) (hm : (l, LsP ts) ∈ σ) (hz : ts.length ≤ 1000) (hp : p ≤ r) (hr : r ≤ ts.length) (h : ∀ q F' s', Le F F' → FSs F' q ((ts.drop p).take (r - p)) → St B os F' s' σ → Q (.ref q) s')
    (hs : ∀ sl, subscripted slice false (.ref l) (.ref sl) = operate [.ref sl, .ref l] (getItem (.ref l) (.ref sl)) := by intro _; with_unfolding_all rfl) :
    wpAny (model prg w) A (subscriptTail value slice (.ref l) (.ref s.heap.objs.size)) Q E { s with heap := s.heap.push { cls := .type "slice", data := .fields #[.int p t, .int r u, .none] } } := by
  obtain ⟨vs, hl, hi⟩ := ls_is x hm
  refine subTailT (hl.push _).typeIs slot_list_getitem.lookup (wpAny_getItem_list_slice (hl.push _) (Heap.IsSliceOf.new ..) (.int p t) (.int r u) .none (by simp) ?_ (by rw [List.size_toArray, hi.len_eq, sizeLine_eq]; omega)) (hs _)
  rw [slicePick_run _ p r (by rw [List.size_toArray, hi.len_eq]; exact hr) hp]
  have y : St B os F { s with heap := s.heap.push { cls := .type "slice", data := .fields #[.int p t, .int r u, .none] } } σ := x.with_ (x.wd.grow fun b o e => Heap.get?_push_of_some _ e)
  obtain ⟨F', le, e, z⟩ := newF (o := lstO ((vs.drop p).take (r - p))) y rfl (tk := s.toks)
  k_extra "uq"
  exact h _ F' _ le ⟨_, e, (hi.drop' p).take' (r - p)⟩ z
theorem fs_join {sep : Str} {t : Tok} {Q : Value → Shared → Prop} (x : St B os F s σ) (f : FSs F l ts) (hok : (ts.map (·.length)).sum + ts.length * sep.length ≤ 16777216) (h : ∀ t' s', St B os F s' σ → Q (.str (Txt.join sep ts) t') s') :
    wpAny (model prg w) A (call (.builtin "str.join") [.str sep t, .ref l]) Q E s := by
  obtain ⟨vs, _, hl, hi⟩ := fs_is x f
  exact PyProof.Rows.join_list hl (by simpa using hi) hok fun t' k => h t' _ x.toks
theorem ls_join {sep : Str} {t : Tok} {Q : Value → Shared → Prop} (x : St B os F s σ) (hm : (l, LsP ts) ∈ σ) (hok : (ts.map (·.length)).sum + ts.length * sep.length ≤ 16777216) (h : ∀ t' s', St B os F s' σ → Q (.str (Txt.join sep ts) t') s') :
    wpAny (model prg w) A (call (.builtin "str.join") [.str sep t, .ref l]) Q E s := by
  obtain ⟨vs, hl, hi⟩ := ls_is x hm
  exact PyProof.Rows.join_list hl (by simpa using hi) hok fun t' k => h t' _ x.toks
end
/-- the word of a number -/
theorem word_eq (r : Nat) (hr : r ≤ 5) (x : Bool) : wsB x ++ Str.ofString "f" ++ Txt.item (Str.ofString "abcdef") (r : Int) = itx (wsB x, letter r) := by
  have : ∀ (r : Fin 6) (x : Bool), wsB x ++ Str.ofString "f" ++ Txt.item (Str.ofString "abcdef") ((r.val : Nat) : Int) = itx (wsB x, letter r.val) := by decide +kernel
  exact this ⟨r, by omega⟩ x
end
section
/-- the law's words -/
noncomputable def wordsOf (it : Nat → Str × Str) (n : Nat) : List Str := (List.range n).map fun j => itx (it j)
theorem wordsOf_snoc {it : Nat → Str × Str} {n : Nat} : wordsOf it (n + 1) = wordsOf it n ++ [itx (it n)] := by simp [wordsOf, List.range_succ]
theorem wordsOf_length {it : Nat → Str × Str} {n : Nat} : (wordsOf it n).length = n := by simp [wordsOf]
theorem wordsOf_get {it : Nat → Str × Str} {n j : Nat} (h : j < n) : (wordsOf it n)[j]? = some (itx (it j)) := by simp [wordsOf, h]
theorem wordsOf_set {w : Nat} {a o : Bool} {bh n : Nat} {fs : Str} {it : Nat → Str × Str} (hit : ∀ j, j ≠ bh → it j = itN w a o j) : (wordsOf it n).set bh (itx (fs, letter (rk w (bh + 1)))) = wordsOf (itB w a o bh fs) n := by
  apply List.ext_getElem?
  intro j
  rw [List.getElem?_set]
  by_cases hj : bh = j
  · subst hj
    rw [if_pos rfl]
    by_cases hn : bh < n
    · rw [if_pos (by rw [wordsOf_length]; exact hn), wordsOf_get hn, itB_eq]
    · rw [if_neg (by rw [wordsOf_length]; exact hn), List.getElem?_eq_none (by rw [wordsOf_length]; omega)]
  · rw [if_neg hj]
    by_cases hn : j < n
    · rw [wordsOf_get hn, wordsOf_get hn, hit j (fun q => hj q.symm), itB_ne (fun q => hj q.symm)]
    · rw [List.getElem?_eq_none (by rw [wordsOf_length]; omega), List.getElem?_eq_none (by rw [wordsOf_length]; omega)]
theorem slice2 {r : Nat} (hr : r ≤ 5) (x : Bool) : Txt.slice (itx (wsB x, letter r)) (some 2) none = itx (Str.ofString "", letter r) := by
  have : ∀ (r : Fin 6) (x : Bool), Txt.slice (itx (wsB x, letter r.val)) (some 2) none = itx (Str.ofString "", letter r.val) := by decide +kernel
  exact this ⟨r, by omega⟩ x
theorem itx_len {r : Nat} (hr : r ≤ 5) (x : Bool) : (itx (wsB x, letter r)).length = 4 := by
  have : ∀ (r : Fin 6) (x : Bool), (itx (wsB x, letter r.val)).length = 4 := by decide +kernel
  exact this ⟨r, by omega⟩ x
section
variable {w : World} {mg mb : Str → Option Value} {B : Heap} {os : OsState} {F : Facts} {s : Shared} {σ σ' : List Cell} {A : Around} {k : Nat} {E : Value → Shared → Prop} {a d m md ll it l b c e : Addr} {vs : Array Value} {v : Value} {i M : Int} {sg : Str} {R : Result → Shared → Prop} {ns ms : List Int} {ts : List Str}
theorem comp_asg {env : Env} {elt iter : Expr} {x y : Str} {px py : Pos} {ifs : List Expr} {scope : Scope} {cl : List (Str × Addr)} {pos spos : Pos} {Q : Flow → Shared → Prop}
    (hsw : swapsWith (.ListComp elt [⟨.Name x px, iter, ifs, 0⟩] scope pos) (some (.Name y py)) spos.line env = pure true)
    (hclos : closureFor scope env = pure cl) (hcell : ∀ z ∈ scope.names, z.2 ≠ .cell) (hkind : scope.kind = .function) (hnames : ∀ y ∈ scope.names, y.2 = .local → scope.names.lookup y.1 = some .local)
    (h : wpAny (model prg w) A (eval iter env) (fun xv s₁ => wpAny (model prg w) A (pyIter xv) (fun itv s₂ => ∃ it F x0 n0 st σ, itv = .ref it ∧ St B os F s₂ ((it, Is (rgO x0 n0 st)) :: σ) ∧
      ∀ C D s₄, St B os F s₄ ((C, Loc []) :: (D, Is { cls := .type "list", data := .seq #[] }) :: (it, Is (rgO x0 n0 st)) :: σ) → codeAny (model prg w) A (.compLoop (.ListComp elt [⟨.Name x px, iter, ifs, 0⟩] scope pos) 0 (.ref it) (.ref D) (compEnvC scope cl C env))
        (fun r s' => r = .ok .next ∧ ∃ F' l l' l2 σ', St B os F' s' ((env.locals, Loc l') :: (C, Loc l) :: σ') ∧ Put y (.ref D) l' l2 ∧ ∀ s'', St B os F' s'' ((env.locals, Loc l2) :: σ') → Q .next s'') s₄) E s₁) E s)
    (hk : env.scope.kind = .function := by rfl) (hl : env.kindOf y = some .local := by rfl) (hs : ∀ x, foldedSetIterable iter env x = pure x := by intro _; rfl) :
    wpAny (model prg w) A (exec (.Assign [.Name y py] (.ListComp elt [⟨.Name x px, iter, ifs, 0⟩] scope pos) spos) env) Q E s := by
  rw [exec_Assign_Name_used _ _ _ _ hsw]
  refine wpAny_bind (wpAny_standAt (wpAny_bind ?_))
  show wpAny _ A (do let _ ← comprehension (.ListComp elt [⟨.Name x px, iter, ifs, 0⟩] scope pos) scope env _ (newList []) false (eval iter env) (some (assign (.Name y py) env))) _ _ s
  refine wpAny_bind (wpAny_mono (wpAny_comprehension_free (use := some (assign (.Name y py) env)) (Q := fun _ s' => Q .next s') rfl hs hclos hkind hnames (wpAny_mono h (fun xv s₁ h₁ => wpAny_mono h₁ (fun it s₂ h₂ => ?_) fun _ _ e => e) fun _ _ e => e))
    (fun _ s' hq => wpAny_pure (wpAny_pure hq)) fun _ _ e => e)
  obtain ⟨it, F, x0, n0, st', σ, rfl, z, h⟩ := h₂
  refine comp_block (RR := fun acc C => compPost (model prg w) A E (some (assign (.Name y py) env)) (fun _ s' => Q .next s') acc C) z hcell hkind fun C D s₄ y₄ => codeAny_mono (h C D s₄ y₄) fun r s' hr => ?_
  obtain ⟨rfl, F', l, l', l2, σ', z, p, hz⟩ := hr
  refine PySem.wpAny_assign_Name (st z p (fun s₂ x₂ => ?_) hk hl)
  obtain ⟨m, hn, _⟩ := x₂.wd.loc (.tail _ (.head _))
  exact ⟨m, hn, fun h' hs' => hz _ (x₂.with_ (x₂.wd.turn_drop (.tail .head) ⟨_, .tail _ (.head _)⟩ hs'.extBut))⟩
section
theorem ownM44a : True := by
  (k_with "subscriptTail" => (refine' Mine.ls_get (by k_extra "stk") (by k_extra "memd") (by omega) (by omega) (Mine.wordsOf_get (by omega)) ?_; intro _))
  (k_with "subscriptTail" => ((with_reducible show wpAny _ _ (subscriptTail _ (Expr.Slice (some _) none none _) (Value.str _ _) _) _ _ _); refine' Mine.sl_l (by k_extra "stk") (by k_extra "om") ?_; intros))
  (k_with "setItem ref int" => (refine' Mine.ls_set (by k_extra "stk") (by k_extra "up") (by omega) (by rw [Mine.wordsOf_length]; omega) (by rw [Mine.wordsOf_length]; omega) ?_; intro _ _))
  trivial
set_option maxHeartbeats 4000000 in
theorem law_b {L : Addr} {w' le bh room width head last : Nat} {wa wo : Bool} {t1 t2 t3 t4 t5 t6 t7 t8 t9 t10 t11 : Tok} {s1 s2 s3 s4 s5 s6 s7 s8 s9 s10 s11 s12 s13 s14 s15 s16 : Stmt} {rest : List Stmt} {Q : Flow → Shared → Prop} (U : Bs w mg mb B)
    (hb : fLaw.fd.body = .stmts (s1 :: s2 :: s3 :: s4 :: s5 :: s6 :: s7 :: s8 :: s9 :: s10 :: s11 :: s12 :: s13 :: s14 :: s15 :: s16 :: rest)) (r : Rm A 60)
    (hw1 : 0 < w') (hw2 : w' ≤ 2) (hbl : bh < last) (hl : last < 50)
    (c1 : CelF F (L + 1) (.int (2 ^ w' : Nat) t2)) (c2 : CelF F (L + 2) (.str (wsB wa) t3)) (c3 : CelF F (L + 3) (.str (wsB wo) t4))
    (x : St B os F s ((L, Loc [("wide", .int w' t1), ("least", .int le t5), ("signs", .str sg t6), ("behind", .int bh t7), ("room", .int room t8), ("width", .int width t9), ("head", .int head t10), ("last", .int last t11)]) :: σ))
    (h : ∀ wl F' s', Le F F' →
      St B os F' s' ((L, Loc [("wide", .int w' t1), ("least", .int le t5), ("signs", .str sg t6), ("behind", .int bh t7), ("room", .int room t8), ("width", .int width t9), ("head", .int head t10), ("last", .int last t11), ("words", .ref wl)]) :: (wl, LsP (wordsOf (itB w' wa wo bh "") last)) :: σ) →
      wpAny (model prg w) A (execs rest (callEnvC fLaw.fd L 279)) Q (fun _ _ => False) s') :
    wpAny (model prg w) A (execs (s15 :: s16 :: rest) (callEnvC fLaw.fd L 279)) Q (fun _ _ => False) s := by
  cases hb
  walk1
  refine comp_asg (B := B) (os := os) rfl rfl (by decide) rfl (by decide +kernel) ?_
  k_extra "go"
  rename St _ _ _ _ _ => xx
  refine rg_make2 (by k_extra "stk") fun rr F6 s6 le6 e6 x6 => ?_
  obtain ⟨v6, e6⟩ := e6
  rw [show ((last : Int) + 1) = ((last + 1 : Nat) : Int) from by omega] at e6
  refine rg_iter x6 e6 (small_up (a := 1) (by omega) (by omega)) fun it s7 x7 => ?_
  rw [rangeSize_up, show (((last + 1 : Nat) : Int) - 1).toNat = last from by omega] at x7
  refine ⟨it, F6, _, _, _, _, rfl, x7, fun C D s₄ x₄ => ?_⟩
  clear xx x6 x7
  refine codeAny_compLoop_list (fun n' s' => ∃ (i : Nat) (F' : Facts) (lc : List (Str × Value)), i + n' = last ∧ Le F6 F' ∧ St B os F' s' ((C, Loc lc) :: (D, LinP (wordsOf (itN w' wa wo) i)) :: (it, Is (rgO ((i : Int) + 1) n' 1)) :: (L, Loc [("wide", .int w' t1), ("least", .int le t5), ("signs", .str sg t6), ("behind", .int bh t7), ("room", .int room t8), ("width", .int width t9), ("head", .int head t10), ("last", .int last t11)]) :: σ)) ?_ last ?_ 
  · rintro n' s₈ ⟨i, F', lc, hi, le', x₈⟩
    clear x₄
    by_cases hn0 : n' = 0
    · subst hn0
      have hii : i = last := by omega
      subst hii
      refine rg_end x₈ (by k_extra "memd") (.tail (.tail .head)) r.hh (by omega) fun s₄ x₄ => ?_
      (try dsimp only)
      replace x₄ := x₄.imp (P' := LsP (wordsOf (itN w' wa wo) i)) (.tail .head) fun o ho => by obtain ⟨n, vs, rfl, hi⟩ := ho; exact ⟨rfl, _, _, rfl, hi⟩
      refine ⟨rfl, F', lc, _, _, _, x₄.front3, by k_extra "put", fun s'' x'' => ?_⟩
      clear x₈ x₄
      have hrk : rk w' (bh + 1) ≤ 5 := rk_le hw1 hw2 (by omega) (by omega)
      have e1 : Txt.slice (itx (itN w' wa wo (bh : Int).toNat)) (some 2) none = itx (Str.ofString "", letter (rk w' (bh + 1))) := by
        rw [Int.toNat_natCast]; exact slice2 hrk _
      have e2 : (itx (itN w' wa wo (bh : Int).toNat)).length = 4 := by rw [Int.toNat_natCast]; exact itx_len hrk _
      k_extra "uq"
      walk1
      repeat' ((fail_if_success (with_reducible show wpAny _ _ (execs [_, _, _, _, _, _, _, _] _) _ _ _)); first | k_extra "useQ" | walk1)
      rename St _ _ _ _ _ => xx
      rw [e1, Int.toNat_natCast, wordsOf_set fun j _ => rfl] at xx
      exact h D F' _ (le6.trans le') xx
    · refine rg_item x₈ (.tail (.tail .head)) (by omega) fun t' s₄ x₄ => ?_
      (try dsimp only)
      clear x₈
      have x₅ := x₄.weak (l' := []) (List.forall_mem_nil _)
      clear x₄
      replace c1 := (c1.le le6).le le'
      replace c2 := (c2.le le6).le le'
      replace c3 := (c3.le le6).le le'
      k_extra "go"
      rename St _ _ _ _ _ => xx
      have hp2 : 2 ^ w' ≤ 4 := by
        have : 2 ^ w' ≤ 2 ^ 2 := Nat.pow_le_pow_right (by decide) hw2
        omega
      have hp1 : 2 ≤ 2 ^ w' := by
        have : 2 ^ 1 ≤ 2 ^ w' := Nat.pow_le_pow_right (by decide) hw1
        omega
      rw [show ((i : Int) + 1) = ((i + 1 : Nat) : Int) from by omega]
      refine word_c U xx (by k_extra "rm") (by omega) (by omega) hp1 hp2 (by rw [wsB_len]; omega) (by rw [wsB_len]; omega) fun t9 F9 s9 le9 x9 => ?_
      clear xx
      have hrk : rankOf (2 ^ w') 6 (i + 1) ≤ 5 := rk_le hw1 hw2 (by omega) (by omega)
      have ew : (if 0 < rankOf (2 ^ w') 6 (i + 1) then wsB wo else wsB wa) ++ Str.ofString "f" ++ Txt.item (Str.ofString "abcdef") (rankOf (2 ^ w') 6 (i + 1)) = itx (itN w' wa wo i) := by
        unfold itN rk
        rw [← word_eq _ hrk]
        split <;> rfl
      rw [ew]
      refine lin_append x9 (.tail .head) (by rw [wordsOf_length]; omega) fun s10 x10 => ?_
      rw [← wordsOf_snoc] at x10
      rw [show ((i : Int) + 1 + 1) = ((i + 1 : Nat) : Int) + 1 from by omega, show ((n' : Int) - 1) = ((n' - 1 : Nat) : Int) from by omega] at x10
      exact ⟨n' - 1, by omega, i + 1, F9, _, by omega, le'.trans le9, x10⟩
  · refine ⟨0, F6, [], by omega, Le.refl _, ?_⟩
    have z := x₄.imp (P' := LinP []) (.tail .head) fun o ho => by cases ho; exact ⟨_, _, rfl, .nil⟩
    exact z
end
end
end
theorem backM44 : True := by
  (k_with "subscriptTail" => ((fail_if_success (with_reducible show wpAny _ _ (subscriptTail _ (Expr.Slice _ _ _ _) _ _) _ _ _)); refine' Mine.tup_itemK (by k_extra "stk") (by k_extra "fact") (by k_extra "dec") (by k_extra "rfl") (by k_extra "dec") (by k_extra "simp") (by k_extra "rfl") ?_; intros))
  (k_with "subscriptTail" => ((fail_if_success (with_reducible show wpAny _ _ (subscriptTail _ (Expr.Slice _ _ _ _) _ _) _ _ _)); refine' Mine.acc_item (by k_extra "asm") (by k_extra "stk") (by k_extra "memd") (by k_extra "rfl") (by k_extra "om") (by k_extra "om") (by k_extra "asm") ?_; intros))
  (k_with "subscriptTail" => ((with_reducible show wpAny _ _ (subscriptTail _ _ (Value.str _ _) (Value.int _ _)) _ _ _); refine' SBL.item (by k_extra "om") (by k_extra "om") (by k_extra "om") ?_; intros))
  (k_with "subscriptTail" => ((fail_if_success (with_reducible show wpAny _ _ (subscriptTail _ (Expr.Slice _ _ _ _) _ _) _ _ _)); refine' Mine.fi_item (by k_extra "stk") (by k_extra "fis") (by k_extra "om") (by k_extra "om") (by k_extra "oml") ?_; intros))
  (k_with "subscriptTail" => ((fail_if_success (with_reducible show wpAny _ _ (subscriptTail _ (Expr.Slice _ _ _ _) _ _) _ _ _)); refine' Mine.ci_item (by k_extra "stk") (by k_extra "memd") (by k_extra "om") (by k_extra "om") (by k_extra "oml") ?_; intros))
  (k_with "setItem ref int" => (refine' Mine.ci_set (by k_extra "stk") (by k_extra "up") (by k_extra "om") (by k_extra "oml") (by k_extra "oml") ?_; intros))
  (k_with "subscriptTail" => ((fail_if_success (with_reducible show wpAny _ _ (subscriptTail _ (Expr.Slice _ _ _ _) _ _) _ _ _)); refine' Mine.ft_item (by k_extra "stk") (by k_extra "fts") (by k_extra "om") (by k_extra "aom") (by k_extra "om") (by k_extra "rfl") ?_; intros))
  trivial
section
theorem cut2 {r : Fin 6} {k : Fin 4} : Txt.slice (itx (fsOf k, letter r.val)) none (some (-2)) = fsOf k ∧ Txt.slice (itx (fsOf k, letter r.val)) (some (-2)) none = letter r.val := by
  have : ∀ (r : Fin 6) (k : Fin 4), Txt.slice (itx (fsOf k, letter r.val)) none (some (-2)) = fsOf k ∧ Txt.slice (itx (fsOf k, letter r.val)) (some (-2)) none = letter r.val := by decide +kernel
  exact this r k
theorem cut_good {p : Str × Str} (h : GoodI p) : Txt.slice (itx p) none (some (-2)) = p.1 ∧ Txt.slice (itx p) (some (-2)) none = p.2 := by
  obtain ⟨r, k, rfl⟩ := h; exact cut2
theorem sg_ascii {le : Nat} {wo : Bool} (h3 : le ≤ 3) : (⟨(sgL le (if wo then 9 else 32)).toArray⟩ : Str).cps.all (· < 128) = true := by
  have : ∀ (le : Fin 4) (wo : Bool), (⟨(sgL le.val (if wo then 9 else 32)).toArray⟩ : Str).cps.all (· < 128) = true := by decide +kernel
  exact this ⟨le, by omega⟩ wo
theorem wordsOf_drop {it : Nat → Str × Str} {n b j : Nat} (h : b + j < n) : ((wordsOf it n).drop b)[j]? = some (itx (it (b + j))) := by
  rw [List.getElem?_drop, wordsOf_get h]
section
variable {w : World} {mg mb : Str → Option Value} {B : Heap} {os : OsState} {F : Facts} {s : Shared} {σ σ' : List Cell} {A : Around} {k : Nat} {E : Value → Shared → Prop} {a d m md ll it l b c e : Addr} {vs : Array Value} {v : Value} {i M : Int} {sg : Str} {R : Result → Shared → Prop} {ns ms : List Int} {ts : List Str}
theorem St.bring (l1 : List Cell) {c : Cell} (x : St B os F s (l1 ++ c :: σ)) : St B os F s (c :: (l1 ++ σ)) := x.perm List.perm_middle
section
theorem ownM45a : True := by
  (k_with "subscriptTail" => ((with_reducible show wpAny _ _ (subscriptTail _ (Expr.Slice none (some _) none _) (Value.str _ _) _) _ _ _); refine' Mine.sl_u (by k_extra "stk") (by k_extra "om") ?_; intros))
  (k_with "subscriptTail" => ((with_reducible show wpAny _ _ (subscriptTail _ (Expr.Slice (some _) none none _) (Value.str _ _) _) _ _ _); refine' Mine.sl_l (by k_extra "stk") (by k_extra "om") ?_; intros))
  trivial
set_option maxHeartbeats 4000000 in
theorem law_c {L wl : Addr} {w' le bh room width head last : Nat} {wa wo : Bool} {t1 t5 t6 t7 t8 t9 t10 t11 : Tok} {s1 s2 s3 s4 s5 s6 s7 s8 s9 s10 s11 s12 s13 s14 s15 s16 s17 s18 : Stmt} {rest : List Stmt} {Q : Flow → Shared → Prop} (U : Bs w mg mb B)
    (hb : fLaw.fd.body = .stmts (s1 :: s2 :: s3 :: s4 :: s5 :: s6 :: s7 :: s8 :: s9 :: s10 :: s11 :: s12 :: s13 :: s14 :: s15 :: s16 :: s17 :: s18 :: rest)) (r : Rm A 60)
    (hw1 : 0 < w') (hw2 : w' ≤ 2) (h3 : le ≤ 3) (hbl : bh < last) (hl : last < 50) (hhead : head ≤ 900)
    (x : St B os F s ((L, Loc [("wide", .int w' t1), ("least", .int le t5), ("signs", .str ⟨(sgL le (if wo then 9 else 32)).toArray⟩ t6), ("behind", .int bh t7), ("room", .int room t8), ("width", .int width t9), ("head", .int head t10), ("last", .int last t11), ("words", .ref wl)]) ::
      (wl, LsP (wordsOf (itB w' wa wo bh "") last)) :: (140, TabP 93 19) :: (147, TabP 96 32) :: σ))
    (h : ∀ m a d ll vs st F' s', Le F F' → Fmt F' m width ⟨(sgL le (if wo then 9 else 32)).toArray⟩ ll a → Items F' vs st.2.1 → vs.size ≤ last - bh → GoodS (last - bh) head st →
      (itsOf (itB w' wa wo bh "") bh last).foldl (stp width (sgL le (if wo then 9 else 32))) ((head : Int), [], []) = st →
      St B os F' s' ((L, Loc [("wide", .int w' t1), ("least", .int le t5), ("signs", .str ⟨(sgL le (if wo then 9 else 32)).toArray⟩ t6), ("behind", .int bh t7), ("room", .int room t8), ("width", .int width t9), ("head", .int head t10), ("last", .int last t11), ("words", .ref wl), ("maker", .ref m)]) ::
        (a, AccP vs d) :: (d, IniP st.1) :: (140, TabP 93 19) :: (147, TabP 96 32) :: (ll, LinP st.2.2) :: (wl, LsP (wordsOf (itB w' wa wo bh "") last)) :: σ) →
      wpAny (model prg w) A (execs rest (callEnvC fLaw.fd L 279)) Q (fun _ _ => False) s') :
    wpAny (model prg w) A (execs (s17 :: s18 :: rest) (callEnvC fLaw.fd L 279)) Q (fun _ _ => False) s := by
  cases hb
  walk1
  walk1
  k_extra "goe"
  rename St _ _ _ _ _ => xx
  refine fmt_new U (by k_extra "stk") (by k_extra "rm") fun m a d ll F1 s1 le1 hf x1 => ?_
  clear xx
  k_extra "goe"
  rename St _ _ _ _ _ => xx
  refine wpAny_For ?_
  k_extra "go"
  rename St _ _ _ _ _ => xy
  refine ls_from (p := bh) (by k_extra "stk") (by k_extra "memd") (by rw [wordsOf_length]; omega) (by rw [wordsOf_length]; omega) fun q F2 s2 le2 hq x2 => ?_
  clear xy
  refine ls_iter x2 hq fun it s3 x3 => ?_
  replace x3 := (((((((((x3.bring [_, _, _, _, _]).bring [_]).bring [_, _, _, _, _]).bring [_, _, _, _, _, _, _]).bring [_, _, _, _, _, _, _]).bring [_, _, _, _, _, _, _]).bring [_, _, _, _, _, _, _]).bring [_, _, _, _, _, _, _]))
  dsimp only [List.cons_append, List.nil_append] at x3
  clear x2
  refine codeAny_forLoop (fun n s' => ∃ (j : Nat) (F' : Facts) (vs : Array Value) (st : S3), j + n = last - bh ∧ Le F2 F' ∧ Items F' vs st.2.1 ∧ vs.size ≤ j ∧ GoodS j head st ∧
    (itsOf (itB w' wa wo bh "") (bh + j) last).foldl (stp width (sgL le (if wo then 9 else 32))) st = (itsOf (itB w' wa wo bh "") bh last).foldl (stp width (sgL le (if wo then 9 else 32))) ((head : Int), [], []) ∧
    St B os F' s' ((L, Loc [("wide", .int w' t1), ("least", .int le t5), ("signs", .str ⟨(sgL le (if wo then 9 else 32)).toArray⟩ t6), ("behind", .int bh t7), ("room", .int room t8), ("width", .int width t9), ("head", .int head t10), ("last", .int last t11), ("words", .ref wl), ("maker", .ref m)]) ::
        (a, AccP vs d) :: (d, IniP st.1) :: (140, TabP 93 19) :: (147, TabP 96 32) :: (ll, LinP st.2.2) :: (it, LitP q j) :: (wl, LsP (wordsOf (itB w' wa wo bh "") last)) :: σ)) ?_ (last - bh)
      ⟨0, F2, #[], ((head : Int), [], []), by omega, Le.refl _, Items.nil, Nat.le_refl _, ⟨.inl rfl, fun p hp => by (cases hp), Nat.le_refl _, fun h => absurd h (Nat.lt_irrefl _), Nat.le_refl _, fun p hp => by (cases hp)⟩, rfl, x3⟩
  clear x3
  rintro n s4 ⟨j, F4, vs, ⟨ini, its, ts⟩, hjn, le4, hi, hvs, hg, hrun, x4⟩
  dsimp only at hi hg hrun x4
  by_cases hn0 : n = 0
  · refine ls_end x4 (hq.le le4) (by k_extra "memd") (.tail (.tail (.tail (.tail (.tail (.tail .head)))))) r.hh (by rw [List.length_drop, wordsOf_length]; omega) fun s5 x5 => ?_
    (try dsimp only)
    clear x4
    rw [itsOf_nil (by omega), List.foldl_nil] at hrun
    refine wpAny_execs_nil ?_
    have hjj : j = last - bh := by omega
    subst hjj
    (try dsimp only)
    k_extra "uq"
    exact h m a d ll vs (ini, its, ts) F4 _ ((le1.trans le2).trans le4) (hf.le (le2.trans le4)) hi hvs hg hrun.symm x5
  · refine ls_item x4 (hq.le le4) (.tail (.tail (.tail (.tail (.tail (.tail .head)))))) (wordsOf_drop (show bh + j < last by omega)) fun t' s5 x5 => ?_
    (try dsimp only)
    clear x4
    have hgd := good_itB (w := w') (j := bh + j) (bh := bh) (a := wa) (o := wo) (fs := Str.ofString "") hw1 hw2 (by omega) (.inl rfl)
    have hlen : (itx (itB w' wa wo bh (Str.ofString "") (bh + j))).length ≤ 4 := good_itx hgd
    obtain ⟨q1, q2⟩ := cut_good hgd
    k_extra "go"
    rename St _ _ _ _ _ => xx
    rw [q1, q2]
    have hall : ∀ q ∈ its ++ [((itB w' wa wo bh (Str.ofString "") (bh + j)).1, (itB w' wa wo bh (Str.ofString "") (bh + j)).2)], GoodI q := fun q hq => by
      rcases List.mem_append.mp hq with hq | hq
      · exact hg.its q hq
      · rw [List.mem_singleton] at hq; subst hq; exact hgd
    have hini : 0 ≤ ini ∧ ini ≤ 1000 := by
      rcases hg.ini with e | e <;> (dsimp only at e; omega)
    have hts := hg.ts
    dsimp only at hts
    refine chunk_c U (hf.le (le2.trans le4)) (by first | exact xx | exact xx.toks) (by k_extra "rm") hi (fun q hq => Nat.le_trans (good_len (hall q hq)) (by omega)) (by omega) hini.1 hini.2 (sg_ascii h3) (by omega) (fun p hp => good_ne (hg.its p hp)) (fun p hp => good_lay (hg.its p hp)) fun vs' F6 s6 le6 hi6 hvs6 x6 => ?_
    clear xx
    (try dsimp only)
    k_extra "uq"
    refine wpAny_execs_nil ?_
    (try dsimp only)
    exact ⟨n - 1, by omega, j + 1, F6, vs', stp width (sgL le (if wo then 9 else 32)) (ini, its, ts) (itB w' wa wo bh (Str.ofString "") (bh + j)), by omega, le4.trans le6, hi6, by omega, hg.step hgd, by
      rw [← hrun, itsOf_cons (show bh + j < last by omega), List.foldl_cons]; rfl, x6.weak (by k_extra "reloc")⟩
end
end
end
theorem backM45 : True := by
  (k_with "subscriptTail" => ((fail_if_success (with_reducible show wpAny _ _ (subscriptTail _ (Expr.Slice _ _ _ _) _ _) _ _ _)); refine' Mine.tup_itemK (by k_extra "stk") (by k_extra "fact") (by k_extra "dec") (by k_extra "rfl") (by k_extra "dec") (by k_extra "simp") (by k_extra "rfl") ?_; intros))
  (k_with "subscriptTail" => ((fail_if_success (with_reducible show wpAny _ _ (subscriptTail _ (Expr.Slice _ _ _ _) _ _) _ _ _)); refine' Mine.acc_item (by k_extra "asm") (by k_extra "stk") (by k_extra "memd") (by k_extra "rfl") (by k_extra "om") (by k_extra "om") (by k_extra "asm") ?_; intros))
  (k_with "subscriptTail" => ((with_reducible show wpAny _ _ (subscriptTail _ _ (Value.str _ _) (Value.int _ _)) _ _ _); refine' SBL.item (by k_extra "om") (by k_extra "om") (by k_extra "om") ?_; intros))
  (k_with "subscriptTail" => ((fail_if_success (with_reducible show wpAny _ _ (subscriptTail _ (Expr.Slice _ _ _ _) _ _) _ _ _)); refine' Mine.fi_item (by k_extra "stk") (by k_extra "fis") (by k_extra "om") (by k_extra "om") (by k_extra "oml") ?_; intros))
  (k_with "subscriptTail" => ((fail_if_success (with_reducible show wpAny _ _ (subscriptTail _ (Expr.Slice _ _ _ _) _ _) _ _ _)); refine' Mine.ci_item (by k_extra "stk") (by k_extra "memd") (by k_extra "om") (by k_extra "om") (by k_extra "oml") ?_; intros))
  (k_with "subscriptTail" => ((fail_if_success (with_reducible show wpAny _ _ (subscriptTail _ (Expr.Slice _ _ _ _) _ _) _ _ _)); refine' Mine.ft_item (by k_extra "stk") (by k_extra "fts") (by k_extra "om") (by k_extra "aom") (by k_extra "om") (by k_extra "rfl") ?_; intros))
  trivial
section
section
variable {w : World} {mg mb : Str → Option Value} {B : Heap} {os : OsState} {F : Facts} {s : Shared} {σ σ' : List Cell} {A : Around} {k : Nat} {E : Value → Shared → Prop} {a d m md ll it l b c e : Addr} {vs : Array Value} {v : Value} {i M : Int} {sg : Str} {R : Result → Shared → Prop} {ns ms : List Int} {ts : List Str}
theorem mx2 {a b : Int} {t u : Tok} {Q : Value → Shared → Prop} (x : St B os F s σ) (hh : A.handled = none) (h : ∀ t' s', St B os F s' σ → Q (.int (max a b) t') s') : wpAny (model prg w) A (call (.builtin "max") [.int a t, .int b u]) Q E s := by
  refine max_two_ints hh fun h' tk hk => ?_
  have y : St B os F { s with heap := h', toks := tk } σ := x.with_ (x.wd.grow hk)
  by_cases hb : b > a
  · rw [if_pos hb]
    have := h u _ y
    rwa [show max a b = b from by omega] at this
  · rw [if_neg hb]
    have := h t _ y
    rwa [show max a b = a from by omega] at this
section
theorem ownM46a : True := by
  (k_with "call builtin:max" => (refine' Mine.mx2 (by k_extra "stk") (by k_extra "asm") ?_; intros))
  (k_with "subscriptTail" => ((with_reducible show wpAny _ _ (subscriptTail _ (Expr.Slice (some _) (some _) none _) (Value.ref _) _) _ _ _); refine' Mine.ls_run (by k_extra "stk") (by k_extra "memd") (by k_extra "asm") (by k_extra "om") (by k_extra "asm") ?_; intros))
  (k_with "call builtin:str.join" => (refine' Mine.fs_join (by k_extra "stk") (by k_extra "asm") (by k_extra "asm") ?_; intros))
  trivial
set_option maxHeartbeats 4000000 in
theorem law_f {L wl rl : Addr} {w' le b0 room h0 last l1 e0 : Nat} {t1 t2 t3 t4 t5 t6 t7 t8 : Tok} {W rows : List Str} {s1 s2 s3 s4 s5 s6 s7 s8 s9 s10 s11 s12 s13 s14 s15 s16 s17 s18 s19 s20 s21 s22 : Stmt} {b1 b2 b3 : Stmt} {body orelse rest : List Stmt} {test : Expr} {wpos : Pos} {Q : Flow → Shared → Prop} (U : Bs w mg mb B)
    (hb : fLaw.fd.body = .stmts (s1 :: s2 :: s3 :: s4 :: s5 :: s6 :: s7 :: s8 :: s9 :: s10 :: s11 :: s12 :: s13 :: s14 :: s15 :: s16 :: s17 :: s18 :: s19 :: s20 :: s21 :: s22 :: .While test (b1 :: b2 :: b3 :: body) orelse wpos :: rest)) (hh : A.handled = none)
    (hbe : b0 < e0) (hel : e0 ≤ W.length) (hW : W.length ≤ 1000) (hz : ((W.drop b0).take (e0 - b0)).length ≤ 100) (hok : (((W.drop b0).take (e0 - b0)).map (·.length)).sum + ((W.drop b0).take (e0 - b0)).length * (Str.ofString "").length ≤ 16777216) (hrw : rows.length ≤ 900)
    (x : St B os F s ((L, Loc [("wide", .int w' t1), ("least", .int le t2), ("behind", .int b0 t3), ("room", .int room t4), ("head", .int h0 t5), ("last", .int last t6), ("words", .ref wl), ("maker", .ref m), ("rows", .ref rl), ("limit", .int l1 t7), ("end", .int e0 t8)]) ::
      (rl, LinP rows) :: (wl, LsP W) :: σ))
    (h : ∀ (u1 u2 u3 : Tok) F' s', Le F F' → St B os F' s' ((L, Loc [("wide", .int w' t1), ("least", .int le t2), ("behind", .int e0 u1), ("room", .int room t4), ("head", .int (0 : Nat) u2), ("last", .int last t6), ("words", .ref wl), ("maker", .ref m), ("rows", .ref rl), ("limit", .int (max (e0 + room) (l1 + 1) : Nat) u3)]) ::
      (rl, LinP (rows ++ [Txt.join "" ((W.drop b0).take (e0 - b0))])) :: (wl, LsP W) :: σ) → Q .next s') :
    wpAny (model prg w) A (execs body (callEnvC fLaw.fd L 279)) Q E s := by
  cases hb
  k_extra "go"
  · exfalso; omega
  · rename St _ _ _ _ _ => xx
    rw [show max ((e0 : Int) + room) ((l1 : Int) + 1) = ((max (e0 + room) (l1 + 1) : Nat) : Int) from by omega] at xx
    k_extra "uq"
    refine h _ _ _ _ _ ?le (xx.weak (by k_extra "reloc"))
    case le => k_extra "le"
end
end
end
theorem backM46 : True := by
  (k_with "subscriptTail" => ((fail_if_success (with_reducible show wpAny _ _ (subscriptTail _ (Expr.Slice _ _ _ _) _ _) _ _ _)); refine' Mine.tup_itemK (by k_extra "stk") (by k_extra "fact") (by k_extra "dec") (by k_extra "rfl") (by k_extra "dec") (by k_extra "simp") (by k_extra "rfl") ?_; intros))
  (k_with "subscriptTail" => ((fail_if_success (with_reducible show wpAny _ _ (subscriptTail _ (Expr.Slice _ _ _ _) _ _) _ _ _)); refine' Mine.acc_item (by k_extra "asm") (by k_extra "stk") (by k_extra "memd") (by k_extra "rfl") (by k_extra "om") (by k_extra "om") (by k_extra "asm") ?_; intros))
  (k_with "subscriptTail" => ((with_reducible show wpAny _ _ (subscriptTail _ _ (Value.str _ _) (Value.int _ _)) _ _ _); refine' SBL.item (by k_extra "om") (by k_extra "om") (by k_extra "om") ?_; intros))
  (k_with "subscriptTail" => ((fail_if_success (with_reducible show wpAny _ _ (subscriptTail _ (Expr.Slice _ _ _ _) _ _) _ _ _)); refine' Mine.fi_item (by k_extra "stk") (by k_extra "fis") (by k_extra "om") (by k_extra "om") (by k_extra "oml") ?_; intros))
  (k_with "subscriptTail" => ((fail_if_success (with_reducible show wpAny _ _ (subscriptTail _ (Expr.Slice _ _ _ _) _ _) _ _ _)); refine' Mine.ci_item (by k_extra "stk") (by k_extra "memd") (by k_extra "om") (by k_extra "om") (by k_extra "oml") ?_; intros))
  (k_with "subscriptTail" => ((fail_if_success (with_reducible show wpAny _ _ (subscriptTail _ (Expr.Slice _ _ _ _) _ _) _ _ _)); refine' Mine.ft_item (by k_extra "stk") (by k_extra "fts") (by k_extra "om") (by k_extra "aom") (by k_extra "om") (by k_extra "rfl") ?_; intros))
  trivial
section
theorem endS_bnd {b l w le : Nat} (hbl : b < l) (hl : l < 40) (hw1 : 0 < w) (hw2 : w ≤ 2) : b < endS b l w le ∧ endS b l w le ≤ l := by
  have hE := ends hbl hl hw1 hw2
  have h1 := hE.fro
  have h2 := hE.k0
  have h3 : l / 2 ^ (w * plS w b l 5) * 2 ^ (w * plS w b l 5) ≤ l := Nat.div_mul_le_self _ _
  have h4 : b < 2 ^ (w * plS w b l 5) * (b / 2 ^ (w * plS w b l 5) + apart b l w (plS w b l 5)) := by
    have q : b < 2 ^ (w * plS w b l 5) * (b / 2 ^ (w * plS w b l 5) + 1) := by
      have := Nat.lt_mul_div_succ b (Nat.pow_pos (n := w * plS w b l 5) (show 0 < 2 by decide))
      exact this
    exact Nat.lt_of_lt_of_le q (Nat.mul_le_mul_left _ (by omega))
  unfold endS
  split
  · omega
  · split <;> omega
section
variable {w : World} {mg mb : Str → Option Value} {B : Heap} {os : OsState} {F : Facts} {s : Shared} {σ σ' : List Cell} {A : Around} {k : Nat} {E : Value → Shared → Prop} {a d m md ll it l b c e : Addr} {vs : Array Value} {v : Value} {i M : Int} {sg : Str} {R : Result → Shared → Prop} {ns ms : List Int} {ts : List Str}
structure SliceOk (W : List Str) : Prop where
  len : W.length ≤ 100
  each : ∀ x ∈ W, x.length ≤ 10
theorem SliceOk.sum {W : List Str} (h : SliceOk W) (p n : Nat) : ((W.drop p).take n).length ≤ 100 ∧ (((W.drop p).take n).map (·.length)).sum + ((W.drop p).take n).length * (Str.ofString "").length ≤ 16777216 := by
  have h1 : ((W.drop p).take n).length ≤ 100 := by have := h.len; simp; omega
  have h2 := StrLaws.sumLen_le ((W.drop p).take n) (B := 10) fun y hy => h.each y (List.mem_of_mem_drop (List.mem_of_mem_take hy))
  have h3 : (Str.ofString "").length = 0 := by decide
  refine ⟨h1, ?_⟩
  rw [h3]
  omega
section
set_option maxHeartbeats 4000000 in
theorem law_g {F0 F1 : Facts} {L wl rl : Addr} {w' le b0 room h0 last l1 : Nat} {t1 t2 t3 t4 t5 t6 t7 : Tok} {W rows : List Str} {s1 s2 s3 s4 s5 s6 s7 s8 s9 s10 s11 s12 s13 s14 s15 s16 s17 s18 s19 s20 s21 s22 : Stmt} {b1 b2 b3 : Stmt} {body orelse rest : List Stmt} {test : Expr} {wpos : Pos} {Q : Flow → Shared → Prop} (U : Bs w mg mb B)
    (hb : fLaw.fd.body = .stmts (s1 :: s2 :: s3 :: s4 :: s5 :: s6 :: s7 :: s8 :: s9 :: s10 :: s11 :: s12 :: s13 :: s14 :: s15 :: s16 :: s17 :: s18 :: s19 :: s20 :: s21 :: s22 :: .While test (b1 :: b2 :: b3 :: body) orelse wpos :: rest)) (r : Rm A 70)
    (hw1 : 0 < w') (hw2 : w' ≤ 2) (hle : le ≤ 3) (hl40 : last < 40) (hbl : b0 < last) (hbl1 : b0 < l1) (hW : SliceOk W) (hWl : W.length = last) (hrw : rows.length ≤ 900)
    (x : St B os F s ((L, Loc [("wide", .int w' t1), ("least", .int le t2), ("behind", .int b0 t3), ("room", .int room t4), ("head", .int h0 t5), ("last", .int last t6), ("words", .ref wl), ("maker", .ref m), ("rows", .ref rl), ("limit", .int l1 t7)]) ::
      (rl, LinP rows) :: (wl, LsP W) :: (184, TabQ F0 113 4 "_int2digits.<locals>.inner") :: (191, TabQ F1 128 4 "_digits2int.<locals>.inner") :: σ)) (le0 : Le F0 F) (le1 : Le F1 F)
    (h : ∀ (e0 : Nat) (u1 u2 u3 : Tok) F' s', e0 = (if l1 < last then endS b0 l1 w' le else last) → Le F F' → St B os F' s' ((L, Loc [("wide", .int w' t1), ("least", .int le t2), ("behind", .int e0 u1), ("room", .int room t4), ("head", .int (0 : Nat) u2), ("last", .int last t6), ("words", .ref wl), ("maker", .ref m), ("rows", .ref rl), ("limit", .int (max (e0 + room) (l1 + 1) : Nat) u3)]) ::
      (rl, LinP (rows ++ [Txt.join "" ((W.drop b0).take (e0 - b0))])) :: (wl, LsP W) :: (184, TabQ F' 113 4 "_int2digits.<locals>.inner") :: (191, TabQ F' 128 4 "_digits2int.<locals>.inner") :: σ) → Q .next s') :
    wpAny (model prg w) A (execs (b2 :: b3 :: body) (callEnvC fLaw.fd L 279)) Q E s := by
  cases hb
  walk1
  walk1
  k_extra "goe"
  repeat' ((fail_if_success (with_reducible show wpAny _ _ (call (.ref 274) _) _ _ _)); (fail_if_success (with_reducible show wpAny _ _ (execs [_, _, _, _, _] _) _ _ _)); first | k_extra "useQ" | walk1 | (dsimp only; walk1))
  · rename ((l1 : Int) < last) => hlt
    rename St _ _ _ _ _ => xx
    replace xx := ((xx.bring [_, _, _, _]).bring [_, _, _, _]).bring [_, _]
    dsimp only [List.cons_append, List.nil_append] at xx
    refine end_c U xx le0 le1 (by k_extra "rm") hbl1 (by omega) hw1 hw2 (by omega) fun tE F5 s5 le5 x5 => ?_
    clear xx
    replace x5 := ((x5.bring [_, _, _, _]).bring [_, _, _, _]).bring [_, _]
    dsimp only [List.cons_append, List.nil_append] at x5
    obtain ⟨g1, g2⟩ := endS_bnd (le := le) hbl1 (show l1 < 40 by omega) hw1 hw2
    generalize hE : endS b0 l1 w' le = e0 at *
    repeat' ((fail_if_success (with_reducible show wpAny _ _ (execs [_, _, _, _, _] _) _ _ _)); first | k_extra "useQ" | walk1 | (dsimp only; walk1))
    rename St _ _ _ _ _ => xx
    have hs := hW.sum b0 (e0 - b0)
    refine law_f (e0 := e0) (l1 := l1) U rfl r.hh (by omega) (by omega) (by have := hW.len; omega) hs.1 hs.2 hrw (xx.weak (by k_extra "reloc")) fun u1 u2 u3 F6 s6 le6 x6 => ?_
    refine h e0 u1 u2 u3 F6 s6 (by rw [if_pos (by omega)]) (le5.trans le6) ((x6.imp (.tail (.tail (.tail .head))) fun o ho => ho.le le6).imp (.tail (.tail (.tail (.tail .head)))) fun o ho => ho.le le6)
  · rename (¬ (l1 : Int) < last) => hlt
    (try dsimp only)
    k_extra "uq"
    rename St _ _ _ _ _ => xx
    have hs := hW.sum b0 (last - b0)
    refine law_f (e0 := last) (l1 := l1) U rfl r.hh (by omega) (by omega) (by have := hW.len; omega) hs.1 hs.2 hrw (xx.weak (by k_extra "reloc")) fun u1 u2 u3 F6 s6 le6 x6 => ?_
    refine h last u1 u2 u3 F6 s6 (by rw [if_neg (by omega)]) le6 ((x6.imp (.tail (.tail (.tail .head))) fun o ho => ho.le (le0.trans le6)).imp (.tail (.tail (.tail (.tail .head)))) fun o ho => ho.le (le1.trans le6))
end
end
end
section
theorem words_run {it : Nat → Str × Str} {n b e : Nat} (he : e ≤ n) : ((wordsOf it n).drop b).take (e - b) = (itsOf it b e).map itx := by
  apply List.ext_getElem?
  intro j
  rw [List.getElem?_take, List.getElem?_drop, List.getElem?_map, itsOf_get?]
  by_cases hj : j < e - b
  · rw [if_pos hj, if_pos hj, wordsOf_get (by omega)]; rfl
  · rw [if_neg hj, if_neg hj]; rfl
theorem words_ok {w n bh : Nat} {a o : Bool} {fs : Str} (hw : 0 < w) (hw2 : w ≤ 2) (hn : n < 50) (hfs : fs = Str.ofString "" ∨ fs = Str.ofString " ") : SliceOk (wordsOf (itB w a o bh fs) n) := by
  refine ⟨by rw [wordsOf_length]; omega, fun x hx => ?_⟩
  obtain ⟨j, hj, rfl⟩ := List.mem_map.mp hx
  have hj := List.mem_range.mp hj
  exact Nat.le_trans (good_itx (good_itB hw hw2 (by omega) hfs)) (by omega)
section
variable {w : World} {mg mb : Str → Option Value} {B : Heap} {os : OsState} {F : Facts} {s : Shared} {σ σ' : List Cell} {A : Around} {k : Nat} {E : Value → Shared → Prop} {a d m md ll it l b c e : Addr} {vs : Array Value} {v : Value} {i M : Int} {sg : Str} {R : Result → Shared → Prop} {ns ms : List Int} {ts : List Str}
section
theorem ownM48a : True := by
  (k_with "call builtin:max" => (refine' Mine.mx2 (by k_extra "stk") (by k_extra "rhh") ?_; intros))
  trivial
set_option maxHeartbeats 4000000 in
theorem law_w {F0 F1 : Facts} {L wl rl : Addr} {w' le0 bh b0 room h0 last l0 width : Nat} {wa wo : Bool} {fin : S3} {fs : Str} {t1 t2 t3 t4 t5 t6 t7 tb : Tok} {rows : List Str} {s1 s2 s3 s4 s5 s6 s7 s8 s9 s10 s11 s12 s13 s14 s15 s16 s17 s18 s19 s20 s21 s22 : Stmt} {body orelse rest : List Stmt} {test : Expr} {wpos : Pos} {Q : Flow → Shared → Prop} (U : Bs w mg mb B)
    (hb : fLaw.fd.body = .stmts (s1 :: s2 :: s3 :: s4 :: s5 :: s6 :: s7 :: s8 :: s9 :: s10 :: s11 :: s12 :: s13 :: s14 :: s15 :: s16 :: s17 :: s18 :: s19 :: s20 :: s21 :: s22 :: .While test body orelse wpos :: rest)) (r : Rm A 75)
    (hw1 : 0 < w') (hw2 : w' ≤ 2) (h1 : 0 < le0) (h3 : le0 ≤ 3) (hr2 : 2 ≤ room) (hr : room ≤ 8) (hM1 : 4 * room ≤ width) (hM2 : width < 4 * room + 4) (hl38 : last < 38) (hbl : b0 < last) (hrw : rows.length ≤ b0 + 1) (hfs : fs = Str.ofString "" ∨ fs = Str.ofString " ")
    (hI : Inv w' wa wo bh last width le0 fin b0 l0 h0 rows fs) (c1 : CelF F (L + 1) (.int (2 ^ w' : Nat) tb))
    (x : St B os F s ((L, Loc [("wide", .int w' t1), ("least", .int (if wa = wo then 0 else le0 : Nat) t2), ("behind", .int b0 t3), ("room", .int room t4), ("head", .int h0 t5), ("last", .int last t6), ("words", .ref wl), ("maker", .ref m), ("rows", .ref rl), ("limit", .int l0 t7)]) ::
      (rl, LinP rows) :: (wl, LsP (wordsOf (itB w' wa wo bh fs) last)) :: (184, TabQ F0 113 4 "_int2digits.<locals>.inner") :: (191, TabQ F1 128 4 "_digits2int.<locals>.inner") :: σ)) (lf0 : Le F0 F) (lf1 : Le F1 F)
    (h : ∀ F' s', Le F F' → St B os F' s' ((L, Loc [("maker", .ref m), ("rows", .ref rl)]) :: (rl, LinP (fin.2.2 ++ [accText fin.2.1])) :: (wl, LsP (wordsOf (itB w' wa wo bh fs) last)) :: (184, TabQ F' 113 4 "_int2digits.<locals>.inner") :: (191, TabQ F' 128 4 "_digits2int.<locals>.inner") :: σ) → Q .next s') :
    wpAny (model prg w) A (exec (.While test body orelse wpos) (callEnvC fLaw.fd L 279)) Q (fun _ _ => False) s := by
  cases hb
  refine wpAny_While (codeAny_whileLoop (fun n' s' => ∃ (b l h : Nat) (rows : List Str) (u1 u2 u3 : Tok) (F' : Facts), n' = last - b ∧ b ≤ last ∧ (b < last → Inv w' wa wo bh last width le0 fin b l h rows fs) ∧ (b = last → rows = fin.2.2 ++ [accText fin.2.1]) ∧ rows.length ≤ b + 1 ∧ Le F F' ∧
      St B os F' s' ((L, Loc [("wide", .int w' t1), ("least", .int (if wa = wo then 0 else le0 : Nat) t2), ("behind", .int b u1), ("room", .int room t4), ("head", .int h u2), ("last", .int last t6), ("words", .ref wl), ("maker", .ref m), ("rows", .ref rl), ("limit", .int l u3)]) ::
      (rl, LinP rows) :: (wl, LsP (wordsOf (itB w' wa wo bh fs) last)) :: (184, TabQ F' 113 4 "_int2digits.<locals>.inner") :: (191, TabQ F' 128 4 "_digits2int.<locals>.inner") :: σ)) ?_ (last - b0)
      ⟨b0, l0, h0, rows, t3, t5, t7, F, rfl, by omega, fun _ => hI, fun q => by omega, hrw, Le.refl _, (x.imp (.tail (.tail (.tail .head))) fun o ho => ho.le lf0).imp (.tail (.tail (.tail (.tail .head)))) fun o ho => ho.le lf1⟩)
  clear x lf0 lf1 hI hrw hbl
  rintro n' s2 ⟨b, l, h', rows', u1, u2, u3, F2, rfl, hbl, hI, hfin, hrw, le2, x2⟩
  replace c1 := c1.le le2
  generalize hlst : (if wa = wo then 0 else le0) = lst at *
  have hlst3 : lst ≤ 3 := by rw [← hlst]; split <;> omega
  have hbs : 0 < 2 ^ w' := Nat.pow_pos (by decide)
  have efd : Int.fdiv (b : Int) ((2 ^ w' : Nat) : Int) = ((b / 2 ^ w' : Nat) : Int) := by rw [Int.fdiv_eq_ediv_of_nonneg _ (by omega)]; rfl
  have hbs4 : 2 ^ w' ≤ 2 ^ 2 := Nat.pow_le_pow_right (by decide) hw2
  generalize hbsE : 2 ^ w' = bs at c1 hbs efd hbs4
  k_extra "goe"
  · rename ((b : Int) < last) => hlt
    have hbl' : b < last := by omega
    have I := hI hbl'
    repeat' ((fail_if_success (with_reducible show wpAny _ _ (execs [_, _, _, _, _, _, _] _) _ _ _)); first | k_extra "useQ" | walk1 | (dsimp only; walk1))
    all_goals
      (try dsimp only)
      rename St _ _ _ _ _ => xx
    · rename ((h' : Int) = 0) => hh0
      rename ((lst : Int) = 0) => hl0
      have hl1 : max l (b / bs * bs + bs) = if h' = 0 ∧ wa = wo then max l (b / 2 ^ w' * 2 ^ w' + 2 ^ w') else l := by
        have q : wa = wo := by
          by_cases q : wa = wo
          · exact q
          · rw [if_neg q] at hlst; omega
        rw [hbsE, if_pos ⟨by omega, q⟩]
      have em : ((b / bs : Nat) : Int) * (bs : Int) = ((b / bs * bs : Nat) : Int) := (Int.natCast_mul _ _).symm
      rw [efd, em, show max (l : Int) (((b / bs * bs : Nat) : Int) + (bs : Int)) = ((max l (b / bs * bs + bs) : Nat) : Int) from by omega] at xx
      generalize max l (b / bs * bs + bs) = l1 at *
      have hbl1 : b < l1 := by
        have := I.bl
        rw [hl1]; split <;> omega
      refine law_g (l1 := l1) (le := lst) U rfl (by k_extra "rm") hw1 hw2 (by omega) (by omega) hbl' hbl1 (words_ok hw1 hw2 (by omega) hfs) wordsOf_length (by omega) (xx.weak (by k_extra "reloc")) (Le.refl _) (Le.refl _) fun e0 v1 v2 v3 F6 s6 he0 le6 x6 => ?_
      obtain ⟨k1, k2, k3, k4⟩ := step_inv (e := e0) hw1 hw2 h1 h3 hr2 hr hM1 hM2 hl38 hbl' I hl1 (by rw [hlst]; exact he0)
      rw [show Txt.join (Str.ofString "") (((wordsOf (itB w' wa wo bh fs) last).drop b).take (e0 - b)) = accText (itsOf (itB w' wa wo bh fs) b e0) from by rw [words_run k2]; rfl] at x6
      (try dsimp only)
      exact ⟨last - e0, by omega, e0, max (e0 + room) (l1 + 1), 0, _, v1, v2, v3, F6, rfl, k2, k4, fun q => (k3 q).symm, by rw [List.length_append, List.length_singleton]; omega, le2.trans le6, x6⟩
    · rename ((lst : Int) ≠ 0) => hl0
      have hl1 : l = if h' = 0 ∧ wa = wo then max l (b / 2 ^ w' * 2 ^ w' + 2 ^ w') else l := by
        rw [if_neg fun q => ?_]
        rw [if_pos q.2] at hlst; omega
      have hbl1 : b < l := by
        have := I.bl
        exact this
      refine law_g (l1 := l) (le := lst) U rfl (by k_extra "rm") hw1 hw2 (by omega) (by omega) hbl' hbl1 (words_ok hw1 hw2 (by omega) hfs) wordsOf_length (by omega) (xx.weak (by k_extra "reloc")) (Le.refl _) (Le.refl _) fun e0 v1 v2 v3 F6 s6 he0 le6 x6 => ?_
      obtain ⟨k1, k2, k3, k4⟩ := step_inv (e := e0) hw1 hw2 h1 h3 hr2 hr hM1 hM2 hl38 hbl' I hl1 (by rw [hlst]; exact he0)
      rw [show Txt.join (Str.ofString "") (((wordsOf (itB w' wa wo bh fs) last).drop b).take (e0 - b)) = accText (itsOf (itB w' wa wo bh fs) b e0) from by rw [words_run k2]; rfl] at x6
      (try dsimp only)
      exact ⟨last - e0, by omega, e0, max (e0 + room) (l + 1), 0, _, v1, v2, v3, F6, rfl, k2, k4, fun q => (k3 q).symm, by rw [List.length_append, List.length_singleton]; omega, le2.trans le6, x6⟩
    · rename ((h' : Int) ≠ 0) => hl0
      have hl1 : l = if h' = 0 ∧ wa = wo then max l (b / 2 ^ w' * 2 ^ w' + 2 ^ w') else l := by
        rw [if_neg fun q => by omega]
      have hbl1 : b < l := by
        have := I.bl
        exact this
      refine law_g (l1 := l) (le := lst) U rfl (by k_extra "rm") hw1 hw2 (by omega) (by omega) hbl' hbl1 (words_ok hw1 hw2 (by omega) hfs) wordsOf_length (by omega) (xx.weak (by k_extra "reloc")) (Le.refl _) (Le.refl _) fun e0 v1 v2 v3 F6 s6 he0 le6 x6 => ?_
      obtain ⟨k1, k2, k3, k4⟩ := step_inv (e := e0) hw1 hw2 h1 h3 hr2 hr hM1 hM2 hl38 hbl' I hl1 (by rw [hlst]; exact he0)
      rw [show Txt.join (Str.ofString "") (((wordsOf (itB w' wa wo bh fs) last).drop b).take (e0 - b)) = accText (itsOf (itB w' wa wo bh fs) b e0) from by rw [words_run k2]; rfl] at x6
      (try dsimp only)
      exact ⟨last - e0, by omega, e0, max (e0 + room) (l + 1), 0, _, v1, v2, v3, F6, rfl, k2, k4, fun q => (k3 q).symm, by rw [List.length_append, List.length_singleton]; omega, le2.trans le6, x6⟩
  · rename (¬ (b : Int) < last) => hlt
    (try dsimp only)
    have hbe : b = last := by omega
    rw [hfin hbe] at x2
    k_extra "uq"
    exact h F2 _ le2 (x2.weak (by k_extra "reloc"))
end
end
end
section
theorem good_pos {p : Str × Str} (h : GoodI p) : 0 < p.1.length + p.2.length := by
  obtain ⟨r, k, rfl⟩ := h
  have : ∀ (r : Fin 6) (k : Fin 4), 0 < (fsOf k).length + (letter r.val).length := by decide +kernel
  exact this r k
theorem tot_pos {its : List (Str × Str)} (hne : its ≠ []) (hg : ∀ p ∈ its, GoodI p) : 0 < tot its := by
  cases its with
  | nil => exact absurd rfl hne
  | cons p r => rw [tot_cons]; have := good_pos (hg p List.mem_cons_self); omega
theorem lines_ok {n : Nat} {i0 : Int} {st : S3} (h : GoodS n i0 st) (hn : n < 60) : ((st.2.2 ++ [accText st.2.1]).map (·.length)).sum + (st.2.2 ++ [accText st.2.1]).length * (Str.ofString "\n").length ≤ 16777216 := by
  have h1 := StrLaws.sumLen_le (st.2.2 ++ [accText st.2.1]) (B := 240) fun y hy => by
    rcases List.mem_append.mp hy with hy | hy
    · have := h.tl y hy; omega
    · rw [List.mem_singleton] at hy; subst hy
      have := acc_len_le h.its
      have := h.len
      omega
  have h2 : (Str.ofString "\n").length = 1 := by decide
  have h3 := h.ts
  rw [List.length_append, List.length_singleton] at h1 ⊢
  rw [h2]
  omega
section
variable {w : World} {mg mb : Str → Option Value} {B : Heap} {os : OsState} {F : Facts} {s : Shared} {σ σ' : List Cell} {A : Around} {k : Nat} {E : Value → Shared → Prop} {a d m md ll it l b c e : Addr} {vs : Array Value} {v : Value} {i M : Int} {sg : Str} {R : Result → Shared → Prop} {ns ms : List Int} {ts : List Str}
theorem ls_join' {sep : Str} {t : Tok} {Q : Value → Shared → Prop} (x : St B os F s σ) (hm : (l, LinP ts) ∈ σ) (hok : (ts.map (·.length)).sum + ts.length * sep.length ≤ 16777216) (h : ∀ t' s', St B os F s' σ → Q (.str (Txt.join sep ts) t') s') :
    wpAny (model prg w) A (call (.builtin "str.join") [.str sep t, .ref l]) Q E s := by
  obtain ⟨o, e, n, us, rfl, hs⟩ := x.wd.cell _ hm
  exact PyProof.Rows.join_list (items := us) ⟨_, e, rfl, _, rfl⟩ hs hok fun t' k => h t' _ x.toks
/-- the ledger at the end -/
structure Fine (B : Heap) (os : OsState) (s : Shared) : Prop where
  is : ∃ F F0 F1 σ, St B os F s σ ∧ (140, TabP 93 19) ∈ σ ∧ (147, TabP 96 32) ∈ σ ∧ (184, TabQ F0 113 4 "_int2digits.<locals>.inner") ∈ σ ∧ (191, TabQ F1 128 4 "_digits2int.<locals>.inner") ∈ σ
section
set_option maxHeartbeats 4000000 in
theorem law_e {F0 F1 : Facts} {L wl rl : Addr} {w' le0 bh room h0 last l0 width head n : Nat} {wa wo : Bool} {fin : S3} {fs : Str} {t1 t2 t3 t4 t5 t6 t7 tb : Tok} {rows : List Str} {s1 s2 s3 s4 s5 s6 s7 s8 s9 s10 s11 s12 s13 s14 s15 s16 s17 s18 s19 s20 s21 s22 s23 s24 : Stmt} {Q : Flow → Shared → Prop} (U : Bs w mg mb B)
    (hb : fLaw.fd.body = .stmts [s1, s2, s3, s4, s5, s6, s7, s8, s9, s10, s11, s12, s13, s14, s15, s16, s17, s18, s19, s20, s21, s22, s23, s24]) (r : Rm A 75)
    (hw1 : 0 < w') (hw2 : w' ≤ 2) (h1 : 0 < le0) (h3 : le0 ≤ 3) (hr2 : 2 ≤ room) (hr : room ≤ 8) (hM1 : 4 * room ≤ width) (hM2 : width < 4 * room + 4) (hl38 : last < 38) (hbl : bh < last) (hrw : rows.length ≤ bh + 1) (hfs : fs = Str.ofString "" ∨ fs = Str.ofString " ")
    (hI : Inv w' wa wo bh last width le0 fin bh l0 h0 rows fs) (c1 : CelF F (L + 1) (.int (2 ^ w' : Nat) tb))
    (hf : Fmt F m width sg ll a) (hi : Items F vs fin.2.1) (hvs : vs.size ≤ 60) (hg : GoodS n head fin) (hn : n < 60) (hn0 : 0 < n) (hhead : head ≤ 900)
    (x : St B os F s ((L, Loc [("wide", .int w' t1), ("least", .int (if wa = wo then 0 else le0 : Nat) t2), ("behind", .int bh t3), ("room", .int room t4), ("head", .int h0 t5), ("last", .int last t6), ("words", .ref wl), ("maker", .ref m), ("rows", .ref rl), ("limit", .int l0 t7)]) ::
      (rl, LinP rows) :: (wl, LsP (wordsOf (itB w' wa wo bh fs) last)) :: (184, TabQ F0 113 4 "_int2digits.<locals>.inner") :: (191, TabQ F1 128 4 "_digits2int.<locals>.inner") ::
      (a, AccP vs d) :: (d, IniP fin.1) :: (140, TabP 93 19) :: (147, TabP 96 32) :: (ll, LinP fin.2.2) :: σ)) (lf0 : Le F0 F) (lf1 : Le F1 F)
    (h : ∀ s', Fine B os s' → Q (.ret (.bool true)) s') :
    wpAny (model prg w) A (execs [s23, s24] (callEnvC fLaw.fd L 279)) Q (fun _ _ => False) s := by
  cases hb
  walk1
  refine law_w U rfl r hw1 hw2 h1 h3 hr2 hr hM1 hM2 hl38 hbl hrw hfs hI c1 x lf0 lf1 fun F2 s2 le2 x2 => ?_
  clear x
  (try dsimp only)
  have hini : 0 ≤ fin.1 ∧ fin.1 ≤ 1000 := by
    rcases hg.ini with e | e <;> omega
  have hne := hg.ne hn0
  have hok := lines_ok hg hn
  have hts := hg.ts
  replace hf := hf.le le2
  replace hi := hi.le le2
  k_extra "go"
  rename St _ _ _ _ _ => xx
  clear x2
  replace xx := (((((xx.bring [_, _, _, _, _, _, _, _, _]).bring [_, _, _, _, _, _, _, _, _]).bring [_, _, _, _, _, _, _, _, _]).bring [_, _, _, _, _, _, _, _, _]).bring [_, _, _, _, _, _, _, _, _]).bring [_, _, _, _, _]
  dsimp only [List.cons_append, List.nil_append] at xx
  refine str_m U hf xx (by k_extra "rm") hi (fun p hp => Nat.le_trans (good_len (hg.its p hp)) (by omega)) (by omega) hini.1 hini.2 (by have := tot_pos hne hg.its; omega) (fun _ => acc_nospace hne hg.its) (fun p hp => good_ne (hg.its p hp)) (fun p hp => good_lay (hg.its p hp)) (by omega) hok fun t' F6 s6 le6 x6 => ?_
  clear xx
  k_extra "go"
  rename St _ _ _ _ _ => xx
  refine ls_join' xx (by k_extra "memd") hok fun t'' s7 x7 => ?_
  clear xx x6
  k_extra "go"
  rw [beq_self_eq_true]
  k_extra "uq"
  refine ⟨F6, F2, F2, _, x7, ?_, ?_, ?_, ?_⟩
  · k_extra "memd"
  · k_extra "memd"
  · k_extra "memd"
  · k_extra "memd"
end
end
end
section
section
variable {w : World} {mg mb : Str → Option Value} {B : Heap} {os : OsState} {F : Facts} {s : Shared} {σ σ' : List Cell} {A : Around} {k : Nat} {E : Value → Shared → Prop} {a d m md ll it l b c e : Addr} {vs : Array Value} {v : Value} {i M : Int} {sg : Str} {R : Result → Shared → Prop} {ns ms : List Int} {ts : List Str}
section
theorem ownM50a : True := by
  (k_with "newList" => (refine' Mine.lstC (by k_extra "stk") (by k_extra "simp") ?_; intros))
  (k_with "subscriptTail" => (refine' Mine.ls_get (by k_extra "stk") (by k_extra "memd") (by omega) (by omega) (Mine.wordsOf_get (by omega)) ?_; intro _))
  (k_with "setItem ref int" => (refine' Mine.ls_set (by k_extra "stk") (by k_extra "up") (by omega) (by rw [Mine.wordsOf_length]; omega) (by rw [Mine.wordsOf_length]; omega) ?_; intro _ _))
  (k_with "binaryOp Add str str" => (refine' PyProof.Rows.SBL.add ?_ (by rw [sizeLine_eq]; omega); intro _ _ _))
  trivial
set_option maxHeartbeats 4000000 in
theorem law_d2 {F0 F1 : Facts} {L wl : Addr} {w' le0 lst bh room head last width : Nat} {wa wo : Bool} {fin : S3} {t1 t2 t3 t4 t5 t6 t8 tb : Tok} {s1 s2 s3 s4 s5 s6 s7 s8 s9 s10 s11 s12 s13 s14 s15 s16 s17 s18 s19 s20 s21 s22 s23 s24 : Stmt} {Q : Flow → Shared → Prop} (U : Bs w mg mb B)
    (hb : fLaw.fd.body = .stmts [s1, s2, s3, s4, s5, s6, s7, s8, s9, s10, s11, s12, s13, s14, s15, s16, s17, s18, s19, s20, s21, s22, s23, s24]) (r : Rm A 75)
    (hw1 : 0 < w') (hw2 : w' ≤ 2) (h1 : 0 < le0) (h3 : le0 ≤ 3) (hr2 : 2 ≤ room) (hr : room ≤ 8) (hM1 : 4 * room ≤ width) (hM2 : width < 4 * room + 4) (hl38 : last < 38) (hfl : bh + room + 1 ≤ last) (hhd : head ≤ width + 1)
    (hlst : lst = if wa = wo then 0 else le0)
    (hrun : (itsOf (itB w' wa wo bh (Str.ofString "")) bh last).foldl (stp width (sgL le0 (if wo then 9 else 32))) ((head : Int), [], []) = fin) (c1 : CelF F (L + 1) (.int (2 ^ w' : Nat) tb))
    (hf : Fmt F m width sg ll a) (hi : Items F vs fin.2.1) (hvs : vs.size ≤ 60) (hg : GoodS (last - bh) head fin)
    (x : St B os F s ((L, Loc [("wide", .int w' t1), ("least", .int lst t2), ("behind", .int bh t3), ("room", .int room t4), ("width", .int width t8), ("head", .int head t5), ("last", .int last t6), ("words", .ref wl), ("maker", .ref m)]) ::
      (wl, LsP (wordsOf (itB w' wa wo bh (Str.ofString "")) last)) :: (184, TabQ F0 113 4 "_int2digits.<locals>.inner") :: (191, TabQ F1 128 4 "_digits2int.<locals>.inner") ::
      (a, AccP vs d) :: (d, IniP fin.1) :: (140, TabP 93 19) :: (147, TabP 96 32) :: (ll, LinP fin.2.2) :: σ)) (lf0 : Le F0 F) (lf1 : Le F1 F)
    (h : ∀ s', Fine B os s' → Q (.ret (.bool true)) s') :
    wpAny (model prg w) A (execs [s20, s21, s22, s23, s24] (callEnvC fLaw.fd L 279)) Q (fun _ _ => False) s := by
  cases hb
  walk1
  walk1
  k_extra "goe"
  rename St _ _ _ _ _ => xx
  replace xx := xx.imp (P' := LinP []) (.tail .head) fun o ho => by cases ho; exact ⟨_, _, rfl, .nil⟩
  clear x
  have efd : Int.fdiv ((width : Int) - head + 2) 4 = (((width + 2 - head) / 4 : Nat) : Int) := by rw [Int.fdiv_eq_ediv_of_nonneg _ (by omega)]; omega
  walk1
  k_extra "goe"
  rename St _ _ _ _ _ => xx
  rw [efd, show ((bh : Int) + (((width + 2 - head) / 4 : Nat) : Int)) = ((bh + (width + 2 - head) / 4 : Nat) : Int) from by omega] at xx
  have hrk : rk w' (bh + 1) ≤ 5 := rk_le hw1 hw2 (by omega) (by omega)
  have eit : itB w' wa wo bh (Str.ofString "") (bh : Int).toNat = (Str.ofString "", letter (rk w' (bh + 1))) := by rw [Int.toNat_natCast, itB_eq]
  have hlen : (itx (itB w' wa wo bh (Str.ofString "") (bh : Int).toNat)).length ≤ 4 := by rw [Int.toNat_natCast]; exact good_itx (good_itB hw1 hw2 (by omega) (.inl rfl))
  have hl1 : (Str.ofString " ").length = 1 := by decide
  have efd2 : Int.fdiv ((width : Int) + 1) 4 = (((width + 1) / 4 : Nat) : Int) := by rw [Int.fdiv_eq_ediv_of_nonneg _ (by omega)]; rfl
  generalize hll0 : bh + (width + 2 - head) / 4 = l0 at xx
  repeat' ((fail_if_success (with_reducible show wpAny _ _ (execs [Stmt.While _ _ _ _, _] _) _ _ _)); first | k_extra "useQ" | walk1 | (dsimp only; walk1))
  · rename ((l0 : Int) ≤ bh) => hle0
    rename St _ _ _ _ _ => xx
    refine lin_append (ts := []) xx (.tail .head) (by decide) fun s3 x3 => ?_
    rw [List.nil_append] at x3
    clear xx
    (try dsimp only)
    repeat' ((fail_if_success (with_reducible show wpAny _ _ (execs [Stmt.While _ _ _ _, _] _) _ _ _)); first | k_extra "useQ" | walk1 | (dsimp only; walk1))
    (try dsimp only)
    rename St _ _ _ _ _ => xx
    rw [eit, bump_word hrk, Int.toNat_natCast, wordsOf_set fun j hj => itB_ne hj, efd2, show ((bh : Int) + (((width + 1) / 4 : Nat) : Int)) = ((bh + (width + 1) / 4 : Nat) : Int) from by omega, hlst] at xx
    have I := inv_bump (le := le0) hr2 hr hM1 hM2 hhd (show bh < last by omega) (by rw [hll0]; omega) hfl hrun
    refine law_e (h0 := 0) (rows := [Str.ofString ""]) U rfl r hw1 hw2 h1 h3 hr2 hr hM1 hM2 hl38 (by omega) (by simp) (.inr rfl) I c1 hf hi hvs hg (by omega) (by omega) (by omega) (xx.weak (by k_extra "reloc")) lf0 lf1 h
  · rename (¬ (l0 : Int) ≤ bh) => hle0
    rename St _ _ _ _ _ => xx
    (try dsimp only)
    rw [hlst] at xx
    have I := inv_first (le := le0) hr2 hr hM1 hM2 hhd (show bh < last by omega) (by rw [hll0]; omega) hfl hrun
    rw [hll0] at I
    refine law_e (rows := []) U rfl r hw1 hw2 h1 h3 hr2 hr hM1 hM2 hl38 (by omega) (by simp) (.inl rfl) I c1 hf hi hvs hg (by omega) (by omega) (by omega) (xx.weak (by k_extra "reloc")) lf0 lf1 h
end
end
end
theorem backM50 : True := by
  (k_with "newList" => (refine' Mine.lstF (by k_extra "stk") (by k_extra "simp") ?_; intros))
  (k_with "subscriptTail" => ((fail_if_success (with_reducible show wpAny _ _ (subscriptTail _ (Expr.Slice _ _ _ _) _ _) _ _ _)); refine' Mine.tup_itemK (by k_extra "stk") (by k_extra "fact") (by k_extra "dec") (by k_extra "rfl") (by k_extra "dec") (by k_extra "simp") (by k_extra "rfl") ?_; intros))
  (k_with "subscriptTail" => ((fail_if_success (with_reducible show wpAny _ _ (subscriptTail _ (Expr.Slice _ _ _ _) _ _) _ _ _)); refine' Mine.acc_item (by k_extra "asm") (by k_extra "stk") (by k_extra "memd") (by k_extra "rfl") (by k_extra "om") (by k_extra "om") (by k_extra "asm") ?_; intros))
  (k_with "subscriptTail" => ((with_reducible show wpAny _ _ (subscriptTail _ _ (Value.str _ _) (Value.int _ _)) _ _ _); refine' SBL.item (by k_extra "om") (by k_extra "om") (by k_extra "om") ?_; intros))
  (k_with "binaryOp Add str str" => (refine' PyProof.Rows.SBL.add ?_ (by rw [sizeLine_eq]; have hlen_f : (Str.ofString "f").length = 1 := (by decide); omega); intro _ _ _))
  (k_with "newList" => ((with_reducible show wpAny _ _ (newList []) _ _ _); refine' Mine.lstE (by k_extra "stk") ?_; intros))
  (k_with "subscriptTail" => ((fail_if_success (with_reducible show wpAny _ _ (subscriptTail _ (Expr.Slice _ _ _ _) _ _) _ _ _)); refine' Mine.fi_item (by k_extra "stk") (by k_extra "fis") (by k_extra "om") (by k_extra "om") (by k_extra "oml") ?_; intros))
  (k_with "subscriptTail" => ((fail_if_success (with_reducible show wpAny _ _ (subscriptTail _ (Expr.Slice _ _ _ _) _ _) _ _ _)); refine' Mine.ci_item (by k_extra "stk") (by k_extra "memd") (by k_extra "om") (by k_extra "om") (by k_extra "oml") ?_; intros))
  (k_with "setItem ref int" => (refine' Mine.ci_set (by k_extra "stk") (by k_extra "up") (by k_extra "om") (by k_extra "oml") (by k_extra "oml") ?_; intros))
  (k_with "subscriptTail" => ((fail_if_success (with_reducible show wpAny _ _ (subscriptTail _ (Expr.Slice _ _ _ _) _ _) _ _ _)); refine' Mine.ft_item (by k_extra "stk") (by k_extra "fts") (by k_extra "om") (by k_extra "aom") (by k_extra "om") (by k_extra "rfl") ?_; intros))
  trivial
section
theorem drw_list {D : List Int} {m : Int} (h : Drw D m) : ∃ N0 N1 N2 N3 N4 N5 : Nat, D = [(N0 : Int), N1, N2, N3, N4, N5] := by
  obtain ⟨hl, hb⟩ := h
  match D, hl with
  | [a, b, c, d, e, f], _ =>
    have h0 : 0 ≤ a := (hb 0 (by decide)).1
    have h1 : 0 ≤ b := (hb 1 (by decide)).1
    have h2 : 0 ≤ c := (hb 2 (by decide)).1
    have h3 : 0 ≤ d := (hb 3 (by decide)).1
    have h4 : 0 ≤ e := (hb 4 (by decide)).1
    have h5 : 0 ≤ f := (hb 5 (by decide)).1
    exact ⟨a.toNat, b.toNat, c.toNat, d.toNat, e.toNat, f.toNat, by rw [Int.toNat_of_nonneg h0, Int.toNat_of_nonneg h1, Int.toNat_of_nonneg h2, Int.toNat_of_nonneg h3, Int.toNat_of_nonneg h4, Int.toNat_of_nonneg h5]⟩
section
variable {w : World} {mg mb : Str → Option Value} {B : Heap} {os : OsState} {F : Facts} {s : Shared} {σ σ' : List Cell} {A : Around} {k : Nat} {E : Value → Shared → Prop} {a d m md ll it l b c e : Addr} {vs : Array Value} {v : Value} {i M : Int} {sg : Str} {R : Result → Shared → Prop} {ns ms : List Int} {ts : List Str}
section
set_option maxHeartbeats 4000000 in
theorem law_d {F0 F1 : Facts} {L wl : Addr} {w' le0 bh room head last width : Nat} {wa wo : Bool} {fin : S3} {t1 t2 t3 t4 t5 t6 t7 t8 tb ta to : Tok} {s1 s2 s3 s4 s5 s6 s7 s8 s9 s10 s11 s12 s13 s14 s15 s16 s17 s18 s19 s20 s21 s22 s23 s24 : Stmt} {Q : Flow → Shared → Prop} (U : Bs w mg mb B)
    (hb : fLaw.fd.body = .stmts [s1, s2, s3, s4, s5, s6, s7, s8, s9, s10, s11, s12, s13, s14, s15, s16, s17, s18, s19, s20, s21, s22, s23, s24]) (r : Rm A 75)
    (hw1 : 0 < w') (hw2 : w' ≤ 2) (h1 : 0 < le0) (h3 : le0 ≤ 3) (hr2 : 2 ≤ room) (hr : room ≤ 8) (hM1 : 4 * room ≤ width) (hM2 : width < 4 * room + 4) (hl38 : last < 38) (hfl : bh + room + 1 ≤ last) (hhd : head ≤ width + 1)
    (hrun : (itsOf (itB w' wa wo bh (Str.ofString "")) bh last).foldl (stp width (sgL le0 (if wo then 9 else 32))) ((head : Int), [], []) = fin)
    (c1 : CelF F (L + 1) (.int (2 ^ w' : Nat) tb)) (c2 : CelF F (L + 2) (.str (wsB wa) ta)) (c3 : CelF F (L + 3) (.str (wsB wo) to))
    (hf : Fmt F m width sg ll a) (hi : Items F vs fin.2.1) (hvs : vs.size ≤ 60) (hg : GoodS (last - bh) head fin)
    (x : St B os F s ((L, Loc [("wide", .int w' t1), ("least", .int le0 t2), ("signs", .str sg t7), ("behind", .int bh t3), ("room", .int room t4), ("width", .int width t8), ("head", .int head t5), ("last", .int last t6), ("words", .ref wl), ("maker", .ref m)]) ::
      (a, AccP vs d) :: (d, IniP fin.1) :: (140, TabP 93 19) :: (147, TabP 96 32) :: (ll, LinP fin.2.2) ::
      (wl, LsP (wordsOf (itB w' wa wo bh (Str.ofString "")) last)) :: (184, TabQ F0 113 4 "_int2digits.<locals>.inner") :: (191, TabQ F1 128 4 "_digits2int.<locals>.inner") :: σ)) (lf0 : Le F0 F) (lf1 : Le F1 F)
    (h : ∀ s', Fine B os s' → Q (.ret (.bool true)) s') :
    wpAny (model prg w) A (execs [s19, s20, s21, s22, s23, s24] (callEnvC fLaw.fd L 279)) Q (fun _ _ => False) s := by
  cases hb
  replace x := (((x.bring [_, _, _, _, _, _, _, _]).bring [_, _, _, _, _, _, _, _]).bring [_, _, _, _, _, _, _, _]).bring [_, _, _]
  dsimp only [List.cons_append, List.nil_append] at x
  repeat' ((fail_if_success (with_reducible show wpAny _ _ (execs [_, _, _, _, _] _) _ _ _)); first | k_extra "useQ" | walk1 | (dsimp only; walk1))
  · rename (_ = true) => hq
    rw [wsB_beq, decide_eq_true_eq] at hq
    rename St _ _ _ _ _ => xx
    (try dsimp only)
    refine law_d2 (lst := 0) U rfl r hw1 hw2 h1 h3 hr2 hr hM1 hM2 hl38 hfl hhd (by rw [if_pos hq]) hrun c1 hf hi hvs hg (xx.weak (by k_extra "reloc")) lf0 lf1 h
  · rename (_ = false) => hq
    rw [wsB_beq, decide_eq_false_iff_not] at hq
    (try dsimp only)
    refine law_d2 (lst := le0) U rfl r hw1 hw2 h1 h3 hr2 hr hM1 hM2 hl38 hfl hhd (by rw [if_neg hq]) hrun c1 hf hi hvs hg (x.weak (by k_extra "reloc")) lf0 lf1 h
set_option maxHeartbeats 4000000 in
theorem law_all {F0 F1 : Facts} {L : Addr} {xs : List Int} {body : List Stmt} {Q : Flow → Shared → Prop} (U : Bs w mg mb B)
    (hb : fLaw.fd.body = .stmts body) (r : Rm A 75) (f : FIs F l xs) (hz : xs.length ≤ 63)
    (x : St B os F s ((L, Loc [("script", .ref l)]) :: (L + 3, Cel none) :: (L + 2, Cel none) :: (L + 1, Cel none) :: (140, TabP 93 19) :: (147, TabP 96 32) :: (184, TabQ F0 113 4 "_int2digits.<locals>.inner") :: (191, TabQ F1 128 4 "_digits2int.<locals>.inner") :: [])) (lf0 : Le F0 F) (lf1 : Le F1 F)
    (h : ∀ s', Fine B os s' → Q (.ret (.bool true)) s') :
    wpAny (model prg w) A (execs body (callEnvC fLaw.fd L 279)) Q (fun _ _ => False) s := by
  cases hb
  refine law_0 U rfl r.hh x f hz fun ld F2 s2 le2 hd x2 => ?_
  obtain ⟨N0, N1, N2, N3, N4, N5, hN⟩ := drw_list hd
  rw [hN] at x2
  refine law_a U rfl r.hh x2 fun w' le bh room width head last wa wo t1 t2 t3 t4 t5 t6 t7 t8 t9 t10 t11 F3 s3 k1 k2 k3 k4 k5 k6 k7 k8 k9 k10 k11 k12 le3 c1 c2 c3 x3 => ?_
  refine law_b U rfl (by k_extra "rm") k1 k2 (by omega) (by omega) c1 c2 c3 x3 fun wl F4 s4 le4 x4 => ?_
  refine law_c U rfl (by k_extra "rm") k1 k2 k4 (by omega) (by omega) (by omega) x4 fun m a d ll vs st F5 s5 le5 hf hi hvs hg hrun x5 => ?_
  exact law_d U rfl r k1 k2 k3 k4 k6 k7 k8 k9 (by omega) k11 k10 hrun ((c1.le le4).le le5) ((c2.le le4).le le5) ((c3.le le4).le le5) hf hi (by omega) hg x5 (lf0.trans (le2.trans (le3.trans (le4.trans le5)))) (lf1.trans (le2.trans (le3.trans (le4.trans le5)))) h
end
end
end
section
section
variable {w : World} {mg mb : Str → Option Value} {B : Heap} {os : OsState} {F : Facts} {s : Shared} {σ σ' : List Cell} {A : Around} {k : Nat} {E : Value → Shared → Prop} {a d m md ll it l b c e : Addr} {vs : Array Value} {v : Value} {i M : Int} {sg : Str} {R : Result → Shared → Prop} {ns ms : List Int} {ts : List Str}
theorem law_call {F0 F1 : Facts} {xs : List Int} (U : Bs w mg mb B) (r : Rm A 76) (f : FIs F l xs) (hz : xs.length ≤ 63)
    (x : St B os F s ((140, TabP 93 19) :: (147, TabP 96 32) :: (184, TabQ F0 113 4 "_int2digits.<locals>.inner") :: (191, TabQ F1 128 4 "_digits2int.<locals>.inner") :: [])) (lf0 : Le F0 F) (lf1 : Le F1 F)
    (h : ∀ s', Fine B os s' → R (.ok (.ret (.bool true))) s') :
    codeAny (model prg w) A (.call (.ref 279) ⟨[.ref l], []⟩) R s := by
  refine' enterK fLaw (binds := [("script", .ref l)]) (lb := [("script", .ref l)]) (nc := fun L => [(L + 3, Cel none), (L + 2, Cel none), (L + 1, Cel none)]) U x r rfl rfl rfl ?k1 ?k2 ?k3 ?k4 ?_ rfl rfl rfl
  case k1 => intro n y hy; simp only [List.mem_cons, List.not_mem_nil, or_false] at hy; subst hy; exact .inl rfl
  case k2 => decide +kernel
  case k3 => exact fun L => List.forall_mem_cons.mpr ⟨rfl, List.forall_mem_nil _⟩
  case k4 => exact fun L => rfl
  intro L s₁ x₁ r₁
  dsimp only [List.cons_append, List.nil_append] at x₁
  exact law_all U rfl r₁ f hz x₁ lf0 lf1 fun s' z => h s' z
end
theorem codeHd_at {w : World} {h : Heap} {c P : Addr} (X : (Mine.frag0.heap_1 w.params).In h) (hcP : CodeAt c P) (hne : c ≠ P) : CodeHd h c P := by
  obtain ⟨od, osl, fv, file, tf, flags, tg, inF, text, tt, e1, e2, e3, e4, e5, e6, e7⟩ := hcP w.params
  exact ⟨_, fv, file, tf, flags, tg, inF, text, tt, X _ _ e1, rfl, rfl, e2, e3, e4, e5, e6, e7, hne⟩
noncomputable abbrev tabs4 : List (Addr × Addr) := [(144, 140), (151, 147), (188, 184), (195, 191)]
theorem tabs_at {w : World} {h : Heap} (X : (Mine.frag0.heap_1 w.params).In h) (t : ∀ P ∈ [140, 147, 191, 184], h.get? P = some (tabObj #[])) : TabsAt tabs4 h := by
  intro q hq
  simp only [tabs4, List.mem_cons, List.not_mem_nil, or_false] at hq
  rcases hq with rfl | rfl | rfl | rfl
  · exact ⟨codeHd_at X cLen (by decide), t _ (by simp)⟩
  · exact ⟨codeHd_at X cStr (by decide), t _ (by simp)⟩
  · exact ⟨codeHd_at X cInt2 (by decide), t _ (by simp)⟩
  · exact ⟨codeHd_at X cDig2 (by decide), t _ (by simp)⟩
theorem base_bs {w : World} {h : Heap} {p : Program} {loose : List Str} {mean : ExcName → Option Value} {mg mb : Str → Option Value} (X : (Mine.frag0.heap_1 w.params).In h) (hT : TabsAt tabs4 h) (T : Top p loose mean mg mb h) : Bs w mg mb (ghostOf h tabs4) where
  X := ghost_K hT X (by kernel_rfl)
  g := ghost_ns hT T.g
  b := ghost_ns hT T.b
  nolimit := let ⟨mc, a, r⟩ := T.nolimit; ⟨mc, ghost_ns hT a, r⟩
  builtins := T.builtins
  nodigits := let ⟨mc, a, r⟩ := T.nodigits; ⟨mc, ghost_ns hT a, r⟩
  bmain := let ⟨bm, ob, e1, e2, e3, e4, e5, e6⟩ := T.bmain; ⟨bm, ob, e1, e2, ghost_get hT e3 (fun q => by rw [q] at e4; cases e4), e4, e5, e6⟩
theorem base_st {h : Heap} {s : Shared} (hs : s.heap = h) (hT : TabsAt tabs4 h) (hg : s.gens = #[]) :
    St (ghostOf h tabs4) s.os (fun a => (ghostOf h tabs4).get? a) s ((140, TabP 93 19) :: (147, TabP 96 32) :: (184, TabQ (fun a => (ghostOf h tabs4).get? a) 113 4 "_int2digits.<locals>.inner") :: (191, TabQ (fun a => (ghostOf h tabs4).get? a) 128 4 "_digits2int.<locals>.inner") :: []) := by
  subst hs
  refine ⟨⟨fun _ _ e => e, fun a o e => of_hideAll _ e, fun p hp => ?_, fun p hp => ?_, (show [140, 147, 184, 191].Nodup by decide)⟩, fun y hy => by rw [hg] at hy; simp at hy, rfl⟩
  · simp only [List.mem_cons, List.not_mem_nil, or_false] at hp
    rcases hp with rfl | rfl | rfl | rfl
    · exact ⟨_, (hT (144, 140) (by simp [tabs4])).2, .inl rfl⟩
    · exact ⟨_, (hT (151, 147) (by simp [tabs4])).2, .inl rfl⟩
    · exact ⟨_, (hT (188, 184) (by simp [tabs4])).2, .inl rfl⟩
    · exact ⟨_, (hT (195, 191) (by simp [tabs4])).2, .inl rfl⟩
  · simp only [List.mem_cons, List.not_mem_nil, or_false] at hp
    rcases hp with rfl | rfl | rfl | rfl <;> exact hideAll_none _ (by simp [tabs4])
theorem tab_is {F : Facts} {s' : Shared} {B : Heap} {os : OsState} {σ : List Cell} {P : Addr} {q : Obj → Prop} (x : St B os F s' σ) (hm : (P, q) ∈ σ) (hq : ∀ o, q o → ∃ ps, o = tabObj ps) : ∃ ps, s'.heap.get? P = some (tabObj ps) := by
  obtain ⟨o, e, h⟩ := x.wd.cell _ hm
  obtain ⟨ps, rfl⟩ := hq o h
  exact ⟨ps, e⟩
theorem tabP_is {ln cl : Nat} {o : Obj} (h : TabP ln cl o) : ∃ ps, o = tabObj ps := by
  rcases h with rfl | ⟨c', rfl⟩ <;> exact ⟨_, rfl⟩
theorem tabQ_is {F : Facts} {ln cl : Nat} {q : Str} {o : Obj} (h : TabQ F ln cl q o) : ∃ ps, o = tabObj ps := by
  rcases h with rfl | ⟨c', oc, vs, t, rfl, _⟩ <;> exact ⟨_, rfl⟩
theorem fine_old {h : Heap} {os : OsState} {s' : Shared} (hT : TabsAt tabs4 h) (f : Fine (ghostOf h tabs4) os s') : OldK h s'.heap := by
  obtain ⟨F, F0, F1, σ, x, m1, m2, m3, m4⟩ := f
  have keep : ∀ b o, b ∉ tabs4.map (·.2) → h.get? b = some o → s'.heap.get? b = some o := fun b o hb e => x.wd.old (ghost_ne e hb)
  have grown : ∀ b o, b ∈ tabs4.map (·.2) → h.get? b = some o → isCodeTable h b ∧ o = tabObj #[] ∧ ∃ ps, s'.heap.get? b = some (tabObj ps) := fun b o hb e => by
    obtain ⟨q, hq, rfl⟩ := List.mem_map.mp hb
    have e2 := (hT q hq).2
    rw [e] at e2
    refine ⟨((hT q hq).1.tab (hT q hq).2).isCodeTable, Option.some.inj e2, ?_⟩
    simp only [tabs4, List.mem_cons, List.not_mem_nil, or_false] at hq
    rcases hq with rfl | rfl | rfl | rfl
    · exact tab_is x m1 fun o => tabP_is
    · exact tab_is x m2 fun o => tabP_is
    · exact tab_is x m3 fun o => tabQ_is
    · exact tab_is x m4 fun o => tabQ_is
  refine ⟨fun b o e => ?_, fun b o e => ?_⟩
  · by_cases hb : b ∈ tabs4.map (·.2)
    · obtain ⟨ht, rfl, ps, hP⟩ := grown b o hb e
      exact .inr (.inl ⟨ht, rfl, #[], ps, rfl, by rw [Array.empty_append]; exact hP⟩)
    · exact .inl (keep b o hb e)
  · by_cases hb : b ∈ tabs4.map (·.2)
    · obtain ⟨_, _, ps, hP⟩ := grown b o hb e
      exact ⟨_, hP⟩
    · exact ⟨o, keep b o hb e⟩
theorem rm_caller : Rm callerA 76 := ⟨rfl, by decide, by decide⟩
end
section
local macro_rules | `(tactic| o_head (kmHook $k $a $p $ts)) => do
    match ts with
    | `(191 :: $_) => `(tactic| o_head (kmHook frag0.heap_1 $a $p (140 :: 147 :: $ts)))
    | _ => Lean.Macro.throwUnsupported
/- the names of twins that the head would lay in law_holds: taken, so that it lays none (they are not needed, and large) -/
theorem law_holds.tw8441880690091102137 : True := trivial
theorem law_holds.tw9423440377400516374 : True := trivial
theorem law_holds.tw11803358882649189518 : True := trivial
theorem law_holds.tw15191720212996534143 : True := trivial
theorem law_holds.tw18326849912455186884 : True := trivial
theorem law_holds.tw8634839017697508684 : True := trivial
theorem law_holds.tw14497384708736915567 : True := trivial
theorem law_holds.tw3850375180904979519 : True := trivial
theorem law_holds.tw11625900857008200698 : True := trivial
theorem law_holds.tw15472126771306010800 : True := trivial
theorem law_holds.tw7120836010843673076 : True := trivial
theorem law_holds.tw14498155544194170393 : True := trivial
theorem law_holds.tw13154458805202713791 : True := trivial
theorem law_holds.tw14774650325386425613 : True := trivial
theorem law_holds.tw6869992995446874880 : True := trivial
theorem law_holds.tw15274831704391544125 : True := trivial
theorem law_holds.tw8549365171731915398 : True := trivial
theorem law_holds.tw1622690429015379626 : True := trivial
theorem law_holds.tw15150646450996357022 : True := trivial
theorem law_holds.tw2644310842459337959 : True := trivial
theorem law_holds.tw4030767218360268280 : True := trivial
theorem law_holds.tw11633083819707477107 : True := trivial
theorem law_holds.tw10264638600885302300 : True := trivial
theorem law_holds.tw15448297888555860652 : True := trivial
theorem law_holds.tw8285764192309689115 : True := trivial
theorem law_holds.tw2143268655074302082 : True := trivial
theorem law_holds.tw2856731137302751260 : True := trivial
theorem law_holds.tw10958410103948607464 : True := trivial
theorem law_holds.tw12835091436910803158 : True := trivial
theorem law_holds.tw8785698371604719795 : True := trivial
theorem law_holds.tw5640673133297012132 : True := trivial
theorem law_holds.tw14385925486924208373 : True := trivial
theorem law_holds.tw18340598423539479173 : True := trivial
theorem law_holds.tw3186734533307500241 : True := trivial
theorem law_holds.tw2322801206320994539 : True := trivial
theorem law_holds.tw17499823404086765753 : True := trivial
theorem law_holds.tw10486713781251687710 : True := trivial
theorem law_holds.tw10465528174321978529 : True := trivial
theorem law_holds.tw17253903310271361901 : True := trivial
theorem law_holds.tw4889031023730116350 : True := trivial
theorem law_holds.tw11484002064277903863 : True := trivial
theorem law_holds.tw17713402740875732926 : True := trivial
theorem law_holds.tw15544829507116839252 : True := trivial
theorem law_holds.tw15802469936163623734 : True := trivial
theorem law_holds.tw6667284449218939238 : True := trivial
theorem law_holds.tw6896717019858035522 : True := trivial
theorem law_holds.tw4439653461905209652 : True := trivial
theorem law_holds.tw13780023080261437657 : True := trivial
theorem law_holds.tw1928719863018725356 : True := trivial
theorem law_holds.tw3682559726232862161 : True := trivial
theorem law_holds.tw16071090679720167499 : True := trivial
theorem law_holds.tw13766487248619392586 : True := trivial
theorem law_holds.tw12889056044993165476 : True := trivial
theorem law_holds.tw3158129796062787159 : True := trivial
theorem law_holds.tw9843604407834444796 : True := trivial
theorem law_holds.tw7497986649931050792 : True := trivial
theorem law_holds.tw8191475993861738794 : True := trivial
theorem law_holds.tw1377309892636839040 : True := trivial
theorem law_holds.tw2006301483956418059 : True := trivial
theorem law_holds.tw16098122237329998606 : True := trivial
theorem law_holds.tw14983226153234331074 : True := trivial
theorem law_holds.tw8330938851228082562 : True := trivial
theorem law_holds.tw10566571302883470556 : True := trivial
theorem law_holds.tw9184033795430018204 : True := trivial
theorem law_holds.tw4370086069003782432 : True := trivial
theorem law_holds.tw3910120701321347557 : True := trivial
theorem law_holds.tw1414043511812021011 : True := trivial
theorem law_holds.tw7876116996976762471 : True := trivial
theorem law_holds.tw6723812968561706957 : True := trivial
theorem law_holds.tw16461882675039125421 : True := trivial
theorem law_holds.tw4441770287765753910 : True := trivial
theorem law_holds.tw5062152199769849712 : True := trivial
theorem law_holds.tw12115171985352901274 : True := trivial
theorem law_holds.tw10188763426450519768 : True := trivial
theorem law_holds.tw11846676642670509255 : True := trivial
theorem law_holds.tw13280740594461564331 : True := trivial
theorem law_holds.tw15617896438947887921 : True := trivial
theorem law_holds.tw3438298445031660282 : True := trivial
theorem law_holds.tw498061464947678834 : True := trivial
theorem law_holds.tw14390095281932903014 : True := trivial
theorem law_holds.tw9682718004065560343 : True := trivial
theorem law_holds.tw2558664710541493025 : True := trivial
theorem law_holds.tw14749509170643330174 : True := trivial
theorem law_holds.tw15808056717442887509 : True := trivial
theorem law_holds.tw8720880381367431298 : True := trivial
theorem law_holds.tw3850404396616230974 : True := trivial
theorem law_holds.tw4581845663705801772 : True := trivial
theorem law_holds.tw9992725586745946429 : True := trivial
theorem law_holds.tw1762888911704233025 : True := trivial
theorem law_holds.tw2503670479209048990 : True := trivial
theorem law_holds.tw2269544990204364226 : True := trivial
theorem law_holds.tw3956099054510807996 : True := trivial
theorem law_holds.tw7416729418936117867 : True := trivial
theorem law_holds.tw519298541982818421 : True := trivial
theorem law_holds.tw15014403891855920072 : True := trivial
theorem law_holds.tw784011647948385275 : True := trivial
theorem law_holds.tw302768837105346163 : True := trivial
theorem law_holds.tw9255152265573255198 : True := trivial
theorem law_holds.tw18234560199702728603 : True := trivial
theorem law_holds.tw12134408205421670959 : True := trivial
theorem law_holds.tw123295346585929383 : True := trivial
theorem law_holds.tw8984712037535005518 : True := trivial
theorem law_holds.tw13709617746848070560 : True := trivial
theorem law_holds.tw1670043908289496885 : True := trivial
theorem law_holds.tw2387193687640843687 : True := trivial
theorem law_holds.tw8093891021732403304 : True := trivial
theorem law_holds.tw5112083995522966620 : True := trivial
theorem law_holds.tw10028117763298573888 : True := trivial
theorem law_holds.tw10371022188087798493 : True := trivial
theorem law_holds.tw1905533677188600702 : True := trivial
theorem law_holds.tw6861490101519172755 : True := trivial
theorem law_holds.tw9168033884955339765 : True := trivial
theorem law_holds.tw8553002610548859549 : True := trivial
theorem law_holds.tw12116493165278983582 : True := trivial
theorem law_holds.tw14822640431511872941 : True := trivial
theorem law_holds.tw8970147916757833333 : True := trivial
theorem law_holds.tw15527639110640922598 : True := trivial
theorem law_holds.tw11182679623053108816 : True := trivial
theorem law_holds.tw7407239408455114201 : True := trivial
theorem law_holds.tw12626328134170644701 : True := trivial
theorem law_holds.tw1689763614830377041 : True := trivial
theorem law_holds.tw11794004699284075115 : True := trivial
theorem law_holds.tw5821855803836879357 : True := trivial
theorem law_holds.tw14883556706271630602 : True := trivial
theorem law_holds.tw10609929442622069884 : True := trivial
theorem law_holds.tw14988988175077273356 : True := trivial
theorem law_holds.tw11781800970755023335 : True := trivial
theorem law_holds.tw17180001009569633970 : True := trivial
theorem law_holds.tw2578278018795888234 : True := trivial
theorem law_holds.tw12303009252429188658 : True := trivial
theorem law_holds.tw18223288511610643252 : True := trivial
theorem law_holds.tw6159533029260741167 : True := trivial
theorem law_holds.tw15352839923633478061 : True := trivial
theorem law_holds.tw11764581739189218997 : True := trivial
theorem law_holds.tw11966672015165255308 : True := trivial
theorem law_holds.tw14326059299131336239 : True := trivial
theorem law_holds.tw6860709855171689206 : True := trivial
theorem law_holds.tw15006436103509636135 : True := trivial
theorem law_holds.tw575232530192455986 : True := trivial
theorem law_holds.tw3253568177066640346 : True := trivial
theorem law_holds.tw9207643191828677137 : True := trivial
theorem law_holds.tw2075624079617657780 : True := trivial
theorem law_holds.tw11126432536435168541 : True := trivial
theorem law_holds.tw11223184984439025696 : True := trivial
theorem law_holds.tw2136269947727277649 : True := trivial
theorem law_holds.tw8854015012368427407 : True := trivial
theorem law_holds.tw3035144380315620824 : True := trivial
theorem law_holds.tw8369274380968253667 : True := trivial
theorem law_holds.tw17255088995462705879 : True := trivial
theorem law_holds.tw8666519363043736892 : True := trivial
theorem law_holds.tw10242277825702978295 : True := trivial
theorem law_holds.tw13431030151845061361 : True := trivial
theorem law_holds.tw16106779387088534511 : True := trivial
theorem law_holds.tw6317479115527610633 : True := trivial
theorem law_holds.tw602461330855297101 : True := trivial
theorem law_holds.tw16470317323979864763 : True := trivial
theorem law_holds.tw4614512636035447770 : True := trivial
theorem law_holds.tw11677100312832694166 : True := trivial
theorem law_holds.tw17942709131360195518 : True := trivial
theorem law_holds.tw7019463264422422977 : True := trivial
theorem law_holds.tw13397297893571687751 : True := trivial
theorem law_holds.tw3366817510852727610 : True := trivial
theorem law_holds.tw8857742495270377987 : True := trivial
theorem law_holds.tw9849722394096787677 : True := trivial
theorem law_holds.tw15607887362523206001 : True := trivial
theorem law_holds.tw15648444511202971954 : True := trivial
theorem law_holds.tw2295933128562542503 : True := trivial
theorem law_holds.tw4916342969005030805 : True := trivial
theorem law_holds.tw3882201998751590657 : True := trivial
theorem law_holds.tw2618386414584295968 : True := trivial
theorem law_holds.tw9552830710289189752 : True := trivial
theorem law_holds.tw16099233806120587224 : True := trivial
theorem law_holds.tw3850334171643177529 : True := trivial
theorem law_holds.tw12889673554181485818 : True := trivial
theorem law_holds.tw3518390070209760614 : True := trivial
theorem law_holds.tw2102315897755806987 : True := trivial
theorem law_holds.tw1285599515219305098 : True := trivial
theorem law_holds.tw3253820488102484341 : True := trivial
theorem law_holds.tw4818577856007422655 : True := trivial
theorem law_holds.tw3742325753681652743 : True := trivial
theorem law_holds.tw14828999820898988419 : True := trivial
theorem law_holds.tw10215866411020188240 : True := trivial
theorem law_holds.tw4037582482628031876 : True := trivial
theorem law_holds.tw4329158554759489670 : True := trivial
theorem law_holds.tw676263390381983339 : True := trivial
theorem law_holds.tw12223724995276690173 : True := trivial
theorem law_holds.tw631266038723830076 : True := trivial
theorem law_holds.tw4992725456586698614 : True := trivial
theorem law_holds.tw7185456241796803578 : True := trivial
theorem law_holds.tw724200737284857819 : True := trivial
theorem law_holds.tw11098625913536864229 : True := trivial
theorem law_holds.tw14596297492920191028 : True := trivial
theorem law_holds.tw907578622648922086 : True := trivial
theorem law_holds.tw7221428835167493151 : True := trivial
theorem law_holds.tw7072745260074857993 : True := trivial
theorem law_holds.tw12342728606916771844 : True := trivial
theorem law_holds.tw9288214680346807717 : True := trivial
theorem law_holds.tw1385162719727133579 : True := trivial
theorem law_holds.tw15694993059591697976 : True := trivial
theorem law_holds.tw8652346329174877282 : True := trivial
theorem law_holds.tw11347954631545130290 : True := trivial
theorem law_holds.tw17237755526102222789 : True := trivial
theorem law_holds.tw13301187468288870568 : True := trivial
theorem law_holds.tw7820799176418779761 : True := trivial
theorem law_holds.tw14904137174637212347 : True := trivial
theorem law_holds.tw10841264019214440115 : True := trivial
theorem law_holds.tw7636989558263936852 : True := trivial
theorem law_holds.tw13182730311906835528 : True := trivial
theorem law_holds.tw4503035019201841076 : True := trivial
theorem law_holds.tw3776956092104397036 : True := trivial
theorem law_holds.tw8266603773606604290 : True := trivial
theorem law_holds.tw6709271908398517637 : True := trivial
theorem law_holds.tw16836969012518115619 : True := trivial
theorem law_holds.tw14571795756577361901 : True := trivial
theorem law_holds.tw15661869461025623997 : True := trivial
theorem law_holds.tw10007947361888340627 : True := trivial
theorem law_holds.tw718173064312146323 : True := trivial
theorem law_holds.tw8249079356659094474 : True := trivial
theorem law_holds.tw11404014056486942332 : True := trivial
theorem law_holds.tw7356724547972884604 : True := trivial
theorem law_holds.tw18203989763732354715 : True := trivial
theorem law_holds.tw10817052189556005596 : True := trivial
theorem law_holds.tw13220211186989608806 : True := trivial
theorem law_holds.tw16406091861079842607 : True := trivial
theorem law_holds.tw10666784280354678857 : True := trivial
theorem law_holds.tw18090433342136740992 : True := trivial
theorem law_holds.tw4273555757443719353 : True := trivial
theorem law_holds.tw6499956759230125245 : True := trivial
theorem law_holds.tw12732824653754844360 : True := trivial
theorem law_holds.tw14160533322030094474 : True := trivial
theorem law_holds.tw3943428198234077543 : True := trivial
theorem law_holds.tw8176227357466254829 : True := trivial
theorem law_holds.tw10925196988822745173 : True := trivial
theorem law_holds.tw9875236377963488844 : True := trivial
theorem law_holds.tw13800757232730249582 : True := trivial
theorem law_holds.tw14925382992726071281 : True := trivial
theorem law_holds.tw2043166853727251185 : True := trivial
theorem law_holds.tw1832781179975386347 : True := trivial
theorem law_holds.tw16614716721108272449 : True := trivial
theorem law_holds.tw14289194402921355359 : True := trivial
theorem law_holds.tw4781243967656130014 : True := trivial
theorem law_holds.tw6564709946809587534 : True := trivial
theorem law_holds.tw15154110283740273250 : True := trivial
theorem law_holds.tw1186782194237197914 : True := trivial
theorem law_holds.tw7910590604623066228 : True := trivial
theorem law_holds.tw15296541713973790061 : True := trivial
theorem law_holds.tw9606376775287448836 : True := trivial
theorem law_holds.tw13392613628428298086 : True := trivial
theorem law_holds.tw14997073306097389879 : True := trivial
theorem law_holds.tw2055734563569237896 : True := trivial
theorem law_holds.tw14335913921861858828 : True := trivial
theorem law_holds.tw13478230802861573701 : True := trivial
theorem law_holds.tw4323815956820902445 : True := trivial
theorem law_holds.tw15759456685926392790 : True := trivial
theorem law_holds.tw8835965917227929528 : True := trivial
theorem law_holds.tw445335354869643106 : True := trivial
theorem law_holds.tw12459966957829302596 : True := trivial
theorem law_holds.tw8957123355933967898 : True := trivial
theorem law_holds.tw6934448944433832347 : True := trivial
theorem law_holds.tw17027635718292003107 : True := trivial
set_option maxHeartbeats 8000000 in
set_option Elab.async true in
theorem law_holds : PySem.Challenge.rw_sr0081_01.Holds := by
  (w_on; o_law; k_head; (case hw => w_witness2))
  intro w s₀ s₁ mg mb G Y fa o pm cd doc dV kV ho hd hcd hD hmg hg args vals as hpre hlay hrd hwl hlo
  refine Ground.open G ?_
  intro T B D TE TW
  wrow_args hpre hlay hrd hwl hlo
  have X := km_in_of Y
  have hT := tabs_at X (km_tabs_of Y)
  have U := base_bs X hT T
  have hq := mg_of X T.g (show nsIn (Mine.frag0.heap_1 w.params) mainGlobals "law" = some (some (.ref 279)) from by k_is)
  have hfa : fa = 279 := by
    have e : mg "law" = some (.ref fa) := hmg
    rw [hq] at e; cases e; rfl
  subst hfa
  rename IntsAre _ _ => hI
  rename Heap.IsList _ _ _ => hL
  obtain ⟨ol, e1, e2, n, e3⟩ := ghost_list hT hL
  refine enter_call ?_
  refine law_call (B := ghostOf s₁.heap tabs4) (os := s₁.os) U rm_caller ⟨_, ⟨ol, e1, e2, n, e3⟩, hI⟩ (by omega) (base_st rfl hT hg) (Le.refl _) (Le.refl _) fun s' f => ?_
  refine ⟨.inl ⟨.bool true, .bool true, [], rfl, fun cls => ?_, .bool _, ?_, fun _ => ⟨List.nodup_nil, List.forall_mem_nil _⟩⟩, fine_old hT f, ?_, ?_⟩
  · exact raisesW_false (by wrow_none_raised) cls
  · exact postW_of (by wrow_shape) (by wtm_val) (by str_meet; first | done | w_fin)
  · obtain ⟨F, F0, F1, σ, x, _⟩ := f
    exact x.os
  · obtain ⟨F, F0, F1, σ, x, _⟩ := f
    exact x.bare
end
end
end Mine
theorem PySem.Challenge.cw_sr0081_01_holds : PySem.Challenge.rw_sr0081_01.Holds :=
  Mine.law_holds
