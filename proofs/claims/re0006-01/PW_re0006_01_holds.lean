import PyProof.Rows.All
import Wide.All
import OpenK.AllK
import Wide.FinOn
import PySem.Challenge.RW_re0006_01
set_option Elab.async false
-- Top1
section
open PySem PySem.W PyProof.Rows
set_option Elab.async false
namespace Mine
set_option maxRecDepth 100000
set_option maxHeartbeats 8000000
open_top hd for PySem.Challenge.rw_re0006_01
end Mine
end
-- Fw
section
open PySem PySem.W PyProof.Rows PySem.Calls
set_option Elab.async false
namespace Mine
abbrev Itm := Obj → Prop
def At (h : Heap) (a : Addr) (P : Itm) : Prop := ∃ o, h.get? a = some o ∧ P o
def nsI (m : Str → Option Value) : Itm := fun o => ∃ es ep, o.data = .dict es ep ∧ StrKeys es ∧ ∀ x, nsFind es x = m x
def cellI (v : Option Value) : Itm := fun o => o.data = .cell v
def objI (o₀ : Obj) : Itm := fun o => o = o₀
def lstI (its : List Value) : Itm := fun o => ∃ n, o = { cls := .type "list", data := .seq its.toArray n }
def lisI (its : List Value) : Itm := fun o => o.cls = .type "list" ∧ ∃ n, o.data = .seq its.toArray n
def posI (i : Nat) : Itm := fun o => o.cls = .type "list" ∧ ∃ n tp, o.data = .seq [.int i tp].toArray n
def txtI (x : Str) : Itm := fun o => ∃ tx, o.data = .cell (some (.str x tx))
def codI (q : Str) : Itm := fun o => ∃ vs t, o.data = .fields vs ∧ vs[1]? = some (.str q t)
theorem At.ns {h : Heap} {a : Addr} {m : Str → Option Value} (x : At h a (nsI m)) : h.Ns a m :=
  let ⟨o, e, es, ep, h1, h2, h3⟩ := x; ⟨o, es, ep, e, h1, h2, h3⟩
theorem At.of_ns {h : Heap} {a : Addr} {m : Str → Option Value} (x : h.Ns a m) : At h a (nsI m) :=
  let ⟨o, es, ep, e, h1, h2, h3⟩ := x; ⟨o, e, es, ep, h1, h2, h3⟩
theorem At.cell {h : Heap} {a : Addr} {v : Option Value} (x : At h a (cellI v)) : h.IsCell a v := x
theorem At.of_cell {h : Heap} {a : Addr} {v : Option Value} (x : h.IsCell a v) : At h a (cellI v) := x
theorem At.obj {h : Heap} {a : Addr} {o : Obj} (x : At h a (objI o)) : h.get? a = some o := by
  obtain ⟨o', e, rfl⟩ := x; exact e
theorem At.of_obj {h : Heap} {a : Addr} {o : Obj} (x : h.get? a = some o) : At h a (objI o) := ⟨o, x, rfl⟩
theorem At.lst {h : Heap} {a : Addr} {its : List Value} (x : At h a (lstI its)) : ∃ n, IsL h a its.toArray n := by
  obtain ⟨o, e, n, rfl⟩ := x; exact ⟨n, e⟩
theorem At.of_lst {h : Heap} {a : Addr} {its : List Value} {n : Nat} (x : IsL h a its.toArray n) : At h a (lstI its) := ⟨_, x, n, rfl⟩
theorem At.lis {h : Heap} {a : Addr} {its : List Value} (x : At h a (lisI its)) : h.IsList a its.toArray := x
theorem At.pos {h : Heap} {a : Addr} {i : Nat} (x : At h a (posI i)) : ∃ tp, h.IsList a [.int i tp].toArray :=
  let ⟨o, e, h1, n, tp, h2⟩ := x; ⟨tp, o, e, h1, n, h2⟩
theorem At.of_pos {h : Heap} {a : Addr} {i : Nat} {tp : Tok} (x : h.IsList a [.int i tp].toArray) : At h a (posI i) :=
  let ⟨o, e, h1, n, h2⟩ := x; ⟨o, e, h1, n, tp, h2⟩
theorem At.txt {h : Heap} {a : Addr} {x : Str} (y : At h a (txtI x)) : ∃ tx, h.IsCell a (some (.str x tx)) :=
  let ⟨o, e, tx, h1⟩ := y; ⟨tx, o, e, h1⟩
theorem At.cod {h : Heap} {a : Addr} {q : Str} (x : At h a (codI q)) : h.CodeRec (.ref a) q :=
  let ⟨o, e, vs, t, h1, h2⟩ := x; ⟨a, o, vs, t, rfl, e, h1, h2⟩
theorem At.keeps {h h' : Heap} {a : Addr} {P : Itm} (x : At h a P) (k : ∀ b o, h.get? b = some o → h'.get? b = some o) : At h' a P :=
  let ⟨o, e, p⟩ := x; ⟨o, k a o e, p⟩
theorem At.lt {h : Heap} {a : Addr} {P : Itm} (x : At h a P) : a < h.objs.size := let ⟨_, e, _⟩ := x; Heap.lt_size e
structure Led (h₀ h : Heap) (l : List (Addr × Itm)) : Prop where
  keep : ∀ b o, h₀.get? b = some o → h.get? b = some o
  mem : ∀ p ∈ l, At h p.1 p.2 ∧ h₀.get? p.1 = none
  nd : (l.map (·.1)).Nodup
namespace Led
variable {h₀ h h' : Heap} {l l' : List (Addr × Itm)} {a : Addr} {P P' : Itm} {i : Nat} {m : Str → Option Value}
theorem get (D : Led h₀ h l) (i : Nat) (hi : l[i]? = some (a, P)) : At h a P := (D.mem _ (List.mem_of_getElem? hi)).1
theorem getM (D : Led h₀ h l) (hm : (a, P) ∈ l) : At h a P := (D.mem _ hm).1
theorem ns (D : Led h₀ h l) (i : Nat) (hi : l[i]? = some (a, nsI m)) : h.Ns a m := (D.get i hi).ns
theorem ob {o : Obj} (D : Led h₀ h l) (i : Nat) (hi : l[i]? = some (a, objI o)) : h.get? a = some o := (D.get i hi).obj
theorem perm (D : Led h₀ h l) (p : l.Perm l') : Led h₀ h l' :=
  ⟨D.keep, fun q hq => D.mem q (p.mem_iff.mpr hq), (p.map _).nodup_iff.mp D.nd⟩
theorem sub (D : Led h₀ h l) (p : l'.Sublist l) : Led h₀ h l' :=
  ⟨D.keep, fun q hq => D.mem q (p.mem hq), (p.map (·.1)).nodup D.nd⟩
theorem drop {p : Addr × Itm} (D : Led h₀ h (p :: l)) : Led h₀ h l := D.sub (List.sublist_cons_self ..)
theorem mid {l₁ l₂ : List (Addr × Itm)} {p : Addr × Itm} (D : Led h₀ h (l₁ ++ p :: l₂)) : Led h₀ h (l₁ ++ l₂) := (D.perm List.perm_middle).drop
theorem rot2 {l₁ l₂ : List (Addr × Itm)} {p q c : Addr × Itm} (D : Led h₀ h (p :: q :: (l₁ ++ c :: l₂))) : Led h₀ h (l₁ ++ c :: p :: q :: l₂) := by
  have e : l₁ ++ c :: p :: q :: l₂ = (l₁ ++ [c]) ++ ([p, q] ++ l₂) := by simp
  rw [e]
  refine D.perm (List.Perm.trans (List.Perm.of_eq ?_) (List.perm_append_comm_assoc [p, q] (l₁ ++ [c]) l₂))
  simp
theorem keeps (D : Led h₀ h l) (k : ∀ b o, h.get? b = some o → h'.get? b = some o) (_ : h.objs.size ≤ h'.objs.size) : Led h₀ h' l :=
  ⟨fun b o e => k b o (D.keep b o e), fun q hq => ⟨(D.mem q hq).1.keeps k, (D.mem q hq).2⟩, D.nd⟩
theorem kept (D : Led h₀ h l) (k : ∀ b o, h.get? b = some o → h'.get? b = some o) : Led h₀ h' l :=
  ⟨fun b o e => k b o (D.keep b o e), fun q hq => ⟨(D.mem q hq).1.keeps k, (D.mem q hq).2⟩, D.nd⟩
theorem fresh (D : Led h₀ h l) {b : Addr} (hb : h.objs.size ≤ b) : h₀.get? b = none := by
  cases q : h₀.get? b with
  | none => rfl
  | some o => exact absurd (Heap.lt_size (D.keep b o q)) (Nat.not_lt.mpr hb)
/-- one more entry, new at h' -/
theorem cons (D : Led h₀ h l) (k : ∀ b o, h.get? b = some o → h'.get? b = some o) (_ : h.objs.size ≤ h'.objs.size) (ha : h.objs.size ≤ a) (x : At h' a P) : Led h₀ h' ((a, P) :: l) := by
  refine ⟨fun b o e => k b o (D.keep b o e), fun q hq => ?_, ?_⟩
  · rcases List.mem_cons.mp hq with rfl | hq
    · exact ⟨x, D.fresh ha⟩
    · exact ⟨(D.mem q hq).1.keeps k, (D.mem q hq).2⟩
  · rw [List.map_cons, List.nodup_cons]
    refine ⟨fun hm => ?_, D.nd⟩
    obtain ⟨q, hq, e⟩ := List.mem_map.mp hm
    have lt : q.1 < h.objs.size := (D.mem q hq).1.lt
    have e' : q.1 = a := e
    exact absurd (e' ▸ lt) (Nat.not_lt.mpr ha)
theorem app (D : Led h₀ h l) (k : ∀ b o, h.get? b = some o → h'.get? b = some o) (_ : h.objs.size ≤ h'.objs.size) (new : List (Addr × Itm)) (hn : ∀ p ∈ new, h.objs.size ≤ p.1 ∧ At h' p.1 p.2) (nd : (new.map (·.1)).Nodup) : Led h₀ h' (new ++ l) := by
  refine ⟨fun b o e => k b o (D.keep b o e), fun q hq => ?_, ?_⟩
  · rcases List.mem_append.mp hq with hq | hq
    · exact ⟨(hn q hq).2, D.fresh (hn q hq).1⟩
    · exact ⟨(D.mem q hq).1.keeps k, (D.mem q hq).2⟩
  · rw [List.map_append, List.nodup_append]
    refine ⟨nd, D.nd, fun a ha b hb e => ?_⟩
    obtain ⟨p, hp, rfl⟩ := List.mem_map.mp ha
    obtain ⟨q, hq, rfl⟩ := List.mem_map.mp hb
    have lt : q.1 < h.objs.size := (D.mem q hq).1.lt
    have ge := (hn p hp).1
    have e' : p.1 = q.1 := e
    exact absurd (Nat.lt_of_lt_of_le lt ge) (by rw [e']; exact Nat.lt_irrefl _)
theorem push (D : Led h₀ h l) {o : Obj} (hf : o.isFreed = false) (hP : P o) : Led h₀ (h.push o) ((h.objs.size, P) :: l) :=
  D.cons (fun _ _ e => Heap.get?_push_of_some _ e) (by rw [Heap.size_push]; omega) (Nat.le_refl _) ⟨o, Heap.get?_push_size _ hf, hP⟩
theorem apart (D : Led h₀ h l) {i : Nat} (hi : l[i]? = some (a, P)) {j : Nat} {q : Addr × Itm} (hj : l[j]? = some q) (hij : i ≠ j) : q.1 ≠ a := by
  intro e
  have nd := D.nd
  obtain ⟨li, ei⟩ := List.getElem?_eq_some_iff.mp hi
  obtain ⟨lj, ej⟩ := List.getElem?_eq_some_iff.mp hj
  rw [List.nodup_iff_pairwise_ne] at nd
  have key := List.pairwise_iff_getElem.mp nd
  rcases Nat.lt_or_gt_of_ne hij with lt | lt
  · have := key i j (by rw [List.length_map]; exact li) (by rw [List.length_map]; exact lj) lt
    rw [List.getElem_map, List.getElem_map, ei, ej] at this
    exact this e.symm
  · have := key j i (by rw [List.length_map]; exact lj) (by rw [List.length_map]; exact li) lt
    rw [List.getElem_map, List.getElem_map, ei, ej] at this
    exact this e
/-- the entry at i has turned, all else stands -/
theorem ext (D : Led h₀ h l) (i : Nat) (hi : l[i]? = some (a, P)) (k : Heap.ExtBut a h h') (_ : h.objs.size ≤ h'.objs.size) (x : At h' a P') : Led h₀ h' (l.set i (a, P')) := by
  have hn := (D.mem _ (List.mem_of_getElem? hi)).2
  obtain ⟨li, ei⟩ := List.getElem?_eq_some_iff.mp hi
  refine ⟨fun b o e => k b o (fun q => by subst q; rw [hn] at e; cases e) (D.keep b o e), fun q hq => ?_, ?_⟩
  · obtain ⟨j, hj⟩ := List.mem_iff_getElem?.mp hq
    by_cases hij : i = j
    · subst hij
      rw [List.getElem?_set_self li] at hj
      cases hj
      exact ⟨x, hn⟩
    · rw [List.getElem?_set_ne hij] at hj
      obtain ⟨⟨o, e, p⟩, hq2⟩ := D.mem q (List.mem_of_getElem? hj)
      exact ⟨⟨o, k _ _ (D.apart hi hj hij) e, p⟩, hq2⟩
  · have : (l.set i (a, P')).map (·.1) = l.map (·.1) := by
      rw [List.map_set]
      apply List.ext_getElem?
      intro j
      by_cases hij : i = j
      · subst hij
        rw [List.getElem?_set_self (by rw [List.length_map]; exact li), List.getElem?_map, hi]
        rfl
      · rw [List.getElem?_set_ne hij]
    rw [this]; exact D.nd
theorem extNew {b : Addr} {P₂ : Itm} (D : Led h₀ h l) (i : Nat) (hi : l[i]? = some (a, P)) (k : Heap.ExtBut a h h') (_ : h.objs.size ≤ h'.objs.size) (x : At h' a P') (hb : h.objs.size ≤ b) (y : At h' b P₂) : Led h₀ h' ((b, P₂) :: l.set i (a, P')) := by
  have D' := D.ext i hi k ‹_› x
  refine ⟨D'.keep, fun q hq => ?_, ?_⟩
  · rcases List.mem_cons.mp hq with rfl | hq
    · exact ⟨y, D.fresh hb⟩
    · exact D'.mem q hq
  · rw [List.map_cons, List.nodup_cons]
    refine ⟨fun hm => ?_, D'.nd⟩
    obtain ⟨li, ei⟩ := List.getElem?_eq_some_iff.mp hi
    have e : (l.set i (a, P')).map (·.1) = l.map (·.1) := by
      rw [List.map_set]
      apply List.ext_getElem?
      intro j
      by_cases hij : i = j
      · subst hij
        rw [List.getElem?_set_self (by rw [List.length_map]; exact li), List.getElem?_map, hi]
        rfl
      · rw [List.getElem?_set_ne hij]
    rw [e] at hm
    obtain ⟨q, hq, e⟩ := List.mem_map.mp hm
    have lt : q.1 < h.objs.size := (D.mem q hq).1.lt
    have e' : q.1 = b := e
    exact absurd (e' ▸ lt) (Nat.not_lt.mpr hb)
theorem same (D : Led h₀ h l) (i : Nat) (hi : l[i]? = some (a, P)) (k : Heap.SameBut a h h') (x : At h' a P') : Led h₀ h' (l.set i (a, P')) :=
  D.ext i hi k.extBut (Nat.le_of_eq k.1.symm) x
theorem upd (D : Led h₀ h l) (i : Nat) (hi : l[i]? = some (a, P)) {o : Obj} {f : Obj → Obj} (ho : h.get? a = some o) (hf : (f o).isFreed = false) (hP : P' (f o)) : Led h₀ (h.update a f) (l.set i (a, P')) :=
  D.same i hi (Heap.SameBut.update ..) ⟨_, Heap.get?_update_self f ho hf, hP⟩
theorem put (D : Led h₀ h l) (i : Nat) (hi : l[i]? = some (a, P)) (x : At h a P') : Led h₀ h (l.set i (a, P')) := D.ext i hi (fun _ _ _ e => e) (Nat.le_refl _) x
theorem lmap {its its' : List Value} {n : Nat} {g : Array Value → Array Value} (D : Led h₀ h l) (i : Nat) (hi : l[i]? = some (a, lstI its)) (hl : IsL h a its.toArray n) (hg : g its.toArray = its'.toArray) :
    Led h₀ (h.update a (Obj.mapSeq g)) (l.set i (a, lstI its')) :=
  D.upd i hi hl rfl ⟨_, by show Obj.mapSeq g _ = _; unfold Obj.mapSeq; dsimp only; rw [hg]⟩
end Led
def Rv (Q : Value → Shared → Prop) : Result → Shared → Prop := fun r s' => match r with
  | .ok (.ret v) => Q v s'
  | _ => False
theorem call_of {prog : Program} {w : World} {A : Around} {E : Value → Shared → Prop} {s : Shared} {Q : Value → Shared → Prop} {f : Value} {args : List Value} (h : codeAny (model prog w) A (.call f ⟨args, []⟩) (Rv Q) s) :
    wpAny (model prog w) A (call f args) Q E s := wpAny_call (codeAny_mono h fun r s' q => by
  rcases r with e | (_ | _ | _ | v) <;> first | exact q | exact q.elim)
/-- a call of a def or method without cells -/
theorem code_fn {prog : Program} {w : World} {A : Around} {s : Shared} {Q : Value → Shared → Prop} {a : Addr} {o : Obj} {fd : FuncData} {body : List Stmt} {args : List Value} {binds : List (Str × Value)}
    (ho : s.heap.get? a = some o) (hdata : o.data = .func fd) (hbody : fd.body = .stmts body) (hcd : s.heap.CodeRec fd.code fd.qualname) (hlim : s.heap.NoLimit)
    (hbind : bindArgs fd ⟨args, []⟩ = pure binds) (hloc : ∀ x ∈ binds, fd.scope.names.lookup x.1 = some .local)
    (hcell : ∀ x ∈ fd.scope.names, x.2 ≠ .cell) (hroom : A.depth < recursionLimit)
    (h : ∀ h₁ tk, Fr s.heap s.heap.objs.size h₁ (fun x => binds.reverse.lookup x) →
      wpAny (model prog w) (A.deeper (callEnv fd s.heap.objs.size a)) (execs body (callEnv fd s.heap.objs.size a))
        (fun f s' => Q (match f with | .ret v => v | _ => .none) s') (fun _ _ => False) { s with heap := h₁, toks := tk })
    (hco : fd.scope.isCoroutine = false := by rfl) (hgen : fd.scope.isGenerator = false := by rfl) (hk : fd.scope.kind = .function := by rfl) :
    codeAny (model prog w) A (.call (.ref a) ⟨args, []⟩) (Rv Q) s := by
  refine codeAny_call_function hroom ho hdata hco hgen hbody hcd ?_
  rw [hbind]
  refine wpAny_pure (wpAny_newFunctionEnv hcell hloc (fun h₁ hns hsb => ⟨hlim.fresh _ hsb, ?_⟩) hk)
  refine codeAny_func (wpAny_mono (h h₁ _ ⟨hns, fun b o e => hsb.extBut b o (Nat.ne_of_lt (Heap.lt_size e)) (Heap.get?_push_of_some _ e), Nat.le_refl _⟩) (fun _ _ x => x) fun _ _ x => x.elim)
theorem call_fn {prog : Program} {w : World} {A : Around} {E : Value → Shared → Prop} {s : Shared} {Q : Value → Shared → Prop} {a : Addr} {o : Obj} {fd : FuncData} {body : List Stmt} {args : List Value} {binds : List (Str × Value)}
    (ho : s.heap.get? a = some o) (hdata : o.data = .func fd) (hbody : fd.body = .stmts body) (hcd : s.heap.CodeRec fd.code fd.qualname) (hlim : s.heap.NoLimit)
    (hbind : bindArgs fd ⟨args, []⟩ = pure binds) (hloc : ∀ x ∈ binds, fd.scope.names.lookup x.1 = some .local)
    (hcell : ∀ x ∈ fd.scope.names, x.2 ≠ .cell) (hroom : A.depth < recursionLimit)
    (h : ∀ h₁ tk, Fr s.heap s.heap.objs.size h₁ (fun x => binds.reverse.lookup x) →
      wpAny (model prog w) (A.deeper (callEnv fd s.heap.objs.size a)) (execs body (callEnv fd s.heap.objs.size a))
        (fun f s' => Q (match f with | .ret v => v | _ => .none) s') (fun _ _ => False) { s with heap := h₁, toks := tk })
    (hco : fd.scope.isCoroutine = false := by rfl) (hgen : fd.scope.isGenerator = false := by rfl) (hk : fd.scope.kind = .function := by rfl) :
    wpAny (model prog w) A (call (.ref a) args) Q E s := call_of (code_fn ho hdata hbody hcd hlim hbind hloc hcell hroom h hco hgen hk)
/-- a call of a def with cells -/
theorem code_cells {prog : Program} {w : World} {A : Around} {s : Shared} {Q : Value → Shared → Prop} {a : Addr} {o : Obj} {fd : FuncData} {body : List Stmt} {args : List Value} {binds : List (Str × Value)}
    (ho : s.heap.get? a = some o) (hdata : o.data = .func fd) (hbody : fd.body = .stmts body) (hcd : s.heap.CodeRec fd.code fd.qualname) (hlim : s.heap.NoLimit)
    (hbind : bindArgs fd ⟨args, []⟩ = pure binds) (hclo : fd.closure = [])
    (hkind : ∀ x ∈ binds, fd.scope.names.lookup x.1 = some .local ∨ (fd.scope.names.lookup x.1 = some .cell ∧ ((cellsFrom (s.heap.objs.size + 1) fd.scope.names []).lookup x.1).isSome = true)) (hroom : A.depth < recursionLimit)
    (h : ∀ h₁ tk, h₁.Ns s.heap.objs.size (bindL (callEnvC fd s.heap.objs.size a).kindOf binds fun _ => none) → (∀ b o, s.heap.get? b = some o → h₁.get? b = some o) →
      (∀ n c, (callEnvC fd s.heap.objs.size a).cells.lookup n = some c → h₁.IsCell c (bindC (callEnvC fd s.heap.objs.size a).kindOf binds (fun _ => none) n)) →
      wpAny (model prog w) (A.deeper (callEnvC fd s.heap.objs.size a)) (execs body (callEnvC fd s.heap.objs.size a))
        (fun f s' => Q (match f with | .ret v => v | _ => .none) s') (fun _ _ => False) { s with heap := h₁, toks := tk })
    (hco : fd.scope.isCoroutine = false := by rfl) (hgen : fd.scope.isGenerator = false := by rfl) (hk : fd.scope.kind = .function := by rfl) :
    codeAny (model prog w) A (.call (.ref a) ⟨args, []⟩) (Rv Q) s := by
  refine codeAny_call_cells hroom ho hdata hlim hcd hbody hbind hclo hkind (fun s₁ x => ?_) hco hgen hk
  obtain ⟨h₁, tk, rfl, hk⟩ := x.done
  exact wpAny_mono (h h₁ tk x.toInCall.ns hk x.cell) (fun _ _ x => x) fun _ _ x => x.elim
theorem Fr.led {h₀ h h₁ : Heap} {l : List (Addr × Itm)} {m : Str → Option Value} (D : Led h₀ h l) (F : Fr h h.objs.size h₁ m) : Led h₀ h₁ ((h.objs.size, nsI m) :: l) :=
  D.cons F.keep (Nat.le_of_lt F.ns.lt) (Nat.le_refl _) (At.of_ns F.ns)
section
variable {prog : Program} {w : World} {M : Model} {A : Around} {E : Value → Shared → Prop} {s : Shared} {Q : Value → Shared → Prop} {env : Env} {x : Str} {pos : Pos} {v : Value} {m : Str → Option Value} {c : Addr}
theorem nmL (k0 : env.scope.kind = .function) (kx : env.kindOf x = some .local) (hn : s.heap.Ns env.locals m) (hv : m x = some v) (h : Q v s) (hd : (x == ("__debug__" : Str)) = false := by decide) :
    wpAny M A (eval (.Name x pos) env) Q E s := wpAny_Name (wpAny_loadName_local k0 kx hn hv h) hd
theorem nmF (k0 : env.scope.kind = .function) (kx : env.kindOf x = some .free) (hc : env.cells.lookup x = some c) (hv : s.heap.IsCell c (some v)) (h : Q v s) (hd : (x == ("__debug__" : Str)) = false := by decide)
    (hn : (x == ("__classdict__" : Str)) = false := by decide) : wpAny M A (eval (.Name x pos) env) Q E s := wpAny_Name (wpAny_loadName_free k0 kx hc hv h hn) hd
theorem nmC (k0 : env.scope.kind = .function) (kx : env.kindOf x = some .cell) (hc : env.cells.lookup x = some c) (hv : s.heap.IsCell c (some v)) (h : Q v s) (hd : (x == ("__debug__" : Str)) = false := by decide) :
    wpAny M A (eval (.Name x pos) env) Q E s := wpAny_Name (wpAny_loadName_cell k0 kx hc hv h) hd
end
section
variable {M : Model} {A : Around} {E : Value → Shared → Prop} {s : Shared} {Q : Value → Shared → Prop} {env : Env} {pos : Pos} {f : Value} {first : List Value} {e e₂ : Expr} {P : Heap → Prop} {id : String}
theorem callWith1 (hk : ∀ h, P h → ∃ k, (k = Keeper.frame ∨ k = Keeper.machine ∨ k = Keeper.boundFrame) ∧ Looks M h (keeperOf f) k)
    (h : wpAny M A (eval e env) (fun v s₁ => P s₁.heap ∧ wpAny M A (call f (first ++ [v])) Q E s₁) E s) (he : backTo pos (starEach [e] env) = [(false, eval e env)] := by rfl) :
    wpAny M A (callWith pos f first (backTo pos (starEach [e] env)) []) Q E s := by
  rw [he]
  exact callWith_of rfl hk (evalArgs_plain (spliced_cons (wpAny_mono h (fun v s₁ q => spliced_nil q) fun _ _ x => x)))
theorem callWith2 (hk : ∀ h, P h → ∃ k, (k = Keeper.frame ∨ k = Keeper.machine ∨ k = Keeper.boundFrame) ∧ Looks M h (keeperOf f) k)
    (h : wpAny M A (eval e env) (fun v s₁ => wpAny M A (eval e₂ env) (fun v₂ s₂ => P s₂.heap ∧ wpAny M A (call f (first ++ [v, v₂])) Q E s₂) E s₁) E s) (he : backTo pos (starEach [e, e₂] env) = [(false, eval e env), (false, eval e₂ env)] := by rfl) :
    wpAny M A (callWith pos f first (backTo pos (starEach [e, e₂] env)) []) Q E s := by
  rw [he]
  exact callWith_of rfl hk (evalArgs_plain (spliced_cons (wpAny_mono h (fun v s₁ q => spliced_cons (wpAny_mono q (fun _ _ q => spliced_nil q) fun _ _ x => x)) fun _ _ x => x)))
theorem callWith0 (hk : ∀ h, P h → ∃ k, (k = Keeper.frame ∨ k = Keeper.machine ∨ k = Keeper.boundFrame) ∧ Looks M h (keeperOf f) k) (hP : P s.heap)
    (h : wpAny M A (call f (first ++ [])) Q E s) : wpAny M A (callWith pos f first (backTo pos (starEach [] env)) []) Q E s :=
  callWith_of (P := P) rfl hk (PySem.evalArgs_none ⟨hP, h⟩)
theorem one_arg (h : wpAny M A (callWith pos f first [(false, eval e env)] []) Q E s) (he : backTo pos (starEach [e] env) = [(false, eval e env)] := by rfl) :
    wpAny M A (callWith pos f first (backTo pos (starEach [e] env)) []) Q E s := by rw [he]; exact h
theorem callB1 (h : wpAny M A (eval e env) (fun v s₁ => wpAny M A (call (.builtin id) (first ++ [v])) Q E s₁) E s) (he : backTo pos (starEach [e] env) = [(false, eval e env)] := by rfl) :
    wpAny M A (callWith pos (.builtin id) first (backTo pos (starEach [e] env)) []) Q E s := by
  rw [he]
  exact callWith_builtin rfl (evalArgs_plain (spliced_cons (wpAny_mono h (fun v s₁ q => spliced_nil q) fun _ _ x => x)))
theorem callB2 (h : wpAny M A (eval e env) (fun v s₁ => wpAny M A (eval e₂ env) (fun v₂ s₂ => wpAny M A (call (.builtin id) (first ++ [v, v₂])) Q E s₂) E s₁) E s) (he : backTo pos (starEach [e, e₂] env) = [(false, eval e env), (false, eval e₂ env)] := by rfl) :
    wpAny M A (callWith pos (.builtin id) first (backTo pos (starEach [e, e₂] env)) []) Q E s := by
  rw [he]
  exact callWith_builtin rfl (evalArgs_plain (spliced_cons (wpAny_mono h (fun v s₁ q => spliced_cons (wpAny_mono q (fun _ _ q => spliced_nil q) fun _ _ x => x)) fun _ _ x => x)))
end
def topStmt (i : Nat) : Stmt := PySem.Challenge.pw_re0006_01.main.body.getD i (.Pass ⟨0, 0, 0, 0⟩)
def fBody : Stmt → List Stmt
  | .FunctionDef _ _ b _ _ _ _ _ _ _ => b
  | _ => []
def fArgs : Stmt → Arguments
  | .FunctionDef _ a _ _ _ _ _ _ _ _ => a
  | _ => default
def fScope : Stmt → Scope
  | .FunctionDef _ _ _ _ _ _ c _ _ _ => c
  | _ => default
end Mine
end
-- Lx1
section
open PySem PySem.W PyProof.Rows PySem.Calls
set_option Elab.async false
set_option maxRecDepth 100000
namespace Mine
structure Gr (w : World) (mg mb : Str → Option Value) (h₀ : Heap) : Prop where
  X : (Mine.hd.heap_39 w.params).In h₀
  g : h₀.Ns mainGlobals mg
  b : h₀.Ns builtinsNs mb
  lim : h₀.NoLimit
  blt : ∀ x : Str, x ≠ "__name__" → mb x = bootBuiltins x
  code : CodeHd h₀ 110 106
  bmain : ∃ bm ob, mg "__builtins__" = some (.ref bm) ∧ bm ≠ builtinsNs ∧ h₀.get? bm = some ob ∧ ob.cls = .type "module" ∧ ob.dict = some builtinsNs ∧ ob.data = .plain
def wsp : Str := Str.ofString "\n\t\r "
def dicI (line : Int) (f p : Addr) : Itm := fun o => ∃ k1 k2 k3 k4 t1 t2 t3 t4 t5 t6 n, o = dictOf [⟨k1, .str (Str.ofString "lineno") t1, .int line t5⟩, ⟨k2, .str (Str.ofString "instream") t2, .ref f⟩,
  ⟨k3, .str (Str.ofString "whitespace") t3, .str wsp t6⟩, ⟨k4, .str (Str.ofString "pushback") t4, .ref p⟩] n
abbrev prog := PySem.Challenge.rw_re0006_01.prog
/-- the locals of a frame, newest first -/
abbrev loc (b : List (Str × Value)) : Str → Option Value := fun x => b.lookup x
section
variable {w : World} {mg mb : Str → Option Value} {h₀ : Heap} {A : Around} {E : Value → Shared → Prop} {s : Shared} {Q : Value → Shared → Prop} {l r : List (Addr × Itm)} {x d p f : Addr} {line : Int} {ws : List Value} {v : Value}
theorem nmB {M : Model} {env : Env} {y : Str} {pos : Pos} (G : Gr w mg mb h₀) (D : Led h₀ s.heap l) (k0 : env.scope.kind = .function) (kx : env.kindOf y = some .globalImplicit) (e1 : env.globals = mainGlobals) (e2 : env.builtins = builtinsNs)
    (hn : nsIn (Mine.hd.heap_39 w.params) mainGlobals y = some none) (hb : bootBuiltins y = some v) (h : Q v s) (hd : (y == ("__debug__" : Str)) = false := by decide) (hy : y ≠ "__name__" := by decide) :
    wpAny M A (eval (.Name y pos) env) Q E s :=
  Name_function_global k0 kx (loadGlobal_builtin (by rw [e1]; exact G.g.keeps D.keep) (mg_none_of G.X G.g hn) (by rw [e2]; exact G.b.keeps D.keep) ((G.blt y hy).trans hb) h) hd
theorem nmG {M : Model} {env : Env} {y : Str} {pos : Pos} (G : Gr w mg mb h₀) (D : Led h₀ s.heap l) (k0 : env.scope.kind = .function) (kx : env.kindOf y = some .globalImplicit) (e1 : env.globals = mainGlobals)
    (hn : nsIn (Mine.hd.heap_39 w.params) mainGlobals y = some (some v)) (h : Q v s) (hd : (y == ("__debug__" : Str)) = false := by decide) :
    wpAny M A (eval (.Name y pos) env) Q E s :=
  Name_function_global k0 kx (loadGlobal_global (by rw [e1]; exact G.g.keeps D.keep) (mg_of G.X G.g hn) h) hd
theorem instAt_of {h : Heap} {od : Obj} (hx : h.get? x = some (instObj 100 d)) (hd : h.get? d = some od) : InstAt h x (instObj 100 d) 100 (some od) := ⟨hx, rfl, rfl, hd⟩
theorem lex_pushback {e : Bool} (G : Gr w mg mb h₀) (D : Led h₀ s.heap l) (hx : s.heap.get? x = some (instObj 100 d)) (hd : At s.heap d (dicI line f p)) (h : ∀ tk, Q (.ref p) { s with toks := tk }) :
    wpAny (model prog w) A (getAttr (.ref x) (Str.ofString "pushback") e) Q E s := by
  obtain ⟨od, ed, k1, k2, k3, k4, t1, t2, t3, t4, t5, t6, n, rfl⟩ := hd
  exact get_value (G.X.keeps D.keep) (instAt_of hx ed) (by kernel_rfl) (findObj_own (attr := none) (by kernel_rfl) (by kernel_rfl) (by kernel_rfl) rfl) rfl (h _)
theorem lex_method {f : Addr} {name : Str} {pl : Sem Bool} {Q : Value × List Value → Shared → Prop} (G : Gr w mg mb h₀) (D : Led h₀ s.heap l) (hx : s.heap.get? x = some (instObj 100 d)) (hd : At s.heap d (dicI line f p))
    (hf : findIn (Mine.hd.heap_39 w.params) (.ref 100) name = some (some (.ref f))) (ht : typeIn (Mine.hd.heap_39 w.params) (.ref f) = some (.type "function"))
    (hn : ∀ k1 k2 k3 k4 t1 t2 t3 t4 t5 t6 n, shadowIn (some (dictOf [⟨k1, .str (Str.ofString "lineno") t1, .int line t5⟩, ⟨k2, .str (Str.ofString "instream") t2, .ref f⟩,
  ⟨k3, .str (Str.ofString "whitespace") t3, .str wsp t6⟩, ⟨k4, .str (Str.ofString "pushback") t4, .ref p⟩] n)) name = some false) (h : Q (.ref f, [.ref x]) s) :
    wpAny (model prog w) A (getMethod (.ref x) name pl) Q E s := by
  obtain ⟨od, ed, k1, k2, k3, k4, t1, t2, t3, t4, t5, t6, n, rfl⟩ := hd
  exact method_fn (G.X.keeps D.keep) (instAt_of hx ed) (by kernel_rfl) (by kernel_rfl) hf ht (hn ..) h
theorem push_ct (G : Gr w mg mb h₀) (D : Led h₀ s.heap ((x, objI (instObj 100 d)) :: (d, dicI line f p) :: (p, lstI ws) :: r)) (hA : A.depth < recursionLimit) (hsz : ws.length ≤ 1000)
    (h : ∀ h' tk, Led h₀ h' ((x, objI (instObj 100 d)) :: (d, dicI line f p) :: (p, lstI (ws ++ [v])) :: r) → Q .none { s with heap := h', toks := tk }) :
    wpAny (model prog w) A (call (.ref 97) [.ref x, v]) Q E s := by
  refine call_fn (binds := [(Str.ofString "self", .ref x), (Str.ofString "token", v)]) (D.keep _ _ (G.X 97 _ rfl)) rfl rfl (Heap.CodeRec.keeps ⟨_, _, _, _, rfl, G.X 96 _ rfl, rfl, rfl⟩ D.keep) (G.lim.keeps D.keep) rfl (locs rfl) (by decide) hA ?_
  intro h₁ tk F
  replace D := Fr.led D F
  clear F
  generalize hE : callEnv _ _ _ = env
  have k0 : env.scope.kind = .function := by rw [← hE]; rfl
  have k1 : env.kindOf (Str.ofString "self") = some .local := by rw [← hE]; rfl
  have k2 : env.kindOf (Str.ofString "token") = some .local := by rw [← hE]; rfl
  have k3 : env.locals = s.heap.objs.size := by rw [← hE]; rfl
  have k4 : interactive env = false := by rw [← hE]; rfl
  clear hE
  refine wpAny_execs_cons (wpAny_Expr (MethodCall_ (Attribute_Name_ (wpAny_Name (wpAny_loadName_local k0 k1 (by rw [k3]; exact D.ns 0 rfl) rfl ?_)))) k4)
  refine lex_pushback G D (D.ob 1 rfl) (D.get 2 rfl) fun tk => ?_
  obtain ⟨n, hl⟩ := (D.get 3 rfl).lst
  refine getMethod_builtin ⟨_, hl, rfl⟩ PySem.F.plainAttrs_list PySem.F.slot_list_append PySem.F.type_list_append (fun a e => by cases e; exact ⟨_, hl, rfl⟩) ?_
  refine P.append_list (wpAny_Name (wpAny_loadName_local k0 k2 (by rw [k3]; exact D.ns 0 rfl) rfl ⟨_, n, ?_, hl, ?_⟩))
  · rw [List.size_toArray, sizeLine_eq]; omega
  · refine wpAny_execs_nil (h _ _ ?_)
    exact (D.lmap (its' := ws ++ [v]) 3 rfl hl (by simp)).drop
end
end Mine
end
-- Lx2
section
open PySem PySem.W PyProof.Rows PySem.Calls
set_option Elab.async false
set_option maxRecDepth 100000
namespace Mine
def rdStmt : Stmt := (fBody (topStmt 12)).getD 1 (.Pass ⟨0, 0, 0, 0⟩)
def rdBody : List Stmt := fBody rdStmt
def rdQual : Str := Str.ofString "_law_lexer.<locals>._law_read_on"
/-- the reader of a lexer: a closure over the cells of at and text -/
def rdI (ca ct c : Addr) : Itm := fun o => ∃ fd : FuncData, o.cls = .type "function" ∧ o.data = .func fd ∧ fd.body = .stmts rdBody ∧ fd.scope = fScope rdStmt ∧ fd.params = fArgs rdStmt ∧ fd.defaults = .none ∧ fd.kwdefaults = .none ∧
  fd.closure = [(Str.ofString "text", ct), (Str.ofString "at", ca)] ∧ fd.globals = mainGlobals ∧ fd.builtins = builtinsNs ∧ fd.code = .ref c ∧ fd.qualname = rdQual
/-- the sign at a place, or none -/
def signAt (x : Str) (i : Nat) : Str := ⟨((x.cps.toList.drop i).take 1).toArray⟩
theorem slice1 {x : Str} {t tp tq : Tok} {i : Nat} {Q : Value → Shared → Prop} {s : Shared} (hx : x.length ≤ sizeLine) (h : ∀ tk tk', Q (.str (signAt x i) tk) { s with toks := tk' }) :
    (sliceMade x t (some (i, tp)) (some ((i : Int) + 1, tq)) none).post Q s := by
  have key : slicePicked x (some (i, tp)) (some ((i : Int) + 1, tq)) none = if i < x.length then [i] else [] := by
    have e1 : slicePicked x (some (i, tp)) (some ((i : Int) + 1, tq)) none = sliceRange ((min i x.length : Nat) : Int) ((min (i + 1) x.length : Nat) : Int) 1 := by
      unfold slicePicked Builtin.Str.strSliceIndices
      simp only [Option.map_some, Option.map_none, Option.getD_none]
      congr 1 <;> (rw [if_pos (by decide)]; split <;> omega)
    rw [e1, sliceRange_one]
    by_cases hi : i < x.length
    · rw [if_pos hi, Nat.min_eq_left (Nat.le_of_lt hi), Nat.min_eq_left hi, show i.succ - i = 1 by omega]; rfl
    · rw [if_neg hi, Nat.min_eq_right (by omega), Nat.min_eq_right (by omega), Nat.sub_self]; rfl
  have hs : (⟨((slicePicked x (some (i, tp)) (some ((i : Int) + 1, tq)) none).filterMap (x.cps[·]?)).toArray⟩ : Str) = signAt x i := by
    rw [key]
    unfold signAt
    by_cases hi : i < x.length
    · rw [if_pos hi]
      have hi' : i < x.cps.toList.length := by simpa [Str.length] using hi
      rw [List.drop_eq_getElem_cons hi']
      simp [Str.length] at hi
      simp [hi]
    · rw [if_neg hi]
      have hi' : x.cps.toList.length ≤ i := by simpa [Str.length] using hi
      rw [List.drop_eq_nil_of_le hi']; rfl
  have hl : (signAt x i).length ≤ 1 := by unfold signAt Str.length; simp; omega
  unfold sliceMade
  split
  · rename_i hq
    have hlen : (slicePicked x (some (i, tp)) (some ((i : Int) + 1, tq)) none).length = x.length := by simpa using hq
    have hsx : signAt x i = x := by
      rw [← hs]
      rw [key] at hlen ⊢
      by_cases hi : i < x.length
      · rw [if_pos hi] at hlen ⊢
        have h1 : x.length = 1 := by simpa using hlen.symm
        have h0 : i = 0 := by omega
        subst h0
        obtain ⟨⟨l⟩⟩ := x
        simp [Str.length] at h1
        match l, h1 with
        | [a], _ => rfl
      · rw [if_neg hi] at hlen ⊢
        obtain ⟨⟨l⟩⟩ := x
        simp [Str.length] at hlen
        have : l = [] := List.eq_nil_of_length_eq_zero hlen.symm
        subst this; rfl
    have := h t s.toks
    rw [hsx] at this
    exact this
  · rw [hs]
    exact ⟨Nat.le_trans hl (by rw [sizeLine_eq]; decide), h _ _⟩
end Mine
end
-- Lx3
section
open PySem PySem.W PyProof.Rows PySem.Calls
set_option Elab.async false
set_option maxRecDepth 100000
namespace Mine
section
variable {w : World} {mg mb : Str → Option Value} {h₀ : Heap} {A : Around} {E : Value → Shared → Prop} {s : Shared} {Q : Value → Shared → Prop} {l r : List (Addr × Itm)} {rd ca ct c t : Addr} {x : Str} {t1 : Tok} {i : Nat}
theorem rd_ct {j : Nat} (G : Gr w mg mb h₀) (D : Led h₀ s.heap l) (hrd : (rd, rdI ca ct c) ∈ l) (hca : (ca, cellI (some (.ref t))) ∈ l) (hct : (ct, txtI x) ∈ l) (hj : l[j]? = some (t, posI i)) (hcd : (c, codI rdQual) ∈ l) (hA : A.depth < recursionLimit)
    (hx : x.length ≤ 1000)
    (h : ∀ h' tk tk', Led h₀ h' (l.set j (t, posI (i + (signAt x i).length))) → Q (.str (signAt x i) tk) { s with heap := h', toks := tk' }) :
    wpAny (model prog w) A (call (.ref rd) [.int 1 t1]) Q E s := by
  obtain ⟨o, ho, fd, hc, hd, f1, f2, f3, f4, f5, f6, f7, f8, f9, f10⟩ := D.getM hrd
  obtain ⟨name, qualname, params, body, scope, globals, closure, defaults, kwdefaults, doc, pyModule, annotations, code, closureTuple, builtins⟩ := fd
  dsimp only at f1 f2 f3 f4 f5 f6 f7 f8 f9 f10
  subst f1 f2 f3 f4 f5 f6 f7 f8 f9 f10
  refine call_fn (binds := [(Str.ofString "size", .int 1 t1)]) ho hd rfl (D.getM hcd).cod (G.lim.keeps D.keep) rfl (locs rfl) (by show ∀ x ∈ (fScope rdStmt).names, x.2 ≠ .cell; decide) hA ?_
  intro h₁ tk F
  replace D := Fr.led D F
  clear F ho hd
  generalize hE : callEnv _ _ _ = env
  have k0 : env.scope.kind = .function := by rw [← hE]; rfl
  have k1 : env.kindOf (Str.ofString "text") = some .free := by rw [← hE]; rfl
  have k2 : env.kindOf (Str.ofString "at") = some .free := by rw [← hE]; rfl
  have k3 : env.kindOf (Str.ofString "size") = some .local := by rw [← hE]; rfl
  have k4 : env.kindOf (Str.ofString "sign") = some .local := by rw [← hE]; rfl
  have k5 : env.kindOf (Str.ofString "len") = some .globalImplicit := by rw [← hE]; rfl
  have c1 : env.cells.lookup (Str.ofString "text") = some ct := by rw [← hE]; rfl
  have c2 : env.cells.lookup (Str.ofString "at") = some ca := by rw [← hE]; rfl
  have e1 : env.globals = mainGlobals := by rw [← hE]; rfl
  have e2 : env.builtins = builtinsNs := by rw [← hE]; rfl
  have e3 : env.locals = s.heap.objs.size := by rw [← hE]; rfl
  have e4 : (env.scope.kind == .class || (env.scope.kind == .module && env.locals != env.globals)) = false := by rw [k0]; rfl
  rw [← e3] at D
  clear hE
  generalize hs1 : A.deeper env = A1
  have hat : ∀ {pos p2 p3 : Pos} {k : Nat} {s₁ : Shared} {m : Itm} {tp : Tok} {Q : Value → Shared → Prop}, Led h₀ s₁.heap ((env.locals, m) :: l) → s₁.heap.IsList t [.int i tp].toArray → (∀ tk, Q (.int i tp) { s₁ with toks := tk }) →
      wpAny (model prog w) A1 (eval (.Subscript (.Name (Str.ofString "at") pos) (.Constant (.int 0) k p2) p3) env) Q (fun _ _ => False) s₁ := by
    intro pos p2 p3 k s₁ m tp Q D hl h
    refine Subscript_ (nmF k0 k2 c2 (D.getM (.tail _ hca)).cell (wpAny_Constant_int ?_))
    exact item_list hl (by decide) (by decide) rfl (h _)
  obtain ⟨tp, ht⟩ := (D.getM (.tail _ (List.mem_of_getElem? hj))).pos
  obtain ⟨tx, hx2⟩ := (D.getM (.tail _ hct)).txt
  refine wpAny_execs_cons (wpAny_Assign_Name (wpAny_Subscript_str_slice (nmF k0 k1 c1 hx2 ?_)))
  refine hat D ht fun tk => ?_
  refine wpAny_BinOp (hat D ht fun tk => nmL k0 k3 (D.ns 0 rfl) rfl (add_int ⟨_, _, some (i, _), some ((i : Int) + 1, _), rfl, rfl, rfl, ?_⟩))
  replace D := D.push (o := { cls := .type "slice", data := .fields #[.int i tp, .int (i + 1) tk, .none] }) (P := fun _ => True) rfl trivial
  refine slice1 (by rw [sizeLine_eq]; omega) fun tk tk' => ?_
  refine wpAny_storeName_local k4 (D.ns 1 rfl) (fun h' hn hs => ?_) e4
  replace D := (D.drop.same 0 rfl hs (At.of_ns hn))
  dsimp only
  obtain ⟨tp, ht⟩ := (D.getM (.tail _ (List.mem_of_getElem? hj))).pos
  refine wpAny_execs_cons (wpAny_Assign_Subscript (wpAny_BinOp (hat D ht fun tk => ?_)))
  refine wpAny_Call_NameR (nmB G D k0 k5 e1 e2 (by kernel_rfl) (v := .builtin "len") (by kernel_rfl) ?_)
  refine callWith_builtin rfl (evalArgs_plain (spliced_cons (nmL k0 k4 (D.ns 0 rfl) rfl (spliced_nil ?_))))
  have hl : (signAt x i).length ≤ 1 := by unfold signAt Str.length; simp; omega
  refine len_str (by omega) (add_int ?_)
  dsimp only
  refine nmF k0 k2 c2 (D.getM (.tail _ hca)).cell (wpAny_Constant_int ?_)
  refine wpAny_setItem_list ht (by decide) (by decide) (by show (0 : Int) < 1; decide) fun h2 hl2 hs2 => ?_
  replace D := D.same (P' := posI (i + (signAt x i).length)) (j + 1) hj hs2 (At.of_pos hl2)
  dsimp only
  refine wpAny_execs_cons (wpAny_Return_some (nmL k0 k4 (D.ns 0 rfl) rfl ?_))
  exact h _ _ _ D.drop
end
end Mine
end
-- Lx4
section
open PySem PySem.W PyProof.Rows PySem.Calls
set_option Elab.async false
set_option maxRecDepth 100000
namespace Mine
theorem lkF_ga : typeLookup (.type "function") "__getattribute__" = pure (some (.builtin "object.__getattribute__")) := by rw [typeLookup_type, builtinLookup_eq_fast]; kernel_rfl
theorem lkF_gt : typeLookup (.type "function") "__getattr__" = pure none := by rw [typeLookup_type, builtinLookup_eq_fast]; kernel_rfl
theorem lkF_rd : typeLookup (.type "function") (Str.ofString "read") = pure none := by rw [typeLookup_type, builtinLookup_eq_fast]; kernel_rfl
theorem slotF_ga : Slot "function" "__getattribute__" "object.__getattribute__" :=
  .of (owner := "object") (n := "__getattribute__") (by rw [typeLookup_type, builtinLookup_eq_fast]; kernel_rfl) (by decide +kernel) (by decide +kernel) (by decide +kernel)
    (by first | exact .inl (by decide +kernel) | exact .inr (by decide +kernel)) (by rw [isSubtype_type]; kernel_rfl)
theorem entry_ga : entryFor table "object.__getattribute__" = some Builtin.«object.__getattribute__» := entryFor_of_tree (by kernel_rfl)
theorem args_ga (a b : Value) : argsOk "object.__getattribute__" ⟨[a, b], []⟩ := by unfold argsOk; kernel_rfl
/-- a function object with a dict of its own -/
def strI (fd : Addr) : Itm := fun o => o.cls = .type "function" ∧ o.dict = some fd ∧ ∃ f, o.data = .func f
section
variable {w : World} {prog : Program} {A : Around} {E : Value → Shared → Prop} {s : Shared} {Q : Value → Shared → Prop} {f fd rd : Addr} {m : Str → Option Value}
theorem call_slot {T : String} {name : Str} {id : String} {B : Builtin} {self : Value} {rest : List Value} (S : Slot T name id) (hb : entryFor table id = some B) (hT : s.TypeIs self T) (ha : argsOk id ⟨self :: rest, []⟩)
    (h : wpAny (model prog w) A.in1 (B ⟨self :: rest, []⟩) (fun fin s' => ∃ v, fin = .done (.ret v) ∧ Q v s') E s) : wpAny (model prog w) A (call (.builtin id) (self :: rest)) Q E s := by
  refine wpAny_call (codeAny_call_builtin S.plain hb (S.check _ _ _ _ _ _ _ _ hT ha (wpAny_mono h (fun fin s' q => ?_) fun _ _ e => e)))
  obtain ⟨v, rfl, q⟩ := q
  exact q
theorem fn_read {pl : Sem Bool} {Q : Value × List Value → Shared → Prop} (hf : At s.heap f (strI fd)) (hd : s.heap.Ns fd m) (hm : m (Str.ofString "read") = some (.ref rd)) (h : ∀ tk, Q (.ref rd, []) { s with toks := tk }) :
    wpAny (model prog w) A (getMethod (.ref f) (Str.ofString "read") pl) Q E s := by
  obtain ⟨o, ho, h1, h2, fdd, h3⟩ := hf
  have hT : s.TypeIs (.ref f) "function" := ⟨o, ho, h1⟩
  unfold getMethod
  refine wpAny_bind (wpAny_specialOf hT lkF_ga ?_)
  dsimp only
  rw [if_neg (by decide +kernel)]
  refine wpAny_bind (wpAny_specialOf hT lkF_gt ?_)
  rw [if_neg (by decide)]
  refine wpAny_bind (wpAny_specialOf hT lkF_rd ?_)
  dsimp only
  refine wpAny_bind ?_
  unfold getAttr
  refine wpAny_bind (wpAny_mkText ?_)
  unfold getAttrBy
  refine wpAny_holding (wpAny_bind (wpAny_typeOf hT ?_))
  rw [lkF_ga]
  refine wpAny_bind (wpAny_pure ?_)
  dsimp only
  rw [if_neg (by decide +kernel)]
  unfold getAttrByItsOwn
  refine wpAny_bind (wpAny_pure ?_)
  refine wpAny_bind (wpAny_attempt (wpAny_holding ?_))
  unfold callGetattribute boundAndCalled
  rw [if_neg (by decide +kernel), slotF_ga.bind]
  refine wpAny_bind (wpAny_pure ?_)
  dsimp only
  refine call_slot slotF_ga entry_ga (by exact hT) (args_ga _ _) ?_
  unfold Builtin.«object.__getattribute__»
  refine wpAny_bind (wpAny_of_eq (a := (.ref f, [.str (Str.ofString "read") s.toks])) rfl ?_)
  dsimp only
  refine wpAny_bind (wpAny_of_eq (a := Str.ofString "read") rfl ?_)
  refine wpAny_bind (wpAny_typeOf (by exact hT) ?_)
  unfold Builtin.ObjectAttr.find
  refine wpAny_bind ?_
  rw [lkF_rd]
  refine wpAny_bind (wpAny_pure ?_)
  refine wpAny_bind (wpAny_pure ?_)
  refine wpAny_bind (wpAny_pure ?_)
  dsimp only
  unfold Builtin.ObjectAttr.ownThenClass Builtin.ObjectAttr.inOwnDict Builtin.ObjectAttr.ownDict
  refine wpAny_bind (wpAny_bind (wpAny_bind ?_))
  unfold loadHead
  refine wpAny_loadPart ho ?_
  rw [h3]
  dsimp only
  unfold instanceDict
  refine wpAny_bind (wpAny_loadPart ho ?_)
  rw [h1, h2]
  refine wpAny_pure ?_
  refine wpAny_nsGet (by exact hd) ?_
  rw [hm]
  refine wpAny_bind (wpAny_rule ?_)
  refine wpAny_pure (wpAny_pure ⟨_, rfl, handed_on rfl (wpAny_pure (h _))⟩)
end
end Mine
end
-- Lx5
section
open PySem PySem.W PyProof.Rows PySem.Calls
set_option Elab.async false
set_option maxRecDepth 100000
namespace Mine
section
variable {w : World} {mg mb : Str → Option Value} {h₀ : Heap} {A : Around} {E : Value → Shared → Prop} {s : Shared} {Q : Value → Shared → Prop} {l r : List (Addr × Itm)} {x d p f : Addr} {line : Int} {ws : List Value} {v : Value}
/-- a store into the dict of an object of _netrclex -/
theorem set_lex {Q : Unit → Shared → Prop} {name : Str} {es : List DictEntry} {n : Nat} (G : Gr w mg mb h₀) (D : Led h₀ s.heap l) (hx : s.heap.get? x = some (instObj 100 d)) (hd : s.heap.get? d = some (dictOf es n))
    (ht : takerIn (Mine.hd.heap_39 w.params) 100 name = some none) (hl : (getL name es).isSome = true) (hz : (putL name (PyData.keyHash w.params name) (.str name (s.toks + 1)) v es).length ≤ 1000)
    (h : ∀ h' k t tk', Heap.SameBut d s.heap h' → h'.get? d = some (dictOf (putL name k (.str name t) v es) (putN name es n)) → Q () { s with heap := h', toks := tk' }) :
    wpAny (model prog w) A (setAttr (.ref x) name v) Q E s := by
  have X := G.X.keeps D.keep
  have I := instAt_of (od := dictOf es n) hx hd
  refine set_plain X I (by kernel_rfl) (osa_open (s := { s with toks := s.toks + 1 }) X I (by kernel_rfl) ht fun b => ?_)
  obtain ⟨cd, hc, hd'⟩ := any_some (show (clsIn (Mine.hd.heap_39 w.params) 100).any (·.hasDict) = true by kernel_rfl)
  have hp := putName_dict name (PyData.keyHash w.params name) (.str name (s.toks + 1)) v es n
  have D' : (s.heap.update d (Obj.putName name (PyData.keyHash w.params name) (.str name (s.toks + 1)) v)).get? d = some (dictOf (putL name (PyData.keyHash w.params name) (.str name (s.toks + 1)) v es) (putN name es n)) := by
    rw [← hp]; exact Heap.get?_update_self _ hd (by rw [hp]; rfl)
  refine wpAny_bind (wpAny_pure (wpAny_bind (wpAny_bind (wpAny_loadPart hx (wpAny_bind (Looks.here (s := { s with toks := s.toks + 1 }) (looks_clsIn X hc) ?_))))))
  rw [hd']
  refine wpAny_pure (a := some d) (wpAny_bind (wpAny_pure (wpAny_bind ?_)))
  unfold nsSet
  refine wpAny_bind (wpAny_bind (wpAny_askSetting (wpAny_pure (wpAny_bind (wpAny_mkText (wpAny_bind (wpAny_loadPart hd ?_)))))))
  dsimp only
  have c : (!es.toArray.any (·.key.isStr name) && es.toArray.any (·.refKey)) = false := by
    rw [List.any_toArray, List.any_toArray]
    unfold getL at hl
    split at hl
    · rename_i en he
      rw [List.any_eq_true.mpr ⟨en, List.mem_of_find?_eq_some he, List.find?_some he⟩]; rfl
    · split at hl
      · cases hl
      · rename_i z; rw [Bool.not_eq_true] at z; rw [z, Bool.and_false]
  rw [aRefKeyMayBeTheName_at, c]
  refine wpAny_updatePart hd ?_
  refine wpAny_bind (wpAny_lookBehind D' (pastItsLine_dict (by rw [List.size_toArray, sizeLine_eq]; omega)) ?_)
  exact wpAny_pure (h _ _ _ _ (Heap.SameBut.update ..) D')
end
end Mine
end
-- Lx6
section
open PySem PySem.W PyProof.Rows PySem.Calls
set_option Elab.async false
set_option maxRecDepth 100000
namespace Mine
structure LX where
  (o d p f fd rd ca ct t c : Addr)
def fdI (rd : Addr) : Itm := fun o => ∃ m, nsI m o ∧ m (Str.ofString "read") = some (.ref rd)
def lexE (X : LX) (x : Str) (i : Nat) (line : Int) (ws : List Value) : List (Addr × Itm) := [
  (X.o, objI (instObj 100 X.d)), (X.d, dicI line X.f X.p), (X.p, lstI ws), (X.f, strI X.fd), (X.fd, fdI X.rd), (X.rd, rdI X.ca X.ct X.c), (X.ca, cellI (some (.ref X.t))), (X.ct, txtI x), (X.t, posI i)]
def nlS : Str := Str.ofString "\n"
def lineB (line : Int) (ch : Str) : Int := if ch == nlS then line + 1 else line
section
variable {w : World} {mg mb : Str → Option Value} {h₀ : Heap} {A : Around} {E : Value → Shared → Prop} {s : Shared} {Q : Value → Shared → Prop} {l r : List (Addr × Itm)} {X : LX} {x : Str} {i : Nat} {line : Int} {ws : List Value} {v : Value}
theorem lex_attr {e : Bool} {name : Str} {y d f p : Addr} (G : Gr w mg mb h₀) (D : Led h₀ s.heap l) (hx : s.heap.get? y = some (instObj 100 d)) (hd : At s.heap d (dicI line f p))
    (ha : findIn (Mine.hd.heap_39 w.params) (.ref 100) name = some none)
    (h : ∀ k1 k2 k3 k4 t1 t2 t3 t4 t5 t6 n, ∃ v, lookIn name (dictOf [⟨k1, .str (Str.ofString "lineno") t1, .int line t5⟩, ⟨k2, .str (Str.ofString "instream") t2, .ref f⟩,
      ⟨k3, .str (Str.ofString "whitespace") t3, .str wsp t6⟩, ⟨k4, .str (Str.ofString "pushback") t4, .ref p⟩] n) = some (some v) ∧ handedIn v = true ∧ ∀ tk, Q v { s with toks := tk }) :
    wpAny (model prog w) A (getAttr (.ref y) name e) Q E s := by
  obtain ⟨od, ed, k1, k2, k3, k4, t1, t2, t3, t4, t5, t6, n, rfl⟩ := hd
  obtain ⟨v, hv, hh, h⟩ := h k1 k2 k3 k4 t1 t2 t3 t4 t5 t6 n
  exact get_value (G.X.keeps D.keep) (instAt_of hx ed) (by kernel_rfl) (findObj_own (attr := none) (by kernel_rfl) ha (by kernel_rfl) hv) hh (h _)
theorem keeps_rd {M : Model} {rd ca ct c : Addr} (h : Heap) (hP : At h rd (rdI ca ct c)) : ∃ k, (k = Keeper.frame ∨ k = Keeper.machine ∨ k = Keeper.boundFrame) ∧ Looks M h (keeperOf (.ref rd)) k := by
  obtain ⟨o, ho, fd, hc, hd, _⟩ := hP
  refine ⟨.frame, .inl rfl, (Looks.ld (part := none) ho).andThen ?_⟩
  rw [hd]
  exact .now
theorem rc_code (G : Gr w mg mb h₀) (D : Led h₀ s.heap (lexE X x i line ws ++ r)) (hcd : (X.c, codI rdQual) ∈ r) (hA : A.depth + 1 < recursionLimit) (hx : x.length ≤ 1000)
    (h : ∀ h' tk tk', Led h₀ h' (lexE X x (i + (signAt x i).length) (lineB line (signAt x i)) ws ++ r) → Q (.str (signAt x i) tk) { s with heap := h', toks := tk' }) :
    codeAny (model prog w) A (.call (.ref 83) ⟨[.ref X.o], []⟩) (Rv Q) s := by
  refine code_fn (binds := [(Str.ofString "self", .ref X.o)]) (D.keep _ _ (G.X 83 _ rfl)) rfl rfl (Heap.CodeRec.keeps ⟨_, _, _, _, rfl, G.X 82 _ rfl, rfl, rfl⟩ D.keep) (G.lim.keeps D.keep) rfl (locs rfl) (by decide) (by omega) ?_
  intro h₁ tk F
  replace D := Fr.led D F
  clear F
  generalize hE : callEnv _ _ _ = env
  have q0 : env.scope.kind = .function := by rw [← hE]; rfl
  have q1 : env.kindOf (Str.ofString "self") = some .local := by rw [← hE]; rfl
  have q2 : env.kindOf (Str.ofString "ch") = some .local := by rw [← hE]; rfl
  have e3 : env.locals = s.heap.objs.size := by rw [← hE]; rfl
  have e4 : (env.scope.kind == .class || (env.scope.kind == .module && env.locals != env.globals)) = false := by rw [q0]; rfl
  rw [← e3] at D
  clear hE
  generalize hs1 : A.deeper env = A1
  have hA1 : A1.depth < recursionLimit := by rw [← hs1]; exact hA
  refine wpAny_execs_cons (wpAny_Assign_Name (MethodCall_ (Attribute_Name_ (nmL q0 q1 (D.ns 0 rfl) rfl ?_))))
  refine lex_attr G D (D.ob 1 rfl) (D.get 2 rfl) (by kernel_rfl) fun k1 k2 k3 k4 t1 t2 t3 t4 t5 t6 n => ⟨_, rfl, rfl, fun tk => ?_⟩
  obtain ⟨om, eom, mm, hnm, hmm⟩ := D.get 5 rfl
  refine fn_read (D.get 4 rfl) (At.ns ⟨om, eom, hnm⟩) hmm fun tk => ?_
  refine callWith1 (P := fun h => At h X.rd (rdI X.ca X.ct X.c)) keeps_rd (wpAny_Constant_int ⟨D.get 6 rfl, ?_⟩)
  refine rd_ct (j := 9) G D (List.mem_of_getElem? (i := 6) rfl) (List.mem_of_getElem? (i := 7) rfl) (List.mem_of_getElem? (i := 8) rfl) rfl (by simp [hcd]) hA1 hx fun h' tk tk' D => ?_
  replace D : Led h₀ h' ((env.locals, nsI (fun x_1 => List.lookup x_1 [(Str.ofString "self", Value.ref X.o)].reverse)) :: (lexE X x (i + (signAt x i).length) line ws ++ r)) := D
  refine wpAny_storeName_local q2 (D.ns 0 rfl) (fun h' hn hs => ?_) e4
  replace D := D.same 0 rfl hs (At.of_ns hn)
  dsimp only
  refine wpAny_execs_cons (wpAny_If (wpAny_isTrue_Compare1 (nmL q0 q2 (D.ns 0 rfl) rfl (wpAny_Constant_str (eq_str (wpAny_truthy_bool ?_))))))
  by_cases hc : (signAt x i == Str.ofString "\n") = true
  · rw [if_pos hc]
    have hln : lineB line (signAt x i) = line + 1 := if_pos hc
    rw [hln] at h
    obtain ⟨od, ed, k1, k2, k3, k4, t1, t2, t3, t4, t5, t6, n, rfl⟩ := D.get 2 rfl
    refine wpAny_execs_cons (wpAny_AugAssign_AttributeAny (nmL q0 q1 (D.ns 0 rfl) rfl ?_))
    refine get_value (G.X.keeps D.keep) (instAt_of (D.ob 1 rfl) ed) (by kernel_rfl) (findObj_own (attr := none) (by kernel_rfl) (by kernel_rfl) (by kernel_rfl) rfl) rfl ?_
    refine wpAny_Constant_int (iadd_int ?_)
    refine set_lex G D (D.ob 1 rfl) ed (by kernel_rfl) rfl (by show 4 ≤ 1000; decide) fun h3 kk tt tk3 hs3 hd3 => ?_
    replace D := D.same (P' := dicI (line + 1) X.f X.p) 2 rfl hs3 ⟨_, hd3, k1, k2, k3, k4, t1, t2, t3, t4, _, t6, n, rfl⟩
    refine wpAny_execs_nil ?_
    dsimp only
    refine wpAny_execs_cons (wpAny_Return_some (nmL q0 q2 (D.ns 0 rfl) rfl ?_))
    exact h _ _ _ D.drop
  · rw [if_neg hc]
    have hln : lineB line (signAt x i) = line := if_neg hc
    rw [hln] at h
    refine wpAny_execs_nil ?_
    dsimp only
    refine wpAny_execs_cons (wpAny_Return_some (nmL q0 q2 (D.ns 0 rfl) rfl ?_))
    exact h _ _ _ D.drop
theorem rc_ct (G : Gr w mg mb h₀) (D : Led h₀ s.heap (lexE X x i line ws ++ r)) (hcd : (X.c, codI rdQual) ∈ r) (hA : A.depth + 1 < recursionLimit) (hx : x.length ≤ 1000)
    (h : ∀ h' tk tk', Led h₀ h' (lexE X x (i + (signAt x i).length) (lineB line (signAt x i)) ws ++ r) → Q (.str (signAt x i) tk) { s with heap := h', toks := tk' }) :
    wpAny (model prog w) A (call (.ref 83) [.ref X.o]) Q E s := call_of (rc_code G D hcd hA hx h)
end
end Mine
end
-- Lx7
section
open PySem PySem.W PyProof.Rows PySem.Calls
set_option Elab.async false
set_option maxRecDepth 100000
namespace Mine
theorem slotC_next : Slot "callable_iterator" "__next__" "callable_iterator.__next__" :=
  .of (owner := "callable_iterator") (n := "__next__") (by rw [typeLookup_type, builtinLookup_eq_fast]; kernel_rfl) (by decide +kernel) (by decide +kernel) (by decide +kernel)
    (by first | exact .inl (by decide +kernel) | exact .inr (by decide +kernel)) (by rw [isSubtype_type]; kernel_rfl)
theorem slotC_iter : Slot "callable_iterator" "__iter__" "callable_iterator.__iter__" :=
  .of (owner := "callable_iterator") (n := "__iter__") (by rw [typeLookup_type, builtinLookup_eq_fast]; kernel_rfl) (by decide +kernel) (by decide +kernel) (by decide +kernel)
    (by first | exact .inl (by decide +kernel) | exact .inr (by decide +kernel)) (by rw [isSubtype_type]; kernel_rfl)
theorem entryC_next : entryFor table "callable_iterator.__next__" = some Builtin.«callable_iterator.__next__» := entryFor_of_tree (by kernel_rfl)
theorem argsC_next (a : Value) : argsOk "callable_iterator.__next__" ⟨[a], []⟩ := by unfold argsOk; kernel_rfl
def citI (m : Addr) : Itm := fun o => ∃ t, o = { cls := .type "callable_iterator", data := .fields #[.ref m, .str Str.empty t, .bool false] }
def anyI : Itm := fun _ => True
section
variable {w : World} {mg mb : Str → Option Value} {h₀ : Heap} {A : Around} {E : Value → Shared → Prop} {s : Shared} {l r : List (Addr × Itm)} {X : LX} {x : Str} {i : Nat} {line : Int} {ws : List Value} {v : Value} {it m : Addr}
theorem borrows_meth {M : Model} {f self : Addr} {of : Obj} {fd : FuncData} {Q : Bool → Shared → Prop} (hom : s.heap.get? m = some (methodObj (.ref f) (.ref self))) (hf : s.heap.get? f = some of) (hd : of.data = .func fd) (h : Q true s) :
    wpAny M A (borrowsExactly (.ref m)) Q E s := by
  unfold borrowsExactly
  refine wpAny_bind (wpAny_load hom ?_)
  dsimp only
  rw [if_pos (by decide)]
  refine wpAny_bind (wpAny_load hf ?_)
  rw [hd]
  exact wpAny_pure h
theorem nx_ct {j : Nat} {Q : Option Value → Shared → Prop} (G : Gr w mg mb h₀) (D : Led h₀ s.heap (lexE X x i line ws ++ r)) (hcd : (X.c, codI rdQual) ∈ r) (hit : r[j]? = some (it, citI m)) (hm : (m, objI (methodObj (.ref 83) (.ref X.o))) ∈ r)
    (hA : A.depth + 1 < recursionLimit) (hh : A.handled = none) (hx : x.length ≤ 1000)
    (h1 : signAt x i ≠ Str.empty → ∀ h' tk tk', Led h₀ h' (lexE X x (i + (signAt x i).length) (lineB line (signAt x i)) ws ++ r) → Q (some (.str (signAt x i) tk)) { s with heap := h', toks := tk' })
    (h2 : signAt x i = Str.empty → ∀ h' tk', Led h₀ h' (lexE X x i line ws ++ r.set j (it, anyI)) → Q none { s with heap := h', toks := tk' }) :
    wpAny (model prog w) A (pyNext (.ref it)) Q E s := by
  obtain ⟨o, ho, t, rfl⟩ := D.getM (List.mem_append_right _ (List.mem_of_getElem? hit))
  have hom := (D.getM (List.mem_append_right _ hm)).obj
  have hT : s.TypeIs (.ref it) "callable_iterator" := ⟨_, ho, rfl⟩
  unfold pyNext
  refine wpAny_bind (wpAny_attempt (wpAny_callSpecial?_slot (name := Str.ofString "__next__") hT slotC_next (wpAny_call_entry slotC_next hT entryC_next ?_ (argsC_next _))))
  unfold Builtin.«callable_iterator.__next__»
  refine wpAny_bind (wpAny_of_eq (a := (.ref it, [])) rfl ?_)
  refine wpAny_bind (wpAny_field ho rfl (x := .bool false) rfl ?_)
  rw [if_neg (by decide)]
  refine wpAny_bind (wpAny_field ho rfl (x := .ref m) rfl ?_)
  refine wpAny_bind (wpAny_attempt ?_)
  unfold callOutOfASlot
  refine wpAny_bind (borrows_meth hom (D.keep _ _ (G.X 83 _ rfl)) rfl ?_)
  rw [if_pos rfl]
  unfold callBorrowed
  refine PySem.W.X.x_call ?_ (by intro q; cases q)
  refine method_call hom (codeAny_mono (rc_code (Q := fun v s' => ∃ h' tk tk', v = .str (signAt x i) tk ∧ s' = { s with heap := h', toks := tk' } ∧ Led h₀ h' (lexE X x (i + (signAt x i).length) (lineB line (signAt x i)) ws ++ r))
    G D hcd hA hx fun h' tk tk' D => ⟨h', tk, tk', rfl, rfl, D⟩) fun rr s' q => ?_)
  rcases rr with e | (_ | _ | _ | v)
  · exact q.elim
  · exact q.elim
  · exact q.elim
  · exact q.elim
  obtain ⟨h', tk, tk', rfl, rfl, D'⟩ := q
  refine wpAny_pure ?_
  obtain ⟨o, ho, t, rfl⟩ := D'.getM (List.mem_append_right _ (List.mem_of_getElem? hit))
  refine wpAny_bind (wpAny_field ho rfl (x := .bool false) rfl ?_)
  dsimp only
  rw [if_neg (by decide)]
  refine wpAny_bind (wpAny_field ho rfl (x := .str Str.empty t) rfl ?_)
  refine wpAny_bind (wpAny_holding ?_)
  refine PyProof.Rows.eqBool_str ?_
  by_cases hc : signAt x i = Str.empty
  · have hl0 : (signAt x i).length = 0 := by rw [hc]; rfl
    have hn : lineB line (signAt x i) = line := if_neg (by rw [hc]; decide)
    rw [hl0, Nat.add_zero, hn] at D'
    rw [if_neg (by rw [hc]; decide)]
    refine wpAny_bind (wpAny_rule (wpAny_bind ?_))
    have hom := (D'.getM (List.mem_append_right _ hm)).obj
    refine wpAny_bind (m := field (.ref it) 0) (wpAny_field ho rfl (x := .ref m) rfl ?_)
    refine wpAny_bind (wpAny_bind (borrows_meth hom (D'.keep _ _ (G.X 83 _ rfl)) rfl (wpAny_pure ?_)))
    refine wpAny_bind (wpAny_setField_rec ho (by simp) fun h3 ho3 hs3 => ?_)
    refine wpAny_bind (wpAny_setField_rec ho3 (by simp) fun h4 ho4 hs4 => ?_)
    refine wpAny_setField_rec ho4 (by simp) fun h5 ho5 hs5 => ?_
    have D5 := D'.same (P' := anyI) ((lexE X x i line ws).length + j) (by rw [List.getElem?_append_right (Nat.le_add_right ..), Nat.add_sub_cancel_left]; exact hit) (hs3.trans (hs4.trans hs5)) ⟨_, ho5, trivial⟩
    rw [List.set_append_right _ _ (Nat.le_add_right ..), Nat.add_sub_cancel_left] at D5
    show wpAny _ _ (newExc (.type "StopIteration") [] >>= _) _ _ _
    refine wpAny_bind ?_
    simp only [newExc, newTuple]
    refine wpAny_bind (wpAny_newObj_type ?_ (by size_fits))
    refine wpAny_bind (m := firstArgMember _ _) (wpAny_of_eq (a := Value.none) (by first | rfl | (simp only [firstArgMember]; rfl)) ?_)
    refine wpAny_newObj_type ?_ (by size_fits)
    simp only [raiseNew]
    refine wpAny_bind (wpAny_handled ?_)
    rw [show A.in1.handled = none from hh]
    refine wpAny_bind (wpAny_pure (wpAny_throw ?_))
    refine wpAny_bind (wpAny_isInstance (T := "StopIteration") (b := true) ⟨_, Heap.get?_push_size _ rfl, rfl⟩ isSubtype_stop ?_)
    refine wpAny_pure (h2 hc _ _ (D5.keeps (fun b o e => Heap.get?_push_of_some _ (Heap.get?_push_of_some _ e)) (by rw [Heap.size_push, Heap.size_push]; omega)))
  · rw [if_pos (by rw [show (Str.empty == signAt x i) = false from beq_eq_false_iff_ne.mpr (Ne.symm hc)]; rfl)]
    exact wpAny_pure ⟨_, rfl, wpAny_pure (h1 hc _ _ _ D')⟩
end
end Mine
end
-- Lx8
section
open PySem PySem.W PyProof.Rows PySem.Calls
set_option Elab.async false
set_option maxRecDepth 100000
namespace Mine
/-- the facts of get_token's frame -/
structure GE (env : Env) : Prop where
  q0 : env.scope.kind = .function
  q1 : env.kindOf (Str.ofString "self") = some .local
  q2 : env.kindOf (Str.ofString "ch") = some .local
  q3 : env.kindOf (Str.ofString "token") = some .local
  q4 : env.kindOf (Str.ofString "fiter") = some .local
  q5 : env.kindOf (Str.ofString "iter") = some .globalImplicit
  e1 : env.globals = mainGlobals
  e2 : env.builtins = builtinsNs
  e4 : (env.scope.kind == .class || (env.scope.kind == .module && env.locals != env.globals)) = false
def cBody : Stmt → List Stmt
  | .ClassDef _ _ _ b _ _ _ _ _ _ _ => b
  | _ => []
def gtBody : List Stmt := fBody ((cBody (topStmt 10)).getD 2 (.Pass ⟨0, 0, 0, 0⟩))
section
variable {w : World} {mg mb : Str → Option Value} {h₀ : Heap} {A : Around} {E : Value → Shared → Prop} {s : Shared} {Q : Value → Shared → Prop} {l r : List (Addr × Itm)} {X : LX} {x : Str} {i : Nat} {line : Int} {ws : List Value} {v : Value} {it m : Addr}
theorem gt_enter (G : Gr w mg mb h₀) (D : Led h₀ s.heap (lexE X x i line ws ++ r)) (hA : A.depth < recursionLimit)
    (h : ∀ env h₁ tk, GE env → Led h₀ h₁ (lexE X x i line ws ++ (env.locals, nsI fun y => List.lookup y [(Str.ofString "self", Value.ref X.o)].reverse) :: r) →
      wpAny (model prog w) (A.deeper env) (execs gtBody env) (fun f s' => Q (match f with | .ret v => v | _ => .none) s') (fun _ _ => False) { s with heap := h₁, toks := tk }) :
    wpAny (model prog w) A (call (.ref 90) [.ref X.o]) Q E s := by
  refine call_fn (binds := [(Str.ofString "self", .ref X.o)]) (D.keep _ _ (G.X 90 _ rfl)) rfl rfl (Heap.CodeRec.keeps ⟨_, _, _, _, rfl, G.X 89 _ rfl, rfl, rfl⟩ D.keep) (G.lim.keeps D.keep) rfl (locs rfl) (by decide) hA ?_
  intro h₁ tk F
  exact h _ h₁ tk ⟨rfl, rfl, rfl, rfl, rfl, rfl, rfl, rfl, rfl⟩ ((Fr.led D F).perm List.perm_middle.symm)
theorem lex_pb {env : Env} {m : Str → Option Value} {p1 p2 : Pos} {A : Around} {E : Value → Shared → Prop} (G : Gr w mg mb h₀) (H : GE env) (D : Led h₀ s.heap (lexE X x i line ws ++ (env.locals, nsI m) :: r)) (hm : m (Str.ofString "self") = some (.ref X.o)) (h : ∀ tk, Q (.ref X.p) { s with toks := tk }) :
    wpAny (model prog w) A (eval (.Attribute (.Name (Str.ofString "self") p1) (Str.ofString "pushback") p2) env) Q E s :=
  Attribute_Name_ (nmL H.q0 H.q1 (D.ns 9 rfl) hm (lex_pushback G D (D.ob 0 rfl) (D.get 1 rfl) h))
theorem gt_pop (G : Gr w mg mb h₀) (D : Led h₀ s.heap (lexE X x i line (v :: ws) ++ r)) (hA : A.depth < recursionLimit) (hsz : ws.length ≤ 1000)
    (h : ∀ h' tk', Led h₀ h' (lexE X x i line ws ++ r) → Q v { s with heap := h', toks := tk' }) :
    wpAny (model prog w) A (call (.ref 90) [.ref X.o]) Q E s := by
  refine gt_enter G D hA fun env h₁ tk H D => ?_
  refine wpAny_execs_cons (wpAny_If (wpAny_isTrue_value (lex_pb G H D rfl fun tk => ?_)))
  obtain ⟨n, hl⟩ := (D.get 2 rfl).lst
  refine wpAny_truthy_list hl.isList (by rw [List.size_toArray, List.length_cons]; omega) ?_
  rw [if_pos (by simp)]
  refine wpAny_execs_cons (wpAny_Return_some (MethodCall_ (lex_pb G H D rfl fun tk => ?_)))
  refine getMethod_builtin ⟨_, hl, rfl⟩ PySem.F.plainAttrs_list PySem.F.slot_list_pop PySem.F.type_list_pop (fun a e => by cases e; exact ⟨_, hl, rfl⟩) ?_
  refine one_arg (P.pop_at_list (wpAny_Constant_int ⟨_, n, 0, _, 0, v, ?_, rfl, hl, by decide, ?_, rfl, ?_⟩))
  · rw [List.size_toArray, List.length_cons, sizeLine_eq]; omega
  · rw [List.size_toArray, List.length_cons]; unfold seqIndex?; simp
  · have D' : Led h₀ _ (lexE X x i line ws ++ (env.locals, _) :: r) := D.lmap (g := fun xs => xs.eraseIdxIfInBounds 0) (its' := ws) 2 rfl hl (by simp [Array.eraseIdxIfInBounds])
    exact h _ _ D'.mid
end
end Mine
end
-- Lx9
section
open PySem PySem.W PyProof.Rows PySem.Calls
set_option Elab.async false
set_option maxRecDepth 100000
namespace Mine
theorem lkM_call : typeLookup (.type "method") "__call__" = pure (some (.builtin "method.__call__")) := by rw [typeLookup_type, builtinLookup_eq_fast]; kernel_rfl
theorem entry_iter : entryFor table "iter" = some Builtin.«iter» := entryFor_of_tree (by kernel_rfl)
theorem args_iter2 (a b : Value) : argsOk "iter" ⟨[a, b], []⟩ := by unfold argsOk; kernel_rfl
section
variable {w : World} {mg mb : Str → Option Value} {h₀ : Heap} {A : Around} {E : Value → Shared → Prop} {s : Shared} {Q : Value → Shared → Prop} {l r : List (Addr × Itm)} {X : LX} {x : Str} {i : Nat} {line : Int} {ws : List Value} {v : Value} {it m : Addr}
theorem lex_bound {e : Bool} {y d f p : Addr} (G : Gr w mg mb h₀) (D : Led h₀ s.heap l) (hx : s.heap.get? y = some (instObj 100 d)) (hd : At s.heap d (dicI line f p))
    (h : ∀ tk, Q (.ref s.heap.objs.size) { s with heap := s.heap.push (methodObj (.ref 83) (.ref y)), toks := tk }) :
    wpAny (model prog w) A (getAttr (.ref y) (Str.ofString "_read_char") e) Q E s := by
  obtain ⟨od, ed, k1, k2, k3, k4, t1, t2, t3, t4, t5, t6, n, rfl⟩ := hd
  refine get_bind (g := .builtin "function.__get__") (a := .ref 83) (G.X.keeps D.keep) (instAt_of hx ed) (by kernel_rfl) (by kernel_rfl) (by kernel_rfl) (wpAny_call ?_)
  exact fn_get (K := Mine.hd.heap_39 w.params) (s := { s with toks := s.toks + 1 }) (G.X.keeps D.keep) (by kernel_rfl) (handed_on rfl (h _))
theorem call_iter2 {mm f self : Addr} {z : Str} {t : Tok} (hom : s.heap.get? mm = some (methodObj (.ref f) (.ref self)))
    (h : Q (.ref s.heap.objs.size) { s with heap := s.heap.push { cls := .type "callable_iterator", data := .fields #[.ref mm, .str z t, .bool false] } }) :
    wpAny (model prog w) A (call (.builtin "iter") [.ref mm, .str z t]) Q E s := by
  refine call_function_entry (by decide +kernel) (by decide +kernel) entry_iter (args_iter2 _ _) ?_
  unfold Builtin.«iter»
  refine wpAny_bind (wpAny_of_eq (a := [.ref mm, .str z t]) rfl ?_)
  dsimp only
  refine wpAny_bind (wpAny_specialOf ⟨_, hom, rfl⟩ lkM_call ?_)
  rw [if_neg (by decide)]
  refine wpAny_bind (wpAny_rule (wpAny_bind (wpAny_newObj_type (wpAny_pure ⟨_, rfl, h⟩) (by size_fits))))
theorem gt_read (G : Gr w mg mb h₀) (D : Led h₀ s.heap (lexE X x i line [] ++ r)) (hA : A.depth < recursionLimit)
    (h : ∀ env h₁ tk it mm m' t, GE env → m' (Str.ofString "self") = some (.ref X.o) → m' (Str.ofString "token") = some (.str Str.empty t) → m' (Str.ofString "fiter") = some (.ref it) →
      Led h₀ h₁ (lexE X x i line [] ++ (env.locals, nsI m') :: (it, citI mm) :: (mm, objI (methodObj (.ref 83) (.ref X.o))) :: r) →
      wpAny (model prog w) (A.deeper env) (execs (gtBody.drop 3) env) (fun f s' => Q (match f with | .ret v => v | _ => .none) s') (fun _ _ => False) { s with heap := h₁, toks := tk }) :
    wpAny (model prog w) A (call (.ref 90) [.ref X.o]) Q E s := by
  refine gt_enter G D hA fun env h₁ tk H D => ?_
  refine wpAny_execs_cons (wpAny_If (wpAny_isTrue_value (lex_pb G H D rfl fun tk => ?_)))
  obtain ⟨n, hl⟩ := (D.get 2 rfl).lst
  refine wpAny_truthy_list hl.isList (by decide) ?_
  rw [if_neg (by simp)]
  refine wpAny_execs_nil ?_
  dsimp only
  refine wpAny_execs_cons (wpAny_Assign_Name (wpAny_Constant_str ?_))
  refine wpAny_storeName_local H.q3 (D.ns 9 rfl) (fun h' hn hs => ?_) H.e4
  replace D := D.same 9 rfl hs (At.of_ns hn)
  dsimp only
  refine wpAny_execs_cons (wpAny_Assign_Name (wpAny_Call_NameR (nmB G D H.q0 H.q5 H.e1 H.e2 (by kernel_rfl) (v := .builtin "iter") (by kernel_rfl) ?_)))
  refine callB2 (Attribute_Name_ (nmL H.q0 H.q1 (D.ns 9 rfl) rfl (lex_bound G D (D.ob 0 rfl) (D.get 1 rfl) fun tk => ?_)))
  have D2 := D.push (o := methodObj (.ref 83) (.ref X.o)) (P := objI (methodObj (.ref 83) (.ref X.o))) rfl rfl
  refine wpAny_Constant_str ?_
  refine call_iter2 (D2.ob 0 rfl) ?_
  have D3 := D2.push (o := { cls := .type "callable_iterator", data := .fields #[.ref h'.objs.size, .str Str.empty tk, .bool false] }) (P := citI h'.objs.size) rfl ⟨tk, rfl⟩
  refine wpAny_storeName_local H.q4 (D3.ns 11 rfl) (fun h3 hn3 hs3 => ?_) H.e4
  replace D3 := D3.same 11 rfl hs3 (At.of_ns hn3)
  dsimp only
  exact h env h3 _ _ _ _ _ H rfl rfl rfl (Led.rot2 (l₁ := lexE X x i line []) D3)
end
end Mine
end
-- LxA
section
open PySem PySem.W PyProof.Rows PySem.Calls
set_option Elab.async false
set_option maxRecDepth 100000
namespace Mine
theorem entryC_iter : entryFor table "callable_iterator.__iter__" = some Builtin.«dict_keyiterator.__iter__» :=
  entryFor_alias (id' := "dict_keyiterator.__iter__") (by kernel_rfl) rfl (by decide +kernel) (by kernel_rfl)
theorem argsC_iter (a : Value) : argsOk "callable_iterator.__iter__" ⟨[a], []⟩ := by unfold argsOk; kernel_rfl
def chS (a : Nat) : Str := ⟨#[a]⟩
theorem signAt_cons {x : Str} {i a : Nat} {R : List Nat} (h : x.cps.toList.drop i = a :: R) : signAt x i = chS a ∧ x.cps.toList.drop (i + 1) = R := by
  constructor
  · unfold signAt; rw [h]; rfl
  · rw [← List.drop_drop, h]; rfl
theorem signAt_nil {x : Str} {i : Nat} (h : x.cps.toList.drop i = []) : signAt x i = Str.empty := by
  unfold signAt; rw [h]; rfl
theorem ws10 : (!(Builtin.Str.occurrences wsp (chS 10) 0 wsp.length 1).isEmpty) = true := by decide +kernel
theorem ws13 : (!(Builtin.Str.occurrences wsp (chS 13) 0 wsp.length 1).isEmpty) = true := by decide +kernel
theorem ws46 : (!(Builtin.Str.occurrences wsp (chS 46) 0 wsp.length 1).isEmpty) = false := by decide +kernel
section
variable {w : World} {mg mb : Str → Option Value} {h₀ : Heap} {A : Around} {E : Value → Shared → Prop} {s : Shared} {Q : Value → Shared → Prop} {l r : List (Addr × Itm)} {X : LX} {x : Str} {i : Nat} {line : Int} {ws : List Value} {v : Value} {it m : Addr}
theorem pyIter_cit (h1 : At s.heap it (citI m)) (h : Q (.ref it) s) : wpAny (model prog w) A (pyIter (.ref it)) Q E s := by
  obtain ⟨o, ho, t, rfl⟩ := h1
  have hT : s.TypeIs (.ref it) "callable_iterator" := ⟨_, ho, rfl⟩
  refine wpAny_pyIter_slot hT slotC_iter (wpAny_call_entry slotC_iter hT entryC_iter ?_ (argsC_iter _))
  exact wpAny_pure ⟨_, rfl, "callable_iterator", _, hT, slotC_next.lookup, h⟩
/-- «ch in self.whitespace» -/
theorem inWs {env : Env} {m' : Str → Option Value} {p1 p2 p3 p4 : Pos} {a : Nat} {t : Tok} {whole : Sem Value} {Q : Bool → Shared → Prop} (G : Gr w mg mb h₀) (H : GE env) (D : Led h₀ s.heap (lexE X x i line ws ++ (env.locals, nsI m') :: r)) (hm : m' (Str.ofString "self") = some (.ref X.o)) (hc : m' (Str.ofString "ch") = some (.str (chS a) t))
    (h : ∀ tk, Q (!(Builtin.Str.occurrences wsp (chS a) 0 wsp.length 1).isEmpty) { s with toks := tk }) :
    wpAny (model prog w) A (PySem.isTrue (.Compare (.Name (Str.ofString "ch") p1) [.In] [.Attribute (.Name (Str.ofString "self") p2) (Str.ofString "whitespace") p3] p4) env whole) Q E s := by
  refine wpAny_isTrue_Compare1 (nmL H.q0 H.q2 (D.ns 9 rfl) hc (Attribute_Name_ (nmL H.q0 H.q1 (D.ns 9 rfl) hm ?_)))
  refine lex_attr G D (D.ob 0 rfl) (D.get 1 rfl) (by kernel_rfl) fun k1 k2 k3 k4 t1 t2 t3 t4 t5 t6 n => ⟨_, rfl, rfl, fun tk => ?_⟩
  exact in_str (wpAny_truthy_bool (h _))
theorem eqCh {env : Env} {m' : Str → Option Value} {p1 p2 p4 : Pos} {k : Nat} {z : Str} {a : Nat} {t : Tok} {whole : Sem Value} {Q : Bool → Shared → Prop} (H : GE env) (D : Led h₀ s.heap (lexE X x i line ws ++ (env.locals, nsI m') :: r)) (hc : m' (Str.ofString "ch") = some (.str (chS a) t))
    (h : ∀ tk, Q (chS a == z) { s with toks := tk }) :
    wpAny (model prog w) A (PySem.isTrue (.Compare (.Name (Str.ofString "ch") p1) [.Eq] [.Constant (.str z) k p2] p4) env whole) Q E s :=
  wpAny_isTrue_Compare1 (nmL H.q0 H.q2 (D.ns 9 rfl) hc (wpAny_Constant_str (eq_str (wpAny_truthy_bool (h _)))))
/-- what a frame of get_token keeps amid the reading -/
def gtM (X : LX) (it : Addr) (tok : Str) (m' : Str → Option Value) : Prop :=
  m' (Str.ofString "self") = some (.ref X.o) ∧ (∃ t, m' (Str.ofString "token") = some (.str tok t)) ∧ m' (Str.ofString "fiter") = some (.ref it)
theorem gtM.ch {X : LX} {it : Addr} {tok : Str} {m' : Str → Option Value} {v : Value} (h : gtM X it tok m') : gtM X it tok (fun y => if y = Str.ofString "ch" then some v else m' y) := by
  obtain ⟨h1, ⟨t, h2⟩, h3⟩ := h
  exact ⟨(if_neg (by decide)).trans h1, ⟨t, (if_neg (by decide)).trans h2⟩, (if_neg (by decide)).trans h3⟩
theorem gtM.tok {X : LX} {it : Addr} {tok tok' : Str} {m' : Str → Option Value} {t : Tok} (h : gtM X it tok m') : gtM X it tok' (fun y => if y = Str.ofString "token" then some (.str tok' t) else m' y) := by
  obtain ⟨h1, ⟨t, h2⟩, h3⟩ := h
  exact ⟨(if_neg (by decide)).trans h1, ⟨_, if_pos rfl⟩, (if_neg (by decide)).trans h3⟩
abbrev gtE (X : LX) (x : Str) (i : Nat) (line : Int) (env : Env) (m' : Str → Option Value) (it mm : Addr) (r : List (Addr × Itm)) : List (Addr × Itm) :=
  lexE X x i line [] ++ (env.locals, nsI m') :: (it, citI mm) :: (mm, objI (methodObj (.ref 83) (.ref X.o))) :: r
theorem str_snoc (V : List Nat) (a : Nat) : (⟨V.toArray⟩ : Str) ++ chS a = ⟨(V ++ [a]).toArray⟩ := by
  show Str.append _ _ = _
  unfold Str.append chS
  simp
def nl (L : List Nat) : Int := (L.count 10 : Nat)
theorem nl_cons (a : Nat) (L : List Nat) (line : Int) : lineB line (chS a) + nl L = line + nl (a :: L) := by
  unfold lineB nl
  by_cases h : a = 10
  · subst h; rw [if_pos (by decide), List.count_cons_self]; omega
  · rw [if_neg, List.count_cons_of_ne (by omega)]
    intro q
    have q2 : chS a = nlS := eq_of_beq q
    exact h (by injection q2 with q3; injection q3 with q4; injection q4)
def isWs (L : List Nat) : Prop := ∀ a ∈ L, a = 10 ∨ a = 13
theorem ws_true {a : Nat} (h : a = 10 ∨ a = 13) : (!(Builtin.Str.occurrences wsp (chS a) 0 wsp.length 1).isEmpty) = true := by
  rcases h with rfl | rfl
  · exact ws10
  · exact ws13
/-- the inner loop: the rest of a word -/
theorem gt_inner {env : Env} {A : Around} {mm : Addr} {p1 : Pos} {body : List Stmt} {R : Result → Shared → Prop} (G : Gr w mg mb h₀) (H : GE env) (hcd : (X.c, codI rdQual) ∈ r) (hA : A.depth + 1 < recursionLimit) (hh : A.handled = none) (hx : x.length ≤ 1000) (c : Nat) (hc : c = 10 ∨ c = 13) (R' : List Nat)
    (hbody : body = (match (match gtBody.getD 3 (.Pass ⟨0, 0, 0, 0⟩) with | .For _ _ b _ _ => b | _ => []).getD 1 (.Pass ⟨0, 0, 0, 0⟩) with | .If _ _ o _ => (match o.getD 2 (.Pass ⟨0, 0, 0, 0⟩) with | .For _ _ b _ _ => b | _ => []) | _ => []))
    (U V : List Nat) (hU : ∀ a ∈ U, a = 46) (m' : Str → Option Value) (hm : gtM X it ⟨V.toArray⟩ m') (hT : x.cps.toList.drop i = U ++ c :: R') (hV : V.length + U.length ≤ 1000)
    (D : Led h₀ s.heap (gtE X x i line env m' it mm r))
    (h : ∀ h' tk tk' m', Led h₀ h' (gtE X x (i + U.length + 1) (lineB line (chS c)) env m' it mm r) → R (.ok (.ret (.str ⟨(V ++ U).toArray⟩ tk))) { s with heap := h', toks := tk' }) :
    codeAny (model prog w) A (.forLoop (.Name (Str.ofString "ch") p1) (.ref it) body [] env) R s := by
  refine codeAny_forLoop (fun n s' => ∃ h' tk' i' m' U' V', n = U'.length ∧ s' = { s with heap := h', toks := tk' } ∧ x.cps.toList.drop i' = U' ++ c :: R' ∧ (∀ a ∈ U', a = 46) ∧ gtM X it ⟨V'.toArray⟩ m' ∧ V' ++ U' = V ++ U ∧ i' + U'.length = i + U.length ∧ Led h₀ h' (gtE X x i' line env m' it mm r))
    ?_ U.length ⟨s.heap, s.toks, i, m', U, V, rfl, rfl, hT, hU, hm, rfl, rfl, D⟩
  rintro n s' ⟨h', tk', i', m', U', V', rfl, rfl, hT, hU, hm, hVU, hi, D⟩
  cases U' with
  | nil =>
    obtain ⟨e1, e2⟩ := signAt_cons (a := c) (R := R') hT
    refine nx_ct (j := 1) G D (by simp [hcd]) rfl (by simp) hA hh hx (fun _ h1 tk1 tk2 D => ?_) (fun q => ?_)
    · rw [e1] at D ⊢
      refine wpAny_assign_Name (wpAny_storeName_local H.q2 (D.ns 9 rfl) (fun h2 hn hs => ?_) H.e4)
      replace D := D.same 9 rfl hs (At.of_ns hn)
      subst hbody
      have hm2 := hm.ch (v := .str (chS c) tk1)
      refine wpAny_execs_cons (wpAny_If (inWs (a := c) G H D hm2.1 (if_pos rfl) fun tk => ?_))
      rw [ws_true hc, if_pos rfl]
      obtain ⟨h1, ⟨t, h2⟩, h3⟩ := hm2
      refine wpAny_execs_cons (wpAny_Return_some (nmL H.q0 H.q3 (D.ns 9 rfl) h2 ?_))
      have hVU' : V' = V ++ U := by simpa using hVU
      have hi' : i' = i + U.length := by simpa using hi
      subst hVU' hi'
      exact h _ _ _ _ D
    · rw [e1] at q; exact absurd q (by rcases hc with rfl | rfl <;> decide)
  | cons a U'' =>
    have ha : a = 46 := hU a (List.mem_cons_self ..)
    subst ha
    obtain ⟨e1, e2⟩ := signAt_cons (a := 46) (R := U'' ++ c :: R') hT
    refine nx_ct (j := 1) G D (by simp [hcd]) rfl (by simp) hA hh hx (fun _ h1 tk1 tk2 D => ?_) (fun q => ?_)
    · rw [e1] at D ⊢
      refine wpAny_assign_Name (wpAny_storeName_local H.q2 (D.ns 9 rfl) (fun h2 hn hs => ?_) H.e4)
      replace D := D.same 9 rfl hs (At.of_ns hn)
      subst hbody
      have hm2 := hm.ch (v := .str (chS 46) tk1)
      refine wpAny_execs_cons (wpAny_If (inWs (a := 46) G H D hm2.1 (if_pos rfl) fun tk => ?_))
      rw [ws46, if_neg (by decide)]
      refine wpAny_execs_cons (wpAny_If (eqCh H D (if_pos rfl) fun tk => ?_))
      rw [if_neg (by decide)]
      refine wpAny_execs_nil (wpAny_execs_nil ?_)
      dsimp only
      obtain ⟨t, h2⟩ := hm2.2.1
      refine wpAny_execs_cons (wpAny_AugAssign_Name (wpAny_loadName_local H.q0 H.q3 (D.ns 9 rfl) h2 (nmL H.q0 H.q2 (D.ns 9 rfl) (if_pos rfl) ?_)))
      have hlen : V'.length + (U''.length + 1) = V.length + U.length := by have := congrArg List.length hVU; simpa using this
      refine iadd_str (fun t' tk => ?_) (by show V'.toArray.size + 1 ≤ _; rw [List.size_toArray, sizeLine_eq]; omega)
      rw [str_snoc]
      refine wpAny_storeName_local H.q3 (D.ns 9 rfl) (fun h3 hn3 hs3 => ?_) H.e4
      replace D := D.same 9 rfl hs3 (At.of_ns hn3)
      refine wpAny_execs_nil ?_
      refine ⟨U''.length, Nat.lt_succ_self _, h3, _, i' + 1, _, U'', V' ++ [46], rfl, rfl, e2, fun a h => hU a (List.mem_cons_of_mem _ h), hm2.tok, ?_, ?_, D⟩
      · rw [← hVU]; simp
      · rw [← hi, List.length_cons]; omega
    · rw [e1] at q; exact absurd q (by decide)
end
end Mine
end
-- LxB
section
open PySem PySem.W PyProof.Rows PySem.Calls
set_option Elab.async false
set_option maxRecDepth 100000
namespace Mine
section
variable {w : World} {mg mb : Str → Option Value} {h₀ : Heap} {A : Around} {E : Value → Shared → Prop} {s : Shared} {Q : Value → Shared → Prop} {l r : List (Addr × Itm)} {X : LX} {x : Str} {i : Nat} {line : Int}
theorem gt_word (G : Gr w mg mb h₀) (D : Led h₀ s.heap (lexE X x i line [] ++ r)) (hcd : (X.c, codI rdQual) ∈ r) (hA : A.depth + 2 < recursionLimit) (hh : A.handled = none) (hx : x.length ≤ 1000) (W U R' : List Nat) (c : Nat) (hW : isWs W) (hU : ∀ a ∈ U, a = 46) (hU0 : U ≠ []) (hc : c = 10 ∨ c = 13)
    (hT : x.cps.toList.drop i = W ++ (U ++ c :: R'))
    (h : ∀ h' tk tk', Led h₀ h' (lexE X x (i + W.length + U.length + 1) (line + nl W + nl [c]) [] ++ r) → Q (.str ⟨U.toArray⟩ tk) { s with heap := h', toks := tk' }) :
    wpAny (model prog w) A (call (.ref 90) [.ref X.o]) Q E s := by
  have hUl : U.length ≤ 1000 := by
    have := congrArg List.length hT
    rw [List.length_drop, List.length_append, List.length_append] at this
    have hx' : x.cps.toList.length ≤ 1000 := by simpa [Str.length] using hx
    omega
  refine gt_read G D (by omega) fun env h₁ tk it mm m' t H m1 m2 m3 D => ?_
  have hm : gtM X it Str.empty m' := ⟨m1, ⟨t, m2⟩, m3⟩
  clear m1 m2 m3
  have hA1 : (A.deeper env).depth + 1 < recursionLimit := hA
  have hh1 : (A.deeper env).handled = none := hh
  generalize A.deeper env = A1 at hA1 hh1 ⊢
  refine wpAny_execs_cons (wpAny_For (nmL H.q0 H.q4 (D.ns 9 rfl) hm.2.2 (pyIter_cit (D.get 10 rfl) ?_)))
  refine codeAny_forLoop (fun n s' => ∃ h' tk' i' line' m' W', n = W'.length ∧ s' = { s with heap := h', toks := tk' } ∧ x.cps.toList.drop i' = W' ++ (U ++ c :: R') ∧ isWs W' ∧ gtM X it Str.empty m' ∧ i' + W'.length = i + W.length ∧ line' + nl W' = line + nl W ∧ Led h₀ h' (gtE X x i' line' env m' it mm r))
    ?_ W.length ⟨h₁, tk, i, line, m', W, rfl, rfl, hT, hW, hm, rfl, rfl, D⟩
  clear D hm m' hT
  rintro n s' ⟨h', tk', i', line', m', W', rfl, rfl, hT, hW, hm, hi, hl, D⟩
  cases W' with
  | cons a W'' =>
    obtain ⟨e1, e2⟩ := signAt_cons (a := a) (R := W'' ++ (U ++ c :: R')) hT
    have ha := hW a (List.mem_cons_self ..)
    refine nx_ct (j := 1) G D (by simp [hcd]) rfl (by simp) hA1 hh1 hx (fun _ h1 tk1 tk2 D => ?_) (fun q => ?_)
    · rw [e1] at D ⊢
      refine wpAny_assign_Name (wpAny_storeName_local H.q2 (D.ns 9 rfl) (fun h2 hn hs => ?_) H.e4)
      replace D := D.same 9 rfl hs (At.of_ns hn)
      have hm2 := hm.ch (v := .str (chS a) tk1)
      refine wpAny_execs_cons (wpAny_If (inWs (a := a) G H D hm2.1 (if_pos rfl) fun tk => ?_))
      rw [ws_true ha, if_pos rfl]
      refine wpAny_execs_cons (wpAny_Continue ?_)
      refine ⟨W''.length, Nat.lt_succ_self _, h2, _, i' + 1, lineB line' (chS a), _, W'', rfl, rfl, e2, fun b hb => hW b (List.mem_cons_of_mem _ hb), hm2, ?_, ?_, D⟩
      · rw [← hi, List.length_cons]; omega
      · rw [nl_cons, hl]
    · rw [e1] at q; exact absurd q (by rcases ha with rfl | rfl <;> decide)
  | nil =>
    cases U with
    | nil => exact absurd rfl hU0
    | cons a U'' =>
      have ha : a = 46 := hU a (List.mem_cons_self ..)
      subst ha
      obtain ⟨e1, e2⟩ := signAt_cons (a := 46) (R := U'' ++ c :: R') hT
      refine nx_ct (j := 1) G D (by simp [hcd]) rfl (by simp) hA1 hh1 hx (fun _ h1 tk1 tk2 D => ?_) (fun q => ?_)
      · rw [e1] at D ⊢
        refine wpAny_assign_Name (wpAny_storeName_local H.q2 (D.ns 9 rfl) (fun h2 hn hs => ?_) H.e4)
        replace D := D.same 9 rfl hs (At.of_ns hn)
        have hm2 := hm.ch (v := .str (chS 46) tk1)
        refine wpAny_execs_cons (wpAny_If (inWs (a := 46) G H D hm2.1 (if_pos rfl) fun tk => ?_))
        rw [ws46, if_neg (by decide)]
        refine wpAny_execs_nil ?_
        refine wpAny_execs_cons (wpAny_If (eqCh H D (if_pos rfl) fun tk => ?_))
        rw [if_neg (by decide)]
        refine wpAny_execs_cons (wpAny_If (eqCh H D (if_pos rfl) fun tk => ?_))
        rw [if_neg (by decide)]
        refine wpAny_execs_nil ?_
        dsimp only
        obtain ⟨t, h3⟩ := hm2.2.1
        refine wpAny_execs_cons (wpAny_AugAssign_Name (wpAny_loadName_local H.q0 H.q3 (D.ns 9 rfl) h3 (nmL H.q0 H.q2 (D.ns 9 rfl) (if_pos rfl) ?_)))
        refine iadd_str (fun t' tk => ?_) (by decide +kernel)
        rw [show Str.empty ++ chS 46 = ⟨[46].toArray⟩ from rfl]
        refine wpAny_storeName_local H.q3 (D.ns 9 rfl) (fun h3 hn3 hs3 => ?_) H.e4
        replace D := D.same 9 rfl hs3 (At.of_ns hn3)
        have hm3 := hm2.tok (tok' := ⟨[46].toArray⟩) (t := t')
        refine wpAny_execs_cons (wpAny_For (nmL H.q0 H.q4 (D.ns 9 rfl) hm3.2.2 (pyIter_cit (D.get 10 rfl) ?_)))
        refine gt_inner G H hcd hA1 hh1 hx c hc R' rfl U'' [46] (fun a h => hU a (List.mem_cons_of_mem _ h)) _ hm3 e2 (by rw [List.length_cons] at hUl; simp; omega) D fun h' tk tk' m' D => ?_
        have hi' : i' = i + W.length := by simpa using hi
        have hl' : line' = line + nl W := by rw [← hl]; unfold nl; simp
        have hl2 : lineB (line + nl W) (chS c) = line + nl W + nl [c] := by have := nl_cons c [] (line + nl W); unfold nl at this ⊢; simpa using this
        subst hi' hl'
        rw [show lineB (line + nl W) (chS 46) = line + nl W from if_neg (by decide), hl2] at D
        refine h _ _ _ ?_
        have D4 := D.mid.mid.mid
        rw [List.length_cons, show i + W.length + (U''.length + 1) + 1 = i + W.length + (chS 46).length + U''.length + 1 by show _ = i + W.length + 1 + U''.length + 1; omega]
        exact D4
      · rw [e1] at q; exact absurd q (by decide)
end
end Mine
end
-- LxC
section
open PySem PySem.W PyProof.Rows PySem.Calls
set_option Elab.async false
set_option maxRecDepth 100000
namespace Mine
section
variable {w : World} {mg mb : Str → Option Value} {h₀ : Heap} {A : Around} {E : Value → Shared → Prop} {s : Shared} {Q : Value → Shared → Prop} {l r : List (Addr × Itm)} {X : LX} {x : Str} {i : Nat} {line : Int}
theorem gt_eof (G : Gr w mg mb h₀) (D : Led h₀ s.heap (lexE X x i line [] ++ r)) (hcd : (X.c, codI rdQual) ∈ r) (hA : A.depth + 2 < recursionLimit) (hh : A.handled = none) (hx : x.length ≤ 1000) (W : List Nat) (hW : isWs W)
    (hT : x.cps.toList.drop i = W)
    (h : ∀ h' tk tk', Led h₀ h' (lexE X x (i + W.length) (line + nl W) [] ++ r) → Q (.str Str.empty tk) { s with heap := h', toks := tk' }) :
    wpAny (model prog w) A (call (.ref 90) [.ref X.o]) Q E s := by
  refine gt_read G D (by omega) fun env h₁ tk it mm m' t H m1 m2 m3 D => ?_
  have hm : gtM X it Str.empty m' := ⟨m1, ⟨t, m2⟩, m3⟩
  clear m1 m2 m3
  have hA1 : (A.deeper env).depth + 1 < recursionLimit := hA
  have hh1 : (A.deeper env).handled = none := hh
  generalize A.deeper env = A1 at hA1 hh1 ⊢
  refine wpAny_execs_cons (wpAny_For (nmL H.q0 H.q4 (D.ns 9 rfl) hm.2.2 (pyIter_cit (D.get 10 rfl) ?_)))
  refine codeAny_forLoop (fun n s' => ∃ h' tk' i' line' m' W', n = W'.length ∧ s' = { s with heap := h', toks := tk' } ∧ x.cps.toList.drop i' = W' ∧ isWs W' ∧ gtM X it Str.empty m' ∧ i' + W'.length = i + W.length ∧ line' + nl W' = line + nl W ∧ Led h₀ h' (gtE X x i' line' env m' it mm r))
    ?_ W.length ⟨h₁, tk, i, line, m', W, rfl, rfl, hT, hW, hm, rfl, rfl, D⟩
  clear D hm m' hT
  rintro n s' ⟨h', tk', i', line', m', W', rfl, rfl, hT, hW, hm, hi, hl, D⟩
  cases W' with
  | cons a W'' =>
    obtain ⟨e1, e2⟩ := signAt_cons (a := a) (R := W'') hT
    have ha := hW a (List.mem_cons_self ..)
    refine nx_ct (j := 1) G D (by simp [hcd]) rfl (by simp) hA1 hh1 hx (fun _ h1 tk1 tk2 D => ?_) (fun q => ?_)
    · rw [e1] at D ⊢
      refine wpAny_assign_Name (wpAny_storeName_local H.q2 (D.ns 9 rfl) (fun h2 hn hs => ?_) H.e4)
      replace D := D.same 9 rfl hs (At.of_ns hn)
      have hm2 := hm.ch (v := .str (chS a) tk1)
      refine wpAny_execs_cons (wpAny_If (inWs (a := a) G H D hm2.1 (if_pos rfl) fun tk => ?_))
      rw [ws_true ha, if_pos rfl]
      refine wpAny_execs_cons (wpAny_Continue ?_)
      refine ⟨W''.length, Nat.lt_succ_self _, h2, _, i' + 1, lineB line' (chS a), _, W'', rfl, rfl, e2, fun b hb => hW b (List.mem_cons_of_mem _ hb), hm2, ?_, ?_, D⟩
      · rw [← hi, List.length_cons]; omega
      · rw [nl_cons, hl]
    · rw [e1] at q; exact absurd q (by rcases ha with rfl | rfl <;> decide)
  | nil =>
    have e1 := signAt_nil hT
    refine nx_ct (j := 1) G D (by simp [hcd]) rfl (by simp) hA1 hh1 hx (fun q => absurd e1 q) (fun _ h1 tk2 D => ?_)
    refine wpAny_execs_nil ?_
    dsimp only
    obtain ⟨t, h2⟩ := hm.2.1
    refine wpAny_execs_cons (wpAny_Return_some (nmL H.q0 H.q3 (D.ns 9 rfl) h2 ?_))
    have hi' : i' = i + W.length := by simpa using hi
    have hl' : line' = line + nl W := by rw [← hl]; unfold nl; simp
    subst hi' hl'
    refine h _ _ _ ?_
    have D3 : Led h₀ h1 (lexE X x (i + W.length) (line + nl W) [] ++ (env.locals, nsI m') :: (it, anyI) :: (mm, objI (methodObj (.ref 83) (.ref X.o))) :: r) := D
    exact D3.mid.mid.mid
end
end Mine
end
-- LxD
section
open PySem PySem.W PyProof.Rows PySem.Calls
set_option Elab.async false
set_option maxRecDepth 100000
namespace Mine
section
variable {w : World} {mg mb : Str → Option Value} {h₀ : Heap} {A : Around} {E : Value → Shared → Prop} {s : Shared} {Q : Value → Shared → Prop} {l r : List (Addr × Itm)} {o d f : Addr}
theorem init_code (G : Gr w mg mb h₀) (D : Led h₀ s.heap ((o, objI (instObj 100 d)) :: (d, objI (dictOf [] 0)) :: r)) (hA : A.depth < recursionLimit)
    (h : ∀ h' tk' p, Led h₀ h' ((o, objI (instObj 100 d)) :: (d, dicI 1 f p) :: (p, lstI []) :: r) → Q .none { s with heap := h', toks := tk' }) :
    codeAny (model prog w) A (.call (.ref 76) ⟨[.ref o, .ref f], []⟩) (Rv Q) s := by
  refine code_fn (binds := [(Str.ofString "self", .ref o), (Str.ofString "fp", .ref f)]) (D.keep _ _ (G.X 76 _ rfl)) rfl rfl (Heap.CodeRec.keeps ⟨_, _, _, _, rfl, G.X 75 _ rfl, rfl, rfl⟩ D.keep) (G.lim.keeps D.keep) rfl (locs rfl) (by decide) hA ?_
  intro h₁ tk F
  replace D := Fr.led D F
  clear F
  generalize hE : callEnv _ _ _ = env
  have q0 : env.scope.kind = .function := by rw [← hE]; rfl
  have q1 : env.kindOf (Str.ofString "self") = some .local := by rw [← hE]; rfl
  have q2 : env.kindOf (Str.ofString "fp") = some .local := by rw [← hE]; rfl
  have e3 : env.locals = s.heap.objs.size := by rw [← hE]; rfl
  rw [← e3] at D
  clear hE
  generalize A.deeper env = A1
  refine wpAny_execs_cons (plainObj_wpAny_Assign_Attribute (wpAny_Constant_int (nmL q0 q1 (D.ns 0 rfl) rfl ?_)))
  refine set_lex G D (D.ob 1 rfl) (D.ob 2 rfl) (by kernel_rfl) rfl (by show 1 ≤ 1000; decide) fun h' k1 t1 tk' hs hd => ?_
  replace D := D.same (P' := objI _) 2 rfl hs (At.of_obj hd)
  dsimp only
  refine wpAny_execs_cons (plainObj_wpAny_Assign_Attribute (nmL q0 q2 (D.ns 0 rfl) rfl (nmL q0 q1 (D.ns 0 rfl) rfl ?_)))
  refine set_lex G D (D.ob 1 rfl) (D.ob 2 rfl) (by kernel_rfl) rfl (by show 2 ≤ 1000; decide) fun h' k2 t2 tk' hs hd => ?_
  replace D := D.same (P' := objI _) 2 rfl hs (At.of_obj hd)
  dsimp only
  refine wpAny_execs_cons (plainObj_wpAny_Assign_Attribute (wpAny_Constant_str (nmL q0 q1 (D.ns 0 rfl) rfl ?_)))
  refine set_lex G D (D.ob 1 rfl) (D.ob 2 rfl) (by kernel_rfl) rfl (by show 3 ≤ 1000; decide) fun h' k3 t3 tk' hs hd => ?_
  replace D := D.same (P' := objI _) 2 rfl hs (At.of_obj hd)
  dsimp only
  refine wpAny_execs_cons (plainObj_wpAny_Assign_Attribute (wpAny_List (spliced_nil ⟨by decide, ?_⟩)))
  replace D := D.push (o := { cls := .type "list", data := .seq [].toArray }) (P := lstI []) rfl ⟨_, rfl⟩
  refine nmL q0 q1 (D.ns 1 rfl) rfl ?_
  refine set_lex G D (D.ob 2 rfl) (D.ob 3 rfl) (by kernel_rfl) rfl (by show 4 ≤ 1000; decide) fun h' k4 t4 tk' hs hd => ?_
  have D2 := D.same (P' := dicI 1 f _) 3 rfl hs ⟨_, hd, k1, k2, k3, k4, t1, t2, t3, t4, _, _, _, rfl⟩
  dsimp only
  have D3 := (D2.perm (List.Perm.swap _ _ _)).drop
  exact wpAny_execs_nil (h _ _ _ (D3.perm (List.perm_middle (l₁ := [(o, objI (instObj 100 d)), (d, _)])).symm))
end
end Mine
end
-- LxE
section
open PySem PySem.W PyProof.Rows PySem.Calls
set_option Elab.async false
set_option maxRecDepth 100000
namespace Mine
theorem slotF_sa : Slot "function" "__setattr__" "object.__setattr__" :=
  .of (owner := "object") (n := "__setattr__") (by rw [typeLookup_type, builtinLookup_eq_fast]; kernel_rfl) (by decide +kernel) (by decide +kernel) (by decide +kernel)
    (by first | exact .inl (by decide +kernel) | exact .inr (by decide +kernel)) (by rw [isSubtype_type]; kernel_rfl)
theorem entry_sa : entryFor table "object.__setattr__" = some Builtin.«object.__setattr__» := entryFor_of_tree (by kernel_rfl)
theorem args_sa (a b c : Value) : argsOk "object.__setattr__" ⟨[a, b, c], []⟩ := by unfold argsOk; kernel_rfl
theorem mro_fn : mroOf (.type "function") = pure [.type "function", .type "object"] := by kernel_rfl
theorem refuse_fn (self : Value) : refuseLoop self "__setattr__" [.type "function", .type "object"] = pure () := by kernel_rfl
theorem hasDict_fn : typeHasDict (.type "function") = true := by decide +kernel
section
variable {w : World} {prog : Program} {mg mb : Str → Option Value} {h₀ : Heap} {A : Around} {E : Value → Shared → Prop} {s : Shared} {l r : List (Addr × Itm)} {f rd : Addr} {v : Value}
theorem fn_setattr {Q : Unit → Shared → Prop} {o : Obj} {fd : FuncData} (ho : s.heap.get? f = some o) (h1 : o.cls = .type "function") (h2 : o.dict = none) (h3 : o.data = .func fd)
    (h : ∀ h' dd tk', s.heap.objs.size ≤ dd → s.heap.objs.size ≤ h'.objs.size → Heap.ExtBut f s.heap h' → h'.get? f = some { o with dict := some dd } → (∃ k t n, h'.get? dd = some (dictOf [⟨k, .str (Str.ofString "read") t, v⟩] n)) → Q () { s with heap := h', toks := tk' }) :
    wpAny (model prog w) A (setAttr (.ref f) (Str.ofString "read") v) Q E s := by
  have hT : s.TypeIs (.ref f) "function" := ⟨o, ho, h1⟩
  unfold setAttr
  refine wpAny_bind (wpAny_mkText (wpAny_bind (wpAny_callSpecial?_slot (s := { s with toks := s.toks + 1 }) hT slotF_sa (wpAny_call_entry (s := { s with toks := s.toks + 1 }) slotF_sa hT entry_sa ?_ (args_sa _ _ _)))))
  rw [osa_eq, refuse_eq]
  refine wpAny_bind (wpAny_bind (wpAny_typeOf (by exact hT) ?_))
  rw [mro_fn]
  refine wpAny_bind (wpAny_pure ?_)
  rw [refuse_fn]
  refine wpAny_pure (wpAny_bind (wpAny_typeOf (by exact hT) ?_))
  rw [lkF_rd]
  refine wpAny_bind (wpAny_pure (wpAny_bind (wpAny_pure ?_)))
  dsimp only
  unfold Builtin.ObjectAttr.storeInOwnDict
  refine wpAny_bind (wpAny_of_eq (a := ()) rfl ?_)
  dsimp only
  rw [if_neg (by decide)]
  refine wpAny_bind ?_
  unfold Builtin.ObjectAttr.ownDictForStores instanceDict
  refine wpAny_bind (wpAny_loadPart ho ?_)
  rw [h1, h2, h3, hasDict_fn]
  dsimp only
  rw [if_neg (by decide)]
  have hlt := Heap.lt_size ho
  have hne : f ≠ s.heap.objs.size := Nat.ne_of_lt hlt
  refine wpAny_bind (wpAny_alloc ?_)
  refine wpAny_bind (wpAny_update (Heap.get?_push_of_some _ ho) ?_)
  refine wpAny_of_eq (a := some s.heap.objs.size) rfl ?_
  dsimp only
  have hd1 : ((s.heap.push { cls := .type "dict", data := .dict #[] }).update f fun o => { o with dict := some s.heap.objs.size }).get? s.heap.objs.size = some (dictOf [] 0) :=
    (Heap.get?_update_other _ _ hne).trans (Heap.get?_push_size _ rfl)
  have hf1 : ((s.heap.push { cls := .type "dict", data := .dict #[] }).update f fun o => { o with dict := some s.heap.objs.size }).get? f = some { o with dict := some s.heap.objs.size } :=
    Heap.get?_update_self _ (Heap.get?_push_of_some _ ho) (by obtain ⟨a, b, c, dd⟩ := o; cases h3; rfl)
  have hx1 : Heap.ExtBut f s.heap ((s.heap.push { cls := .type "dict", data := .dict #[] }).update f fun o => { o with dict := some s.heap.objs.size }) :=
    fun b ob hb e => (Heap.get?_update_other _ _ (Ne.symm hb)).trans (Heap.get?_push_of_some _ e)
  have hs1 : s.heap.objs.size ≤ ((s.heap.push { cls := .type "dict", data := .dict #[] }).update f fun o => { o with dict := some s.heap.objs.size }).objs.size := by
    rw [Heap.size_after_update, Heap.size_push]; omega
  generalize (s.heap.push { cls := .type "dict", data := .dict #[] }).update f (fun o => { o with dict := some s.heap.objs.size }) = h2 at *
  unfold Builtin.ObjectAttr.storeInDict
  refine wpAny_bind (wpAny_pure (wpAny_bind ?_))
  unfold nsSet
  refine wpAny_bind (wpAny_bind (wpAny_askSetting (wpAny_pure (wpAny_bind (wpAny_mkText (wpAny_bind (wpAny_loadPart hd1 ?_)))))))
  dsimp only
  rw [if_neg (by decide +kernel)]
  refine wpAny_updatePart hd1 ?_
  generalize (if (Str.ofString "read").cps.isEmpty = true then (0 : Int) else reduceHash ((model prog w).w.params.strHash (Str.ofString "read").cps)) = kk
  have hp := putName_dict (Str.ofString "read") kk (.str (Str.ofString "read") (s.toks + 1)) v [] 0
  have hd2 : (h2.update s.heap.objs.size (Obj.putName (Str.ofString "read") kk (.str (Str.ofString "read") (s.toks + 1)) v)).get? s.heap.objs.size = some (dictOf [⟨kk, .str (Str.ofString "read") (s.toks + 1), v⟩] 1) := by
    rw [Heap.get?_update_self _ hd1 (by rw [hp]; rfl), hp]; rfl
  refine wpAny_bind (wpAny_lookBehind hd2 (pastItsLine_dict (by rw [sizeLine_eq]; show 1 ≤ 16777216 + 1; decide)) ?_)
  refine wpAny_pure ⟨_, rfl, wpAny_pure (h _ s.heap.objs.size _ (Nat.le_refl _) (by rw [Heap.size_after_update]; exact hs1) ?_ ?_ ⟨_, _, _, hd2⟩)⟩
  · exact fun b ob hb e => (Heap.get?_update_other _ _ (Nat.ne_of_gt (Heap.lt_size e))).trans (hx1 b ob hb e)
  · exact (Heap.get?_update_other _ _ hne.symm).trans hf1
end
end Mine
end
-- LxF
section
open PySem PySem.W PyProof.Rows PySem.Calls
set_option Elab.async false
set_option maxRecDepth 100000
namespace Mine
/-- the places of the codes nested in _law_lexer -/
def tabE : Option (Addr × Addr) → List (Addr × Itm)
  | none => [(106, objI (tabObj #[]))]
  | some (c, c2) => [(106, objI (tabObj #[rawInt 67, rawInt 4, .ref c, rawInt 71, rawInt 13, .ref c2])), (c, codI rdQual)]
def lamScope : Scope := match (fBody (topStmt 12)).getD 2 (.Pass ⟨0, 0, 0, 0⟩) with
  | .Assign _ (.Lambda _ _ sc _) _ => sc
  | _ => default
def lamArgs : Arguments := match (fBody (topStmt 12)).getD 2 (.Pass ⟨0, 0, 0, 0⟩) with
  | .Assign _ (.Lambda a _ _ _) _ => a
  | _ => default
structure LE (env : Env) (L : Addr) : Prop where
  q0 : env.scope.kind = .function
  q1 : env.kindOf (Str.ofString "text") = some .cell
  q2 : env.kindOf (Str.ofString "at") = some .cell
  q3 : env.kindOf (Str.ofString "_law_read_on") = some .local
  q4 : env.kindOf (Str.ofString "stream") = some .local
  q5 : env.kindOf (Str.ofString "_netrclex") = some .globalImplicit
  c1 : env.cells.lookup (Str.ofString "text") = some (L + 1)
  c2 : env.cells.lookup (Str.ofString "at") = some (L + 2)
  e1 : env.globals = mainGlobals
  e2 : env.builtins = builtinsNs
  e3 : env.locals = L
  e4 : (env.scope.kind == .class || (env.scope.kind == .module && env.locals != env.globals)) = false
  cd : env.code = .ref 110
  qn : qualnameIn env (Str.ofString "_law_read_on") (Str.ofString "_law_read_on") = rdQual
  h1 : closureFor (fScope rdStmt) env = pure [(Str.ofString "text", L + 1), (Str.ofString "at", L + 2)]
  h2 : closureFor lamScope env = pure []
  h3 : annTrees (fArgs rdStmt) none env = []
  h4 : defaultsOf lamArgs env = ([], [])
def lxBody : List Stmt := fBody (topStmt 12)
section
variable {w : World} {mg mb : Str → Option Value} {h₀ : Heap} {A : Around} {E : Value → Shared → Prop} {s : Shared} {Q : Value → Shared → Prop} {l r : List (Addr × Itm)} {x : Str} {tx : Tok}
theorem lx_enter (G : Gr w mg mb h₀) (D : Led h₀ s.heap l) (hA : A.depth < recursionLimit)
    (h : ∀ env h₁ tk L, LE env L → Led h₀ h₁ ((L, nsI fun _ => none) :: (L + 1, txtI x) :: (L + 2, cellI none) :: l) →
      wpAny (model prog w) (A.deeper env) (execs lxBody env) (fun f s' => Q (match f with | .ret v => v | _ => .none) s') (fun _ _ => False) { s with heap := h₁, toks := tk }) :
    wpAny (model prog w) A (call (.ref 111) [.str x tx]) Q E s := by
  refine call_of (code_cells (binds := [(Str.ofString "text", .str x tx)]) (D.keep _ _ (G.X 111 _ rfl)) rfl rfl (Heap.CodeRec.keeps ⟨_, _, _, _, rfl, G.X 110 _ rfl, rfl, rfl⟩ D.keep) (G.lim.keeps D.keep) rfl rfl (fun y hy => ?_) hA ?_)
  · rw [List.mem_singleton.mp hy]; exact .inr ⟨rfl, rfl⟩
  intro h₁ tk hns hk hc
  refine h _ h₁ tk s.heap.objs.size ⟨rfl, rfl, rfl, rfl, rfl, rfl, rfl, rfl, rfl, rfl, rfl, rfl, rfl, rfl, rfl, rfl, rfl, rfl⟩ ?_
  have t1 := hc (Str.ofString "text") (s.heap.objs.size + 1) rfl
  have t2 := hc (Str.ofString "at") (s.heap.objs.size + 2) rfl
  refine D.app hk (Nat.le_of_lt hns.lt) [(s.heap.objs.size, nsI fun _ => none), (s.heap.objs.size + 1, txtI x), (s.heap.objs.size + 2, cellI none)] ?_ ?_
  · intro p hp
    simp only [List.mem_cons, List.not_mem_nil, or_false] at hp
    rcases hp with rfl | rfl | rfl
    · exact ⟨Nat.le_refl _, At.of_ns hns⟩
    · obtain ⟨o, e, ho⟩ := t1; exact ⟨Nat.le_succ _, o, e, tx, ho⟩
    · exact ⟨Nat.le_add_right .., t2⟩
  · simp
end
end Mine
end
-- LxG
section
open PySem PySem.W PyProof.Rows PySem.Calls
set_option Elab.async false
set_option maxRecDepth 100000
namespace Mine
def bareI : Itm := fun o => o.cls = .type "function" ∧ o.dict = none ∧ ∃ f, o.data = .func f
section
variable {w : World} {mg mb : Str → Option Value} {h₀ : Heap} {A : Around} {E : Value → Shared → Prop} {s : Shared} {Q : Value → Shared → Prop} {l r : List (Addr × Itm)} {x : Str} {tx : Tok} {f rd c t L : Addr}
theorem nsI_one {name : Str} {k : Int} {t : Tok} {v : Value} {n : Nat} : nsI (fun y => if y = name then some v else none) (dictOf [⟨k, .str name t, v⟩] n) := by
  refine ⟨_, _, rfl, fun e he => ?_, fun y => ?_⟩
  · have : e = ⟨k, .str name t, v⟩ := by simpa using he
    subst this; exact ⟨name, t, rfl⟩
  · unfold nsFind findBy
    by_cases h : y = name
    · subst h; simp [Value.isStr]
    · have h' : (name == y) = false := beq_eq_false_iff_ne.mpr (Ne.symm h)
      simp [Value.isStr, h, h']
theorem make_lex (G : Gr w mg mb h₀) (D : Led h₀ s.heap l) (hA : A.depth + 1 < recursionLimit)
    (h : ∀ h' tk' o d p, Led h₀ h' ((o, objI (instObj 100 d)) :: (d, dicI 1 f p) :: (p, lstI []) :: l) → Q (.ref o) { s with heap := h', toks := tk' }) :
    wpAny (model prog w) A (call (.ref 100) [.ref f]) Q E s := by
  refine wpAny_call ?_
  obtain ⟨hp, g, d, tk, os⟩ := s
  have X := G.X.keeps D.keep
  refine make_core (makes_of (K := Mine.hd.heap_39 w.params) X (by kernel_rfl)) (looks_findIn X (r := some (.ref 76)) (by kernel_rfl)) (fun self => bind_fn X self (by kernel_rfl)) (.inl rfl) ?_
  have D2 := (D.push (o := emptyDict) (P := objI (dictOf [] 0)) rfl rfl).push (o := instObj 100 hp.objs.size) (P := objI (instObj 100 hp.objs.size)) rfl rfl
  rw [Heap.size_push] at D2
  refine codeAny_mono (init_code (Q := fun v s' => v = .none ∧ Q (.ref (hp.objs.size + 1)) s') G D2 ?_ fun h' tk' p D => ⟨rfl, h h' tk' _ _ p D⟩) fun rr s' q => ?_
  · rw [depth_under_make]; exact hA
  · rcases rr with e | (_ | _ | _ | v)
    · exact q.elim
    · exact q.elim
    · exact q.elim
    · exact q.elim
    · exact q
theorem lx_tail {env : Env} {m : Str → Option Value} (G : Gr w mg mb h₀) (H : LE env L) (hm1 : m (Str.ofString "stream") = some (.ref f)) (hm2 : m (Str.ofString "_law_read_on") = some (.ref rd))
    (D : Led h₀ s.heap ((f, bareI) :: (rd, rdI (L + 2) (L + 1) c) :: (L, nsI m) :: (L + 1, txtI x) :: (L + 2, cellI (some (.ref t))) :: (t, posI 0) :: r)) (hA : A.depth + 1 < recursionLimit)
    (h : ∀ h' tk' X, X.c = c → Led h₀ h' (lexE X x 0 1 [] ++ r) → Q (.ref X.o) { s with heap := h', toks := tk' }) :
    wpAny (model prog w) A (execs (lxBody.drop 3) env) (fun f s' => Q (match f with | .ret v => v | _ => .none) s') (fun _ _ => False) s := by
  have hL := H.e3
  subst hL
  refine wpAny_execs_cons (plainObj_wpAny_Assign_Attribute (nmL H.q0 H.q3 (D.ns 2 rfl) hm2 (nmL H.q0 H.q4 (D.ns 2 rfl) hm1 ?_)))
  obtain ⟨o, ho, o1, o2, fd, o3⟩ := D.get 0 rfl
  refine fn_setattr ho o1 o2 o3 fun h' dd tk' hdd hsz hx hf hd => ?_
  obtain ⟨k1, t1, n1, hd⟩ := hd
  have D2 := D.extNew (P' := strI dd) (P₂ := fdI rd) 0 rfl hx hsz ⟨_, hf, o1, rfl, fd, o3⟩ hdd ⟨_, hd, _, nsI_one, if_pos rfl⟩
  dsimp only
  refine wpAny_execs_cons (wpAny_Return_some (wpAny_Call_NameR (nmG G D2 H.q0 H.q5 H.e1 (by kernel_rfl) (v := .ref 100) ?_)))
  refine callWith1 (P := fun h => (Mine.hd.heap_39 w.params).In h) (keeps_K (by kernel_rfl)) (nmL H.q0 H.q4 (D2.ns 3 rfl) hm1 ⟨G.X.keeps D2.keep, ?_⟩)
  refine make_lex G D2 hA fun h' tk' o d p D3 => ?_
  have D4 := D3.perm (.cons _ (.cons _ (.cons _ (.swap _ _ _))))
  have D5 := D4.sub (.cons₂ _ (.cons₂ _ (.cons₂ _ (.cons₂ _ (.cons₂ _ (.cons₂ _ (.cons _ (List.Sublist.refl _))))))))
  have D6 := D5.perm (.cons _ (.cons _ (.cons _ (.cons _ (.cons _ (.cons _ (.swap _ _ _)))))))
  exact h h' tk' ⟨o, d, p, f, dd, rd, env.locals + 2, env.locals + 1, t, c⟩ rfl D6
end
end Mine
end
-- LxH
section
open PySem PySem.W PyProof.Rows PySem.Calls
set_option Elab.async false
set_option maxRecDepth 100000
namespace Mine
section
variable {w : World} {mg mb : Str → Option Value} {h₀ : Heap} {A : Around} {E : Value → Shared → Prop} {s : Shared} {Q : Value → Shared → Prop} {l r : List (Addr × Itm)} {x : Str} {tx : Tok} {f rd c c2 t L : Addr}
theorem list1 {M : Model} {env : Env} {e : Expr} {pos : Pos} (h : wpAny M A (eval e env) (fun v s₁ => Q (.ref s₁.heap.objs.size) { s₁ with heap := s₁.heap.push { cls := .type "list", data := .seq [v].toArray } }) E s)
    (he : backTo pos (starEach [e] env) = [(false, eval e env)] := by rfl) : wpAny M A (eval (.List [e] pos) env) Q E s := by
  refine wpAny_List ?_
  rw [he]
  exact spliced_cons (wpAny_mono h (fun v s₁ q => spliced_nil ⟨by show 1 ≤ sizeLine; rw [sizeLine_eq]; decide, q⟩) fun _ _ x => x)
theorem built_at (G : Gr w mg mb h₀) (D : Led h₀ s.heap l) (h6 : h₀.get? 106 = none) : s.heap.BuiltinsAt mg 106 := by
  obtain ⟨bm, ob, b1, b2, b3, b4, b5, b6⟩ := G.bmain
  refine ⟨bm, ob, b1, b2, fun q => ?_, fun q => ?_, D.keep _ _ b3, b4, b5, b6⟩
  · obtain ⟨o, es, ep, e, hd, _⟩ := G.g
    rw [q, e] at b3; cases b3; rw [hd] at b6; cases b6
  · rw [q, h6] at b3; cases b3
/-- the head of a call of _law_lexer -/
theorem lx_at {env : Env} (H : LE env L) (D : Led h₀ s.heap ((L, nsI fun _ => none) :: (L + 1, txtI x) :: (L + 2, cellI none) :: l))
    (h : ∀ h' tk' t, Led h₀ h' ((L, nsI fun _ => none) :: (L + 1, txtI x) :: (L + 2, cellI (some (.ref t))) :: (t, posI 0) :: l) →
      wpAny (model prog w) A (execs (lxBody.drop 1) env) (fun f s' => Q (match f with | .ret v => v | _ => .none) s') (fun _ _ => False) { s with heap := h', toks := tk' }) :
    wpAny (model prog w) A (execs lxBody env) (fun f s' => Q (match f with | .ret v => v | _ => .none) s') (fun _ _ => False) s := by
  refine wpAny_execs_cons (wpAny_Assign_Name (list1 (wpAny_Constant_int ?_)))
  have D2 := D.push (o := { cls := .type "list", data := .seq [.int 0 s.toks].toArray }) (P := posI 0) rfl ⟨rfl, _, _, rfl⟩
  refine wpAny_storeName_cell H.q0 H.q2 H.c2 (D2.get 3 rfl).cell fun h' hv hs => ?_
  have D3 := D2.same (P' := cellI _) 3 rfl hs (At.of_cell hv)
  exact h _ _ _ (D3.perm (List.perm_middle (l₁ := [(L, _), (L + 1, _), (L + 2, _)])).symm)
theorem lexer_first (G : Gr w mg mb h₀) (D : Led h₀ s.heap (tabE none ++ r)) (hA : A.depth + 2 < recursionLimit)
    (h : ∀ h' tk' X c2, Led h₀ h' (lexE X x 0 1 [] ++ (tabE (some (X.c, c2)) ++ r)) → Q (.ref X.o) { s with heap := h', toks := tk' }) :
    wpAny (model prog w) A (call (.ref 111) [.str x tx]) Q E s := by
  have h6 : h₀.get? 106 = none := (D.mem (106, _) (.head _)).2
  refine lx_enter G D (by omega) fun env h₁ tk L H D => lx_at H D fun h' tk' t D => ?_
  have hL := H.e3
  subst hL
  have hA1 : (A.deeper env).depth + 1 < recursionLimit := hA
  generalize A.deeper env = A1 at hA1 ⊢
  refine wpAny_execs_cons (nestDef_K rfl rfl H.h3 ?_)
  rw [H.qn]
  refine makeFunction_K (c := 110) (P := 106) (ps := #[]) H.h1 H.e1 (G.g.keeps D.keep) H.cd (G.code.keeps D.keep) (D.ob 4 rfl) trivial rfl (by decide) (built_at G D h6) fun c' ctv doc h2 tk2 hx hge hlt hrec htb => ?_
  obtain ⟨cc, oc, vs, tq, e2, hoc, hd, hv⟩ := hrec
  cases e2
  have D2 := D.extNew (P' := objI (tabObj #[rawInt 67, rawInt 4, .ref c'])) (P₂ := codI rdQual) 4 rfl hx (Nat.le_of_lt (Nat.lt_of_le_of_lt hge hlt)) (At.of_obj htb) hge ⟨oc, hoc, vs, tq, hd, hv⟩
  have D3 := D2.push (o := fnMade (Str.ofString "_law_read_on") rdQual (fArgs rdStmt) rdBody (fScope rdStmt) [(Str.ofString "text", env.locals + 1), (Str.ofString "at", env.locals + 2)] doc ((mg "__name__").getD .none) c' ctv)
    (P := rdI (env.locals + 2) (env.locals + 1) c') rfl ⟨_, rfl, rfl, rfl, rfl, rfl, rfl, rfl, rfl, rfl, rfl, rfl, rfl⟩
  refine wpAny_storeName_local H.q3 (D3.ns 2 rfl) (fun h3 hn3 hs3 => ?_) H.e4
  replace D3 := D3.same 2 rfl hs3 (At.of_ns hn3)
  dsimp only
  refine wpAny_execs_cons (wpAny_Assign_Name (kla_eval H.h4 ?_))
  refine kla_makeFunction (c := 110) (P := 106) (ps := #[rawInt 67, rawInt 4, .ref c']) H.h2 H.e1 (G.g.keeps D3.keep) H.cd (G.code.keeps D3.keep) (D3.ob 6 rfl) trivial rfl (by decide) (built_at G D3 h6) fun c2 ctv2 h4 tk4 hx4 hge4 hlt4 hrec4 htb4 => ?_
  have D4 := D3.ext (P' := objI (tabObj #[rawInt 67, rawInt 4, .ref c', rawInt 71, rawInt 13, .ref c2])) 6 rfl hx4 (Nat.le_of_lt (Nat.lt_of_le_of_lt hge4 hlt4)) (At.of_obj htb4)
  refine wpAny_storeName_local H.q4 (Heap.Ns.push (D4.ns 2 rfl) _) (fun h5 hn5 hs5 => ?_) H.e4
  have D5 := (D4.push (o := kla_obj _ _ _ _ _ _ _ _ _) (P := bareI) rfl ⟨rfl, rfl, _, rfl⟩).same 3 rfl hs5 (At.of_ns hn5)
  have D6 := D5.perm (.cons _ (.cons _ (List.perm_middle (l₁ := [_, _, _, _, _])).symm))
  refine lx_tail (L := env.locals) (t := t) (c := c') (x := x) G H (if_pos rfl) ((if_neg (by decide)).trans (if_pos rfl)) D6 hA1 fun h' tk' X hX D => ?_
  subst hX
  exact h _ _ X c2 D
theorem lexer_next (G : Gr w mg mb h₀) (D : Led h₀ s.heap (tabE (some (c, c2)) ++ r)) (hA : A.depth + 2 < recursionLimit)
    (h : ∀ h' tk' X, X.c = c → Led h₀ h' (lexE X x 0 1 [] ++ (tabE (some (c, c2)) ++ r)) → Q (.ref X.o) { s with heap := h', toks := tk' }) :
    wpAny (model prog w) A (call (.ref 111) [.str x tx]) Q E s := by
  have h6 : h₀.get? 106 = none := (D.mem (106, _) (.head _)).2
  refine lx_enter G D (by omega) fun env h₁ tk L H D => lx_at H D fun h' tk' t D => ?_
  have hL := H.e3
  subst hL
  have hA1 : (A.deeper env).depth + 1 < recursionLimit := hA
  generalize A.deeper env = A1 at hA1 ⊢
  refine wpAny_execs_cons (nestDef_K rfl rfl H.h3 ?_)
  rw [H.qn]
  refine makeFunction_hit (c := 110) (P := 106) (cv := .ref c) (ps := #[rawInt 67, rawInt 4, .ref c, rawInt 71, rawInt 13, .ref c2]) H.h1 H.e1 (G.g.keeps D.keep) H.cd (G.code.keeps D.keep) (D.ob 4 rfl) trivial rfl (built_at G D h6) fun ctv doc h2 tk2 hk hsz => ?_
  have D2 := D.keeps hk hsz
  have D3 := D2.push (o := fnMade (Str.ofString "_law_read_on") rdQual (fArgs rdStmt) rdBody (fScope rdStmt) [(Str.ofString "text", env.locals + 1), (Str.ofString "at", env.locals + 2)] doc ((mg "__name__").getD .none) c ctv)
    (P := rdI (env.locals + 2) (env.locals + 1) c) rfl ⟨_, rfl, rfl, rfl, rfl, rfl, rfl, rfl, rfl, rfl, rfl, rfl, rfl⟩
  refine wpAny_storeName_local H.q3 (D3.ns 1 rfl) (fun h3 hn3 hs3 => ?_) H.e4
  replace D3 := D3.same 1 rfl hs3 (At.of_ns hn3)
  dsimp only
  refine wpAny_execs_cons (wpAny_Assign_Name (kla_eval H.h4 ?_))
  refine kla_makeFunctionHit (c := 110) (P := 106) (cv := .ref c2) (ps := #[rawInt 67, rawInt 4, .ref c, rawInt 71, rawInt 13, .ref c2]) H.h2 H.e1 (G.g.keeps D3.keep) H.cd (G.code.keeps D3.keep) (D3.ob 5 rfl) trivial rfl (built_at G D3 h6) fun ctv2 h4 tk4 hk4 hsz4 => ?_
  have D4 := D3.keeps hk4 hsz4
  refine wpAny_storeName_local H.q4 (Heap.Ns.push (D4.ns 1 rfl) _) (fun h5 hn5 hs5 => ?_) H.e4
  have D5 := (D4.push (o := { cls := .type "function", data := .func (kla_fn _ _ _ _ _ _ _ _ _) }) (P := bareI) rfl ⟨rfl, rfl, _, rfl⟩).same 2 rfl hs5 (At.of_ns hn5)
  refine lx_tail (L := env.locals) (t := t) (c := c) (x := x) G H (if_pos rfl) ((if_neg (by decide)).trans (if_pos rfl)) D5 hA1 fun h' tk' X hX D => ?_
  exact h _ _ X hX D
end
end Mine
end
-- Rx1
section
open PySem PySem.W PyProof.Rows PySem.Calls
set_option Elab.async false
set_option maxRecDepth 100000
namespace Mine
open PySem.Sre PySem.Builtin.Re
theorem runFor_done {m : M} (h : m.outcome.isSome = true) : ∀ n, M.runFor n m = m
  | 0 => rfl
  | n + 1 => by show (if m.outcome.isSome then m else _) = m; rw [if_pos h]
theorem runFor_add (a b : Nat) (m : M) : M.runFor (a + b) m = M.runFor b (M.runFor a m) := by
  induction a generalizing m with
  | zero => rw [Nat.zero_add]; rfl
  | succ a ih =>
    rw [Nat.succ_add]
    show (if m.outcome.isSome then m else M.runFor (a + b) m.step) = M.runFor b (if m.outcome.isSome then m else M.runFor a m.step)
    by_cases h : m.outcome.isSome = true
    · rw [if_pos h, if_pos h, runFor_done h]
    · rw [if_neg h, if_neg h, ih]
theorem runFor_stable {m : M} {n k : Nat} (h : (M.runFor n m).outcome.isSome = true) (hk : n ≤ k) : M.runFor k m = M.runFor n m := by
  obtain ⟨d, rfl⟩ := Nat.exists_eq_add_of_le hk
  rw [runFor_add, runFor_done h]
theorem runFor_step {m : M} (h : m.outcome = none) (n : Nat) : M.runFor (n + 1) m = M.runFor n m.step := by
  show (if m.outcome.isSome then m else M.runFor n m.step) = _
  rw [if_neg (by rw [h]; decide)]
section
variable {Mo : Model} {A : Around} {E : Value → Shared → Prop} {s : Shared}
theorem drive_wp {Q : M → Shared → Prop} (n : Nat) : ∀ (T : Nat) (m : M), 0 < T → n ≤ 4 * T → (M.runFor n m).outcome.isSome = true → Q (M.runFor n m) s → wpAny Mo A (reDrive T m) Q E s
  | 0, _, h, _, _, _ => absurd h (Nat.lt_irrefl _)
  | T + 1, m, _, hn, ho, h => by
    unfold reDrive
    dsimp only
    by_cases hc : (M.runFor reTurnSteps m).outcome.isSome = true
    · rw [if_pos hc]
      refine wpAny_pure ?_
      have e : M.runFor reTurnSteps m = M.runFor n m := by
        rcases Nat.le_total n reTurnSteps with hl | hl
        · exact runFor_stable ho hl
        · exact (runFor_stable hc hl).symm
      rw [e]; exact h
    · rw [if_neg hc]
      have h4 : 4 ≤ n := by
        rcases Nat.lt_or_ge n 4 with hl | hl
        · exact absurd (by rw [show M.runFor reTurnSteps m = M.runFor n m from runFor_stable ho (Nat.le_of_lt hl)]; exact ho) hc
        · exact hl
      obtain ⟨d, rfl⟩ := Nat.exists_eq_add_of_le h4
      rw [runFor_add 4 d] at ho h
      refine wpAny_bind (wpAny_rule ?_)
      cases T with
      | zero =>
        have hd : d = 0 := by omega
        subst hd
        exact absurd ho hc
      | succ T => exact drive_wp d (T + 1) _ (Nat.succ_pos _) (by omega) ho h
theorem run_wp {Q : Option M → Shared → Prop} (m : M) (n : Nat) (hn : n ≤ 1000000) {r : Option M} (h1 : (M.runFor n m).outcome = some .matched ∧ r = some (M.runFor n m) ∨ (M.runFor n m).outcome = some .failed ∧ r = none) (h : Q r s) :
    wpAny Mo A (reRunToEnd m) Q E s := by
  unfold reRunToEnd
  have ho : (M.runFor n m).outcome.isSome = true := by rcases h1 with h1 | h1 <;> rw [h1.1] <;> rfl
  refine wpAny_bind (drive_wp n (2 ^ 64) m (by decide) (by omega) ho ?_)
  refine wpAny_bind (wpAny_forIn_list _ (fun _ _ s' => s' = s) _ (fun i rest b s' hs => ?_) (fun b s' hs => ?_) _ _ rfl)
  · subst hs
    split
    · exact wpAny_bind (wpAny_rule (wpAny_pure rfl))
    · exact wpAny_pure rfl
  subst hs
  rcases h1 with ⟨h1, rfl⟩ | ⟨h1, rfl⟩
  · rw [h1]; exact wpAny_pure h
  · rw [h1]; exact wpAny_pure h
end
end Mine
end
-- Rx2
section
open PySem PySem.W PySem.Calls
set_option Elab.async false
set_option maxRecDepth 100000
namespace Mine
open PySem.Sre PySem.Builtin.Re
def code1 : Array Nat := #[14, 4, 0, 1, 1, 6, 1, 16, 46, 1]
def st1 (text : Array Nat) (s : Nat) (first must : Bool) (sn : Sre.Seen) : M :=
  { code := code1, text, lim := text.size, start := s, lastStart := text.size, mustAdvance := must, pc := 5, pos := s, handed := s, outermost := first, marks := #[], frames := [{ wait := .nextStart, pc := 5, pos := s, outermost := first }], weight := 1, seen := sn }
variable {text : Array Nat} {s : Nat} {f must : Bool} {sn : Sre.Seen}
theorem step1_at : (st1 text s f must sn).step = (if (s == 0 || text.getD (s - 1) 0 == 10) = true then { { st1 text s f must sn with seen := (sn.add 6).add 44 } with pc := 7 } else { st1 text s f must sn with seen := (sn.add 6).add 44 }.say false) := by rfl
theorem search1 {must : Bool} (h : s < text.size) : Sre.forSearch code1 text 0 s text.size must = st1 text s true must (({} : Sre.Seen).add 14) := by
  unfold Sre.forSearch
  dsimp only
  rw [if_neg]
  · rfl
  · show ¬ ((decide (s > text.size) || decide (text.size - s < 1)) = true)
    simp; omega
theorem search1_end {must : Bool} (h : text.size ≤ s) : (M.runFor 1 (Sre.forSearch code1 text 0 s text.size must)).outcome = some .failed := by
  unfold Sre.forSearch
  dsimp only
  rw [if_pos]
  · rfl
  · show (decide (s > text.size) || decide (text.size - s < 1)) = true
    simp; omega
theorem miss1 (h0 : s ≠ 0) (h1 : text.getD (s - 1) 0 ≠ 10) (hs : s < text.size) : M.runFor 2 (st1 text s f must sn) = st1 text (s + 1) false false ((sn.add 6).add 44) := by
  rw [runFor_step rfl, step1_at, if_neg (by simp [h0]; simpa using h1), runFor_step rfl]
  show M.runFor 0 (if s < text.size then _ else _) = _
  rw [if_pos hs]
  rfl
theorem last1 (h1 : text.getD (text.size - 1) 0 = 10) (h0 : text.size ≠ 0) : (M.runFor 4 (st1 text text.size f must sn)).outcome = some .failed := by
  rw [runFor_step rfl, step1_at, if_pos (by rw [h1]; simp), runFor_step rfl]
  have e : M.step { { st1 text text.size f must sn with seen := (sn.add 6).add 44 } with pc := 7 } = ({ { { st1 text text.size f must sn with seen := (sn.add 6).add 44 } with pc := 7 } with seen := ((sn.add 6).add 44).add 16 }.say false) := by
    show (if text.size ≥ text.size then _ else _) = _
    rw [if_pos (Nat.le_refl _)]
    rfl
  rw [e, runFor_step rfl]
  have e2 : ∀ m : M, m.outcome = none → (M.runFor 2 m) = M.runFor 1 m.step := fun m h => runFor_step h 1
  show (M.runFor 1 (if text.size < text.size then _ else _)).outcome = _
  rw [if_neg (Nat.lt_irrefl _)]
  rfl
theorem hit1 (h1 : s = 0 ∨ text.getD (s - 1) 0 = 10) (hs : s < text.size) (h2 : text.getD s 0 = 46) (hm : must = false) :
    (M.runFor 5 (st1 text s f must sn)).outcome = some .matched ∧ (M.runFor 5 (st1 text s f must sn)).start = s ∧ (M.runFor 5 (st1 text s f must sn)).handed = s + 1 := by
  subst hm
  rw [runFor_step rfl, step1_at, if_pos (by rcases h1 with rfl | h1 <;> simp [*]), runFor_step rfl]
  have e : M.step { { st1 text s f false sn with seen := (sn.add 6).add 44 } with pc := 7 } = { { { st1 text s f false sn with seen := (sn.add 6).add 44 } with pc := 7 } with seen := ((sn.add 6).add 44).add 16, pc := 9, pos := s + 1 } := by
    show (if s ≥ text.size then _ else (match (Except.ok (text.getD s 0 == 46, _) : Except String (Bool × Sre.Seen)) with | .error why => _ | .ok (false, seen) => _ | .ok (true, seen) => _)) = _
    rw [if_neg (by omega), h2]
    rfl
  rw [e, runFor_step rfl]
  have e3 : M.step { { { st1 text s f false sn with seen := (sn.add 6).add 44 } with pc := 7 } with seen := ((sn.add 6).add 44).add 16, pc := 9, pos := s + 1 } = ({ { { { st1 text s f false sn with seen := (sn.add 6).add 44 } with pc := 7 } with seen := ((sn.add 6).add 44).add 16, pc := 9, pos := s + 1 } with seen := (((sn.add 6).add 44).add 16).add 1, handed := s + 1 }.say true) := by
    show (if (f && _) = true then _ else _) = _
    cases f <;> rfl
  rw [e3]
  exact ⟨rfl, rfl, rfl⟩
end Mine
end
-- Rx3
section
open PySem PySem.W PySem.Calls
set_option Elab.async false
set_option maxRecDepth 100000
namespace Mine
open PySem.Sre PySem.Builtin.Re PySem.Builtin PySem.Builtin.Bytes
theorem bufq (b : Array UInt8) (t : Tok) : bufferQuiet? "_sre" (.bytes b t) = pure (some b) := by kernel_rfl
theorem tbufq (b : Array UInt8) (t : Tok) : takeBufferQuiet? "bytes.join" (.bytes b t) 0 = pure (some (b, none)) := by kernel_rfl
theorem asb (b : Array UInt8) (t : Tok) : asStr? (.bytes b t) = pure none := by kernel_rfl
theorem isb (b : Array UInt8) (t : Tok) : isInstance (.bytes b t) (.type "bytes") = pure true := by kernel_rfl
theorem callb (b : Array UInt8) (t : Tok) : specialOf (.bytes b t) "__call__" = pure none := by kernel_rfl
theorem calls (b : Str) (t : Tok) : specialOf (.str b t) "__call__" = pure none := by kernel_rfl
theorem bufqs (b : Array UInt8) (t : Tok) : bufferQuiet? "re.Pattern.sub" (.bytes b t) = pure (some b) := by kernel_rfl
theorem entry_bjoin : entryFor table "bytes.join" = some Builtin.«bytes.join» := entryFor_of_tree (by kernel_rfl)
theorem args_bjoin (a b : Value) : argsOk "bytes.join" ⟨[a, b], []⟩ := by unfold argsOk; kernel_rfl
theorem slot_bjoin : Slot "bytes" "join" "bytes.join" :=
  .of (owner := "bytes") (n := "join") (by rw [typeLookup_type, builtinLookup_eq_fast]; kernel_rfl) (by decide +kernel) (by decide +kernel) (by decide +kernel)
    (by first | exact .inl (by decide +kernel) | exact .inr (by decide +kernel)) (by rw [isSubtype_type]; kernel_rfl)
def bVals (ps : List (Array UInt8 × Tok)) : List Value := ps.map fun p => .bytes p.1 p.2
theorem joined_nil (l : List (Array UInt8)) : joined #[] l = (l.flatMap Array.toList).toArray := by
  unfold joined
  have : ∀ (l : List (Array UInt8)) (k : Nat) (out : Array UInt8),
      (l.zipIdx k).foldl (fun out (p : Array UInt8 × Nat) => (if p.2 > 0 then out ++ #[] else out) ++ p.1) out = out ++ (l.flatMap Array.toList).toArray := by
    intro l
    induction l with
    | nil => intro k out; simp
    | cons a l ih => intro k out; rw [List.zipIdx_cons, List.foldl_cons, ih]; apply Array.ext'; simp [Array.append_assoc]
  have h := this l 0 #[]
  simpa using h
theorem fold_size (l : List (Array UInt8)) (k : Nat) : l.toArray.foldl (fun x1 x2 => x1 + x2.size) k = k + (l.map Array.size).sum := by
  rw [List.foldl_toArray]
  induction l generalizing k with
  | nil => simp
  | cons a l ih => rw [List.foldl_cons, ih]; simp [Nat.add_assoc]
theorem flat_size (l : List (Array UInt8)) : (l.flatMap Array.toList).length = (l.map Array.size).sum := by
  induction l with
  | nil => rfl
  | cons a l ih => simp [ih]
section
variable {prog : Program} {w : World} {A : Around} {E : Value → Shared → Prop} {s : Shared} {Q : Value → Shared → Prop}
theorem joinLetGo_wp (l : List (Array UInt8 × Tok)) (k : List Value) {Q : Unit → Shared → Prop} (h : Q () s) :
    wpAny (model prog w) A (joinLetGo (l.map fun p => (.bytes p.1 p.2, none)) k) Q E s := by
  induction l with
  | nil => exact wpAny_pure h
  | cons a l ih =>
    rw [List.map_cons, joinLetGo]
    · exact wpAny_bind (wpAny_letGo ih)
    · intro _ h; cases h
theorem bjoin {pl : Addr} {t0 : Tok} {n : Nat} (ps : List (Array UInt8 × Tok)) (hl : IsL s.heap pl (bVals ps).toArray n) (h2 : 2 ≤ ps.length)
    (hsz : (ps.map fun p => p.1.size).sum ≤ 100000) (h : ∀ tk tk', Q (.bytes (ps.flatMap (·.1.toList)).toArray tk) { s with toks := tk' }) :
    wpAny (model prog w) A (call (.builtin "bytes.join") [.bytes #[] t0, .ref pl]) Q E s := by
  refine wpAny_call_entry slot_bjoin (rfl : typeOf (.bytes #[] t0) = _) entry_bjoin ?_ (args_bjoin _ _)
  unfold Builtin.«bytes.join» joinM
  dsimp only
  refine wpAny_bind (wpAny_of_eq (a := (.bytes #[] t0, .ref pl)) rfl ?_)
  dsimp only
  rw [if_pos (by decide)]
  unfold joinItems
  refine wpAny_bind (wpAny_bind (wpAny_typeOf (T := "list") ⟨_, hl, rfl⟩ ?_))
  rw [if_pos (by decide)]
  refine wpAny_pure ?_
  refine wpAny_bind (wpAny_seqItems hl rfl ?_)
  dsimp only
  rw [if_pos (by decide)]
  have hsize : (bVals ps).toArray.size = ps.length := by simp [bVals]
  have hget : ∀ i, i < ps.length → ∃ p, ps[i]? = some p ∧ (bVals ps).toArray.getD i .none = .bytes p.1 p.2 := by
    intro i hi
    refine ⟨ps[i], List.getElem?_eq_getElem hi, ?_⟩
    simp [bVals, hi]
  generalize (bVals ps).toArray = I at hl hsize hget ⊢
  obtain ⟨_ | ⟨a, _ | ⟨b, rest⟩⟩⟩ := I
  · simp at hsize; omega
  · simp at hsize; omega
  refine wpAny_bind (m := forIn [:(⟨a :: b :: rest⟩ : Array Value).size] _ _) ?_
  generalize (⟨a :: b :: rest⟩ : Array Value) = I at hl hsize hget ⊢
  rw [Std.Legacy.Range.forIn_eq_forIn_range']
  refine wpAny_forIn_list _ (fun rest b s' => s' = s ∧ ∃ k, k ≤ ps.length ∧ rest = List.range' k (ps.length - k) ∧ b = (((ps.take k).map (·.1)).toArray, (ps.take k).map fun p => (.bytes p.1 p.2, none))) _ ?_ ?_ _ _ ?_
  · rintro x rest b s' ⟨rfl, k, hk, hr, rfl⟩
    have hk' : k < ps.length := by
      rcases Nat.lt_or_ge k ps.length with h' | h'
      · exact h'
      · rw [show ps.length - k = 0 by omega] at hr; simp at hr
    obtain ⟨m, hm⟩ : ∃ m, ps.length - k = m + 1 := ⟨ps.length - k - 1, by omega⟩
    rw [hm, List.range'_succ] at hr
    obtain ⟨rfl, rfl⟩ := List.cons.inj hr
    obtain ⟨p, hp, hpx⟩ := hget x hk'
    refine wpAny_bind (wpAny_seqItems hl rfl ?_)
    dsimp only
    rw [hpx, if_neg (by rw [show (Kind.bytes == Kind.bytearray) = false from rfl]; rw [Bool.false_or, Bool.not_eq_true, List.any_eq_false]; intro q hq; rw [List.mem_map] at hq; obtain ⟨_, _, rfl⟩ := hq; exact Bool.false_ne_true)]
    refine wpAny_bind (wpAny_holding ?_)
    refine wpAny_of_eq (tbufq _ _) ?_
    dsimp only
    refine wpAny_bind (wpAny_seqItems hl rfl ?_)
    dsimp only
    rw [if_neg (by simp)]
    refine wpAny_pure ⟨rfl, x + 1, by omega, ?_, ?_⟩
    · rw [show ps.length - (x + 1) = m by omega]
    · rw [List.take_add_one, hp]; simp
  · rintro b s' ⟨rfl, k, hk, hr, rfl⟩
    have hk' : k = ps.length := by
      rcases Nat.lt_or_ge k ps.length with h' | h'
      · obtain ⟨m, hm⟩ : ∃ m, ps.length - k = m + 1 := ⟨ps.length - k - 1, by omega⟩
        rw [hm, List.range'_succ] at hr; cases hr
      · omega
    subst hk'
    rw [List.take_length]
    refine wpAny_bind (wpAny_of_eq (a := (#[] : Array UInt8)) rfl ?_)
    dsimp only
    have hsz' : ((ps.map (·.1)).map Array.size).sum ≤ 100000 := by simpa [List.map_map, Function.comp_def] using hsz
    rw [fold_size, if_neg (by rw [tooLong]; simp only [decide_eq_true_eq, List.size_toArray]; have : (100000 : Nat) ≤ sizeLine := by decide
                              rw [Nat.not_lt]; show 0 * _ + _ ≤ _; omega)]
    refine wpAny_bind ?_
    show wpAny _ _ (mkBytes _) _ _ _
    rw [joined_nil]
    refine wpAny_mkBytes ?_ (by rw [List.size_toArray, flat_size]; exact Nat.le_trans hsz' (by decide))
    refine wpAny_bind (wpAny_holding (wpAny_point ?_))
    refine wpAny_bind (joinLetGo_wp _ _ ?_)
    refine wpAny_pure ⟨_, rfl, ?_⟩
    have := h s'.toks (s'.toks + 1)
    rw [List.flatMap_map]; exact this
  · refine ⟨rfl, 0, Nat.zero_le _, ?_, ?_⟩
    · rw [hsize]; simp
    · simp
end
end Mine
end
-- Rx4
section
open PySem PySem.W PySem.Calls
set_option Elab.async false
set_option maxRecDepth 100000
namespace Mine
open PySem.Sre PySem.Builtin.Re PySem.Builtin PySem.Builtin.Bytes
def code2 : Array Nat := #[14,9,4,1,2,16,10,16,13,0,7,7,16,13,16,10,15,18,5,16,10,15,13,11,16,13,5,5,0,16,10,1,15,2,0,1]
def byt (l : List Nat) : Array UInt8 := (l.map (·.toUInt8)).toArray
/-- the value that holds a text: kind 0 a str, else bytes -/
def rv (k : Nat) (l : List Nat) (t : Tok) : Value := if k = 0 then .str ⟨l.toArray⟩ t else .bytes (byt l) t
theorem byt_nat {l : List Nat} (h : ∀ x ∈ l, x < 256) : (byt l).map (·.toNat) = l.toArray := by
  apply Array.ext'
  simp only [byt, Array.toList_map, List.map_map]
  conv => rhs; rw [← List.map_id l]
  apply List.map_congr_left
  intro x hx
  have := h x hx
  show x.toUInt8.toNat = x
  simp [Nat.toUInt8]; omega
section
variable {w : World} {mg mb : Str → Option Value} {h₀ : Heap} {A : Around} {E : Value → Shared → Prop} {s : Shared} {r : List (Addr × Itm)}
/-- what the entry of a sub learns of its pattern and text -/
def Targ (w : World) (h₀ : Heap) (pat : Addr) (k : Nat) (code : Array Nat) (l : List Nat) (t : Tok) : Prop :=
  ∀ (A : Around) (E : Value → Shared → Prop) (s : Shared) (r : List (Addr × Itm)) (Q : ReTarget → Shared → Prop), Led h₀ s.heap r →
    Q { pattern := .ref pat, string := rv k l t, code := code, text := l.toArray, kind := k, groups := 0, pos := 0, lim := l.toArray.size } s →
    wpAny (model prog w) A (reWholeTarget (.ref pat) (rv k l t)) Q E s
theorem target1 (G : Gr w mg mb h₀) {l : List Nat} {t : Tok} (hl : ∀ x ∈ l, x < 256) : Targ w h₀ 36 1 code1 l t := by
  intro A E s r Q D h
  unfold reWholeTarget
  refine wpAny_bind (wpAny_fieldsOf (D.keep _ _ (G.X 36 _ rfl)) rfl ?_)
  refine wpAny_bind (m := reTextOf (rv 1 l t)) (wpAny_of_eq (a := (l.toArray, 1)) ?_ ?_)
  · rw [← byt_nat hl]
    kernel_rfl
  dsimp only
  rw [if_neg (by decide), if_neg (by decide)]
  refine wpAny_bind (wpAny_of_eq (a := ()) (by kernel_rfl) ?_)
  refine wpAny_bind (m := reRawItems (.ref 35)) ?_
  unfold reRawItems
  refine wpAny_bind (wpAny_seqItems (D.keep _ _ (G.X 35 _ rfl)) rfl ?_)
  refine wpAny_pure (wpAny_pure ?_)
  generalize hc : Array.map _ (Array.map reRawOf _) = c
  obtain rfl : c = code1 := hc.symm.trans (by kernel_rfl)
  exact h
theorem target2 (G : Gr w mg mb h₀) {l : List Nat} {t : Tok} : Targ w h₀ 41 0 code2 l t := by
  intro A E s r Q D h
  unfold reWholeTarget
  refine wpAny_bind (wpAny_fieldsOf (D.keep _ _ (G.X 41 _ rfl)) rfl ?_)
  refine wpAny_bind (m := reTextOf (rv 0 l t)) (wpAny_of_eq (a := (l.toArray, 0)) (by kernel_rfl) ?_)
  dsimp only
  rw [if_neg (by decide), if_neg (by decide)]
  refine wpAny_bind (wpAny_of_eq (a := ()) (by kernel_rfl) ?_)
  refine wpAny_bind (m := reRawItems (.ref 40)) ?_
  unfold reRawItems
  refine wpAny_bind (wpAny_seqItems (D.keep _ _ (G.X 40 _ rfl)) rfl ?_)
  refine wpAny_pure (wpAny_pure ?_)
  generalize hc : Array.map _ (Array.map reRawOf _) = c
  obtain rfl : c = code2 := hc.symm.trans (by kernel_rfl)
  exact h
/-- a run of searches from a place on: what is written from there -/
inductive Tr (code : Array Nat) (l rep : List Nat) : Bool → Nat → List (List Nat) → Prop
  | fin {must : Bool} {a n : Nat} (hn : n ≤ 1000000) (h : (M.runFor n (Sre.forSearch code l.toArray 0 a l.toArray.size must)).outcome = some .failed) :
      Tr code l rep must a (if a < l.length then [l.drop a] else [])
  | hit {must : Bool} {a n b e : Nat} {out : List (List Nat)} (hn : n ≤ 1000000) (h : (M.runFor n (Sre.forSearch code l.toArray 0 a l.toArray.size must)).outcome = some .matched)
      (hb : (M.runFor n (Sre.forSearch code l.toArray 0 a l.toArray.size must)).start = b) (he : (M.runFor n (Sre.forSearch code l.toArray 0 a l.toArray.size must)).handed = e)
      (next : Tr code l rep (e == b) e out) : Tr code l rep must a ((if a < b then [(l.drop a).take (b - a)] else []) ++ rep :: out)
end
end Mine
end
-- Rx5
section
open PySem PySem.W PySem.Calls
set_option Elab.async false
set_option maxRecDepth 100000
namespace Mine
open PySem.Sre PySem.Builtin.Re PySem.Builtin PySem.Builtin.Bytes
theorem entry_loop : entryFor table "re.Pattern.sub.loop" = some Builtin.«re.Pattern.sub.loop» := entryFor_of_tree (by kernel_rfl)
theorem plain_loop : plainId "re.Pattern.sub.loop" = true := by decide +kernel
def rvs (k : Nat) (ps : List (List Nat × Tok)) : List Value := ps.map fun p => rv k p.1 p.2
section
variable {w : World} {h₀ : Heap} {A : Around} {E : Value → Shared → Prop} {s : Shared} {r : List (Addr × Itm)}
def JoinK (w : World) (h₀ : Heap) (k : Nat) : Prop :=
  ∀ (A : Around) (E : Value → Shared → Prop) (s : Shared) (r : List (Addr × Itm)) (Q : Value → Shared → Prop) (pl : Addr) (t0 : Tok) (ps : List (List Nat × Tok)),
    Led h₀ s.heap ((pl, lstI (rvs k ps)) :: r) → 2 ≤ ps.length → (ps.flatMap (·.1)).length ≤ 100000 → (∀ tk tk', Q (rv k (ps.flatMap (·.1)) tk) { s with toks := tk' }) →
    wpAny (model prog w) A (call (.builtin (if k == 0 then "str.join" else "bytes.join")) [rv k [] t0, .ref pl]) Q E s
theorem join1 : JoinK w h₀ 1 := by
  intro A E s r Q pl t0 ps D h2 hz h
  obtain ⟨n, hl⟩ := (D.get 0 rfl).lst
  have e : rvs 1 ps = bVals (ps.map fun p => (byt p.1, p.2)) := by simp [rvs, bVals, rv]
  rw [e] at hl
  refine bjoin _ hl (by simpa using h2) ?_ ?_
  · simpa [byt, List.length_flatMap, Function.comp_def] using hz
  · intro tk tk'
    have := h tk tk'
    have e2 : (List.flatMap (fun x : Array UInt8 × Tok => x.fst.toList) (ps.map fun p => (byt p.1, p.2))).toArray = byt (ps.flatMap (·.1)) := by
      simp [byt, List.flatMap_map, List.map_flatMap]
    rw [e2]; exact this
theorem slice_wp {k : Nat} (hk : k = 0 ∨ k = 1) {l : List Nat} {a b : Nat} {Q : Value → Shared → Prop} (hz : l.length ≤ 100000) (h : Q (rv k ((l.drop a).take (b - a)) s.toks) { s with toks := s.toks + 1 }) :
    wpAny (model prog w) A (reSlice l.toArray k a b) Q E s := by
  unfold reSlice
  have e : l.toArray.extract a b = ((l.drop a).take (b - a)).toArray := by rw [List.extract_toArray, List.extract_eq_take_drop]
  have hb : (100000 : Nat) ≤ sizeLine := by decide
  have hlen : ((l.drop a).take (b - a)).length ≤ 100000 := by rw [List.length_take, List.length_drop]; omega
  rcases hk with rfl | rfl
  · rw [if_pos (by decide), e]
    exact wpAny_mkStr h (Nat.le_trans (by simpa [Str.length] using hlen) hb)
  · rw [if_neg (by decide), e]
    have e2 : (((l.drop a).take (b - a)).toArray.map (·.toUInt8)) = byt ((l.drop a).take (b - a)) := by simp [byt]
    rw [e2]
    exact wpAny_mkBytes h (Nat.le_trans (by simpa [byt] using hlen) hb)
theorem lit_turn {k : Nat} (hk : k = 0 ∨ k = 1) {l : List Nat} {t : Tok} : reLiteralCannotBeTurned (rv k l t) = pure () := by
  rcases hk with rfl | rfl <;> kernel_rfl
theorem loop_ct {pat pl : Addr} {k : Nat} (hk : k = 0 ∨ k = 1) {code : Array Nat} {l rep : List Nat} {t tr : Tok} (hT : Targ w h₀ pat k code l t) (hJ : JoinK w h₀ k) (hl : l.length ≤ 100000)
    {must : Bool} {a : Nat} {out : List (List Nat)} (T : Tr code l rep must a out) :
    ∀ (A : Around) (s : Shared) (ps : List (List Nat × Tok)) (Q : Value → Shared → Prop) (c : Nat) (D : Led h₀ s.heap ((pl, lstI (rvs k ps)) :: r)) (h2 : 2 ≤ ps.length + out.length)
      (hz : (ps.flatMap (·.1)).length + out.flatten.length ≤ 100000) (hc : ps.length + out.length ≤ 100000)
      (h : ∀ hh tk tt, Led h₀ hh r → Q (rv k (ps.flatMap (·.1) ++ out.flatten) tk) { s with heap := hh, toks := tt }),
      codeAny (model prog w) A (.builtin "re.Pattern.sub.loop" ⟨[.ref pat, rv k l t, rv k rep tr, rawInt 0, rawInt 0, rawInt c, rawInt a, rawInt a, .bool must, .ref pl, .bool false], []⟩) (Rv Q) s := by
  induction T with
  | @fin must a n hn ho =>
    intro A s ps Q c D h2 hz hc h
    refine codeAny_builtin entry_loop ?_
    unfold Builtin.«re.Pattern.sub.loop»
    dsimp only [rawInt]
    refine wpAny_bind (hT _ _ _ _ _ D ?_)
    dsimp only
    rw [if_pos (by decide)]
    refine wpAny_bind (wpAny_of_eq (a := ()) (lit_turn hk) ?_)
    rw [if_neg (by simp)]
    refine wpAny_bind (m := reRunToEnd _) (run_wp _ n hn (.inr ⟨ho, rfl⟩) ?_)
    simp only [Int.toNat_natCast]
    have fin : ∀ (s : Shared) (ps' : List (List Nat × Tok)), Led h₀ s.heap ((pl, lstI (rvs k ps')) :: r) → 2 ≤ ps'.length → (ps'.flatMap (·.1)).length ≤ 100000 →
        (∀ hh tk tt, Led h₀ hh r → Q (rv k (ps'.flatMap (·.1)) tk) { s with heap := hh, toks := tt }) →
        wpAny (model prog w) (A.under (.builtin "re.Pattern.sub.loop" ⟨[.ref pat, rv k l t, rv k rep tr, .int 0 0, .int 0 0, .int c 0, .int a 0, .int a 0, .bool must, .ref pl, .bool false], []⟩)) (do
          let joiner ← reSlice l.toArray k 0 0
          let text ← if ((← seqItems? (.ref pl)).getD #[]).isEmpty then pure joiner
            else call (.builtin (if k == 0 then "str.join" else "bytes.join")) [joiner, .ref pl]
          if false = true then ret (← holding [text] do newTuple [text, ← mkInt c]) else ret text) (fun fin s' => match fin with | .done f => Rv Q (.ok f) s' | .again c' => c'.quiet = true ∧ codeAny (model prog w) A c' (Rv Q) s') (fun e s' => Rv Q (.error e) s') s := by
      intro s ps' D' h2' hz' h'
      refine wpAny_bind (slice_wp hk hl ?_)
      obtain ⟨n, hl⟩ := (D'.get 0 rfl).lst
      refine wpAny_bind (wpAny_seqItems hl rfl ?_)
      rw [if_neg (by rw [Option.getD_some, Array.isEmpty_iff]; intro h0; have := congrArg Array.size h0; simp [rvs] at this; subst this; simp at h2')]
      refine wpAny_bind ?_
      rw [show ((l.drop 0).take (0 - 0)) = [] from by simp]
      refine hJ _ _ _ _ _ _ _ _ D' h2' hz' ?_
      intro tk tk'
      show wpAny _ _ (ret _) _ _ _
      exact wpAny_pure (h' _ _ _ D'.drop)
    by_cases ha : a < l.length
    · rw [if_pos ha] at h2 hz hc h
      rw [if_pos (by simpa using ha)]
      refine wpAny_bind (slice_wp hk hl ?_)
      rw [show ((l.drop a).take (l.toArray.size - a)) = l.drop a from List.take_of_length_le (by simp)]
      obtain ⟨n, hL⟩ := (D.get 0 rfl).lst
      have hb : (100001 : Nat) ≤ sizeLine := by decide
      refine wpAny_bind (wpAny_updateSeq hL rfl ?_ (by simp [rvs]; simp at hc; omega) (by simp [rvs]; simp at hc; omega))
      refine fin _ (ps ++ [(l.drop a, _)]) (D.lmap (its' := rvs k (ps ++ [(l.drop a, _)])) 0 rfl hL (by simp [rvs]; rfl)) ?_ ?_ ?_
      · simpa using h2
      · simpa [List.flatMap_append] using hz
      · simpa [List.flatMap_append] using h
    · rw [if_neg ha] at h2 hz hc h
      rw [if_neg (by simpa using ha)]
      refine fin _ _ D ?_ ?_ ?_
      · simpa using h2
      · simpa using hz
      · simpa using h
  | @hit must a n b e out hn ho hb he next ih =>
    intro A s ps Q c D h2 hz hc h
    refine codeAny_builtin entry_loop ?_
    unfold Builtin.«re.Pattern.sub.loop»
    dsimp only [rawInt]
    refine wpAny_bind (hT _ _ _ _ _ D ?_)
    dsimp only
    rw [if_pos (by decide)]
    refine wpAny_bind (wpAny_of_eq (a := ()) (lit_turn hk) ?_)
    rw [if_neg (by simp)]
    refine wpAny_bind (m := reRunToEnd _) (run_wp _ n hn (.inl ⟨ho, rfl⟩) ?_)
    simp only [Int.toNat_natCast, hb, he]
    have hsl : (100001 : Nat) ≤ sizeLine := by decide
    have fin : ∀ (s : Shared) (ps' : List (List Nat × Tok)), Led h₀ s.heap ((pl, lstI (rvs k ps')) :: r) → 2 ≤ ps'.length + (rep :: out).length → (ps'.flatMap (·.1)).length + (rep :: out).flatten.length ≤ 100000 → ps'.length + (rep :: out).length ≤ 100000 →
        (∀ hh tk tt, Led h₀ hh r → Q (rv k (ps'.flatMap (·.1) ++ (rep :: out).flatten) tk) { s with heap := hh, toks := tt }) →
        wpAny (model prog w) (A.under (.builtin "re.Pattern.sub.loop" ⟨[.ref pat, rv k l t, rv k rep tr, .int 0 0, .int 0 0, .int c 0, .int a 0, .int a 0, .bool must, .ref pl, .bool false], []⟩)) (do
          updateSeq pl (·.push (rv k rep tr))
          again (.builtin "re.Pattern.sub.loop" ⟨[.ref pat, rv k l t, rv k rep tr, rawInt 0, rawInt 0, rawInt ((c + 1 : Nat) : Int), rawInt e, rawInt e, .bool (e == b), .ref pl, .bool false], []⟩)) (fun fin s' => match fin with | .done f => Rv Q (.ok f) s' | .again c' => c'.quiet = true ∧ codeAny (model prog w) A c' (Rv Q) s') (fun e s' => Rv Q (.error e) s') s := by
      intro s ps' D' h2' hz' hc' h'
      obtain ⟨n, hL⟩ := (D'.get 0 rfl).lst
      refine wpAny_bind (wpAny_updateSeq hL rfl ?_ (by simp [rvs]; simp at hc'; omega) (by simp [rvs]; simp at hc'; omega))
      refine wpAny_pure ⟨plainId_quiet plain_loop _, ?_⟩
      refine ih A _ (ps' ++ [(rep, tr)]) Q (c + 1) (D'.lmap (its' := rvs k (ps' ++ [(rep, tr)])) 0 rfl hL (by simp [rvs])) ?_ ?_ ?_ ?_
      · simp at h2' ⊢; omega
      · simp [List.flatMap_append] at hz' ⊢; omega
      · simp at hc' ⊢; omega
      · simpa [List.flatMap_append] using h'
    have hn0 : (rv k rep tr != Value.none) = true := by rcases hk with rfl | rfl <;> rfl
    by_cases ha : a < b
    · rw [if_pos ha] at h2 hz hc h ⊢
      obtain ⟨n, hL⟩ := (D.get 0 rfl).lst
      refine wpAny_bind (slice_wp hk hl ?_)
      refine wpAny_bind (wpAny_updateSeq hL rfl ?_ (by simp [rvs]; simp at hc; omega) (by simp [rvs]; simp at hc; omega))
      rw [if_pos (by decide)]
      refine wpAny_bind (wpAny_pure ?_)
      rw [if_pos hn0]
      refine fin _ (ps ++ [((l.drop a).take (b - a), _)]) (D.lmap (its' := rvs k (ps ++ [((l.drop a).take (b - a), _)])) 0 rfl hL (by simp [rvs]; rfl)) ?_ ?_ ?_ ?_
      · simp at h2 ⊢; omega
      · simp [List.flatMap_append] at hz ⊢; omega
      · simp at hc ⊢; omega
      · simpa [List.flatMap_append] using h
    · rw [if_neg ha] at h2 hz hc h ⊢
      rw [if_pos (by decide)]
      refine wpAny_bind (wpAny_pure ?_)
      rw [if_pos hn0]
      exact fin _ ps D h2 hz hc h
end
end Mine
end
-- Rx6
section
open PySem PySem.W PySem.Calls
set_option Elab.async false
set_option maxRecDepth 100000
namespace Mine
open PySem.Sre PySem.Builtin.Re PySem.Builtin PySem.Builtin.Bytes
section
variable {w : World} {mg mb : Str → Option Value} {h₀ : Heap} {A : Around} {E : Value → Shared → Prop} {s : Shared} {r : List (Addr × Itm)}
theorem entry_sub : entryFor table "re.Pattern.sub" = some Builtin.«re.Pattern.sub» := entryFor_of_tree (by kernel_rfl)
theorem args_sub (a b c : Value) : argsOk "re.Pattern.sub" ⟨[a, b, c], []⟩ := by unfold argsOk; kernel_rfl
theorem slot_sub : Slot "re.Pattern" "sub" "re.Pattern.sub" :=
  .of (owner := "re.Pattern") (n := "sub") (by rw [typeLookup_type, builtinLookup_eq_fast]; kernel_rfl) (by decide +kernel) (by decide +kernel) (by decide +kernel)
    (by first | exact .inl (by decide +kernel) | exact .inr (by decide +kernel)) (by rw [isSubtype_type]; kernel_rfl)
theorem lit_sub {k : Nat} (hk : k = 0 ∨ k = 1) {l : List Nat} {t : Tok} : specialOf (rv k l t) "__call__" = pure none := by
  rcases hk with rfl | rfl <;> kernel_rfl
open StrLaws in
theorem join_txt : ∀ (l : List (List Nat)), Txt.join ⟨#[]⟩ (l.map fun x => (⟨x.toArray⟩ : Str)) = ⟨l.flatten.toArray⟩ := by
  intro l
  unfold Txt.join
  rw [glued_eq_join]
  induction l with
  | nil => rfl
  | cons x l ih =>
    cases l with
    | nil => show (⟨x.toArray⟩ : Str) = _; simp
    | cons y l =>
      rw [List.map_cons] at ih ⊢
      rw [List.map_cons]
      show (⟨x.toArray⟩ : Str) ++ ⟨#[]⟩ ++ Str.join ⟨#[]⟩ ((⟨y.toArray⟩ : Str) :: l.map fun x => (⟨x.toArray⟩ : Str)) = _
      rw [ih]
      show (⟨x.toArray ++ #[] ++ (y :: l).flatten.toArray⟩ : Str) = _
      congr 1; apply Array.ext'; simp
theorem join_ok (l : List (List Nat)) (h : l.flatten.length ≤ 100000) : JoinOk ⟨#[]⟩ (l.map fun x => (⟨x.toArray⟩ : Str)) = true := by
  have : ∀ (l : List (List Nat)) (k : Nat), (l.map fun x => (⟨x.toArray⟩ : Str)).toArray.foldl (fun a b => a + b.length + (⟨#[]⟩ : Str).length) k = k + l.flatten.length := by
    intro l
    induction l with
    | nil => intro k; simp
    | cons x l ih => intro k; rw [List.foldl_toArray, List.map_cons, List.foldl_cons, ← List.foldl_toArray, ih]; simp [Str.length]; omega
  unfold JoinOk
  rw [this]
  have hb : (100000 : Nat) ≤ sizeLine := by decide
  rw [Bool.not_eq_true']
  show decide _ = false
  rw [decide_eq_false_iff_not]; omega
theorem join0 : JoinK w h₀ 0 := by
  intro A E s r Q pl t0 ps D h2 hz h
  obtain ⟨n, hl⟩ := (D.get 0 rfl).lst
  have e : rvs 0 ps = strValues (ps.map fun p => ((⟨p.1.toArray⟩ : Str), p.2)) := by simp [rvs, strValues, rv]
  rw [e] at hl
  refine SC.join (texts := ps.map fun p => (⟨p.1.toArray⟩ : Str)) ⟨_, hl, rfl, _, rfl⟩ (by simp) ?_ ?_
  · have := join_ok (ps.map (·.1)) (by rw [← List.flatMap_def]; exact hz)
    rwa [List.map_map] at this
  · intro t' k
    have := h t' k
    have e2 := join_txt (ps.map (·.1))
    rw [List.map_map] at e2
    rw [show (List.map (fun p : List Nat × Tok => ({ cps := p.fst.toArray } : Str)) ps) = List.map ((fun x => { cps := List.toArray x }) ∘ fun x => x.fst) ps from rfl, e2, ← List.flatMap_def]
    exact this
theorem sub_ct {pat : Addr} {k : Nat} (hk : k = 0 ∨ k = 1) {code : Array Nat} {l rep : List Nat} {t tr : Tok} (hp : s.TypeIs (.ref pat) "re.Pattern") (hT : Targ w h₀ pat k code l t) (hJ : JoinK w h₀ k) (hl : l.length ≤ 100000)
    (hlit : (!rep.toArray.contains 92) = true ∧ (!(byt rep).contains 92) = true)
    {out : List (List Nat)} (T : Tr code l rep false 0 out) {Q : Value → Shared → Prop} (D : Led h₀ s.heap r) (h2 : 2 ≤ out.length) (hz : out.flatten.length ≤ 100000) (hc : out.length ≤ 100000)
    (h : ∀ hh tk tt, Led h₀ hh r → Q (rv k out.flatten tk) { s with heap := hh, toks := tt }) :
    wpAny (model prog w) A (call (.builtin "re.Pattern.sub") [.ref pat, rv k rep tr, rv k l t]) Q E s := by
  refine call_meetsIn (S := fun A R s => wpAny (model prog w) A.in1 (Builtin.«re.Pattern.sub» ⟨[.ref pat, rv k rep tr, rv k l t], []⟩) (fun fin s' => match fin with | .done f => R (.ok f) s' | .again c' => c'.quiet = true ∧ codeAny (model prog w) A c' R s') (fun e s' => R (.error e) s') s) slot_sub hp entry_sub (args_sub _ _ _) (fun _ _ _ h => h) ?_
  unfold Builtin.«re.Pattern.sub» reSubstitute
  dsimp only
  refine wpAny_bind (wpAny_of_eq (a := [some (rv k rep tr), some (rv k l t), none]) (by kernel_rfl) ?_)
  dsimp only
  refine wpAny_bind (wpAny_pure ?_)
  refine wpAny_bind (wpAny_of_eq (lit_sub hk) ?_)
  rw [if_neg (by decide)]
  have fin : wpAny (model prog w) A.in1 (do
      let _ ← holding [rv k rep tr] (reWholeTarget (.ref pat) (rv k l t))
      let p ← newList []
      again (.builtin "re.Pattern.sub.loop" ⟨[.ref pat, rv k l t, rv k rep tr, rawInt 0, rawInt 0, rawInt 0, rawInt 0, rawInt 0, .bool false, p, .bool false], []⟩)) (fun fin s' => match fin with | .done f => wants Q E (.ok f) s' | .again c' => c'.quiet = true ∧ codeAny (model prog w) A c' (wants Q E) s') (fun e s' => wants Q E (.error e) s') s := by
    refine wpAny_bind (wpAny_holding (hT _ _ _ _ _ D ?_))
    refine wpAny_bind (wpAny_newList ?_)
    refine wpAny_pure ⟨plainId_quiet plain_loop _, ?_⟩
    refine codeAny_mono (loop_ct hk hT hJ hl T A _ [] Q 0 (D.push rfl ⟨_, rfl⟩) (by simpa using h2) (by simpa using hz) (by simpa using hc) (by simpa using h)) fun r s' q => ?_
    rcases r with e | (_ | _ | _ | v) <;> first | exact q | exact q.elim
  rcases hk with rfl | rfl
  · refine wpAny_bind (wpAny_of_eq (a := some (⟨rep.toArray⟩ : Str)) (by kernel_rfl) ?_)
    dsimp only
    refine wpAny_bind (wpAny_pure ?_)
    rw [if_neg (by decide), if_pos hlit.1]
    refine wpAny_bind (wpAny_pure ?_)
    exact fin
  · refine wpAny_bind (wpAny_of_eq (a := none) (by kernel_rfl) ?_)
    dsimp only
    refine wpAny_bind (wpAny_of_eq (bufqs (byt rep) tr) ?_)
    dsimp only
    refine wpAny_bind (wpAny_pure ?_)
    rw [if_neg (by decide), if_pos hlit.2]
    refine wpAny_bind (wpAny_pure ?_)
    exact fin
end
end Mine
end
-- Rx7
section
open PySem PySem.W PySem.Calls
set_option Elab.async false
set_option maxRecDepth 100000
namespace Mine
open PySem.Sre PySem.Builtin.Re PySem.Builtin PySem.Builtin.Bytes
/-- a mail: rows of dots, each with its end -/
def mail (e : List Nat) (ns : List Nat) : List Nat := ns.flatMap fun n => List.replicate n 46 ++ e
/-- d misses of the first pattern in a row -/
theorem miss_run {text : Array Nat} (d : Nat) : ∀ (s : Nat) (f must : Bool) (sn : Sre.Seen), (∀ i, s ≤ i → i < s + d → i ≠ 0 ∧ text.getD (i - 1) 0 ≠ 10 ∧ i < text.size) → d ≠ 0 →
    ∃ sn', M.runFor (2 * d) (st1 text s f must sn) = st1 text (s + d) false false sn' := by
  induction d with
  | zero => intro s f must sn _ h; exact absurd rfl h
  | succ d ih =>
    intro s f must sn h _
    obtain ⟨h0, h1, h2⟩ := h s (Nat.le_refl _) (by omega)
    rw [show 2 * (d + 1) = 2 + 2 * d by omega, runFor_add, miss1 h0 h1 h2]
    rcases Nat.eq_zero_or_pos d with rfl | hd
    · exact ⟨_, rfl⟩
    · obtain ⟨sn', e⟩ := ih (s + 1) false false _ (fun i hi hj => h i (by omega) (by omega)) (by omega)
      exact ⟨sn', by rw [e]; congr 1; omega⟩
theorem get_at (p x : List Nat) (j : Nat) : (p ++ x).toArray.getD (p.length + j) 0 = x.getD j 0 := by
  simp [Array.getD_eq_getD_getElem?, List.getD_eq_getElem?_getD, List.getElem?_append_right]
theorem run1 (p : List Nat) (m : Nat) (rest L : List Nat) (hL : L = p ++ (List.replicate (m + 1) 46 ++ 13 :: 10 :: rest)) :
    ∃ sn', M.runFor (2 * (m + 2)) (Sre.forSearch code1 L.toArray 0 (p.length + 1) L.toArray.size false) = st1 L.toArray (p.length + 1 + (m + 2)) false false sn' := by
  have hat : ∀ j, L.toArray.getD (p.length + j) 0 = (List.replicate (m + 1) 46 ++ 13 :: 10 :: rest).getD j 0 := by subst hL; exact get_at _ _
  have hlen : L.toArray.size = p.length + (m + 1 + (2 + rest.length)) := by
    subst hL; simp; omega
  rw [search1 (by omega)]
  exact miss_run (text := L.toArray) (m + 2) (p.length + 1) true false (({} : Sre.Seen).add 14) (fun i hi hj => by
    refine ⟨by omega, ?_, by omega⟩
    obtain ⟨j, rfl⟩ : ∃ j, i = p.length + j + 1 := ⟨i - p.length - 1, by omega⟩
    rw [show p.length + j + 1 - 1 = p.length + j by omega, hat]
    rcases Nat.lt_or_ge j (m + 1) with hj' | hj'
    · rw [List.getD_eq_getElem?_getD, List.getElem?_append_left (by simpa using hj')]; simp [hj']
    · obtain rfl : j = m + 1 := by omega
      rw [List.getD_eq_getElem?_getD, List.getElem?_append_right (by simp)]; simp) (by omega)
theorem tr1 : ∀ (ns : List Nat) (p : List Nat) (m : Nat) (L : List Nat), (∀ n ∈ ns, 1 ≤ n) → L = p ++ (List.replicate (m + 1) 46 ++ 13 :: 10 :: mail [13, 10] ns) → L.length ≤ 100000 →
    ∃ out, Tr code1 L [46, 46] false (p.length + 1) out ∧ out.flatten = List.replicate m 46 ++ 13 :: 10 :: mail [13, 10] (ns.map (· + 1)) ∧ out.length ≤ 2 * ns.length + 1 ∧ 1 ≤ out.length := by
  intro ns
  induction ns with
  | nil =>
    intro p m L hns hL hz
    obtain ⟨sn', hm⟩ := run1 p m _ L hL
    have hlen : L.toArray.size = p.length + 1 + (m + 2) := by subst hL; simp [mail]; omega
    have hl : L.toArray.getD (L.toArray.size - 1) 0 = 10 := by
      rw [hlen, show p.length + 1 + (m + 2) - 1 = p.length + (m + 2) by omega, hL, get_at]
      rw [List.getD_eq_getElem?_getD, List.getElem?_append_right (by simp)]; simp
    have hf : (M.runFor (2 * (m + 2) + 4) (Sre.forSearch code1 L.toArray 0 (p.length + 1) L.toArray.size false)).outcome = some .failed := by
      rw [runFor_add, hm, ← hlen]
      exact last1 hl (by omega)
    have hll : L.length = p.length + 1 + (m + 2) := by simpa using hlen
    refine ⟨_, .fin (by omega) hf, ?_, ?_, ?_⟩
    · rw [if_pos (by omega), hL, List.drop_append]
      simp [mail]
    · rw [if_pos (by omega)]; simp
    · rw [if_pos (by omega)]; simp
  | cons n ns ih =>
    intro p m L hns hL hz
    obtain ⟨n, rfl⟩ : ∃ k, n = k + 1 := ⟨n - 1, by have := hns n (by simp); omega⟩
    obtain ⟨sn', hm⟩ := run1 p m _ L hL
    have hM : mail [13, 10] ((n + 1) :: ns) = List.replicate (n + 1) 46 ++ 13 :: 10 :: mail [13, 10] ns := by simp [mail]
    have hL2 : L = (p ++ (List.replicate (m + 1) 46 ++ [13, 10])) ++ (List.replicate (n + 1) 46 ++ 13 :: 10 :: mail [13, 10] ns) := by
      rw [hL, hM]; simp
    have hpl : (p ++ (List.replicate (m + 1) 46 ++ [13, 10])).length = p.length + 1 + (m + 2) := by simp; omega
    obtain ⟨out, hT, hf, ho, ho1⟩ := ih _ n L (fun x hx => hns x (by simp [hx])) hL2 hz
    rw [hpl] at hT
    have hlen : L.toArray.size = p.length + 1 + (m + 2) + (n + 1 + (2 + (mail [13, 10] ns).length)) := by
      rw [hL2]; simp; omega
    have h1 : L.toArray.getD (p.length + 1 + (m + 2) - 1) 0 = 10 := by
      rw [show p.length + 1 + (m + 2) - 1 = p.length + (m + 2) by omega, hL, get_at]
      rw [List.getD_eq_getElem?_getD, List.getElem?_append_right (by simp)]; simp
    have h2 : L.toArray.getD (p.length + 1 + (m + 2)) 0 = 46 := by
      have := get_at (p ++ (List.replicate (m + 1) 46 ++ [13, 10])) (List.replicate (n + 1) 46 ++ 13 :: 10 :: mail [13, 10] ns) 0
      rw [← hL2, hpl] at this
      rw [Nat.add_zero] at this
      rw [this]; simp [List.replicate_succ]
    obtain ⟨g1, g2, g3⟩ := hit1 (f := false) (must := false) (sn := sn') (.inr h1) (by omega) h2 rfl
    rw [← hm, ← runFor_add] at g1 g2 g3
    have hll : L.length ≤ 100000 := hz
    have hsz : L.toArray.size = L.length := by simp
    refine ⟨_, .hit (by omega) g1 g2 g3 (by rw [show (p.length + 1 + (m + 2) + 1 == p.length + 1 + (m + 2)) = false by simp]; exact hT), ?_, ?_, ?_⟩
    · have hd : (L.drop (p.length + 1)).take (p.length + 1 + (m + 2) - (p.length + 1)) = List.replicate m 46 ++ [13, 10] := by
        rw [hL, List.replicate_succ, List.cons_append, show p ++ 46 :: (List.replicate m 46 ++ 13 :: 10 :: mail [13, 10] ((n + 1) :: ns)) = (p ++ [46]) ++ ((List.replicate m 46 ++ [13, 10]) ++ mail [13, 10] ((n + 1) :: ns)) by simp,
          List.drop_left' (by simp), List.take_left' (by simp)]
      rw [if_pos (by omega), hd]
      simp [hf, mail, List.replicate_succ]
    · rw [if_pos (by omega)]; simp; omega
    · simp
end Mine
end
-- Rx8
section
open PySem PySem.W PySem.Calls
set_option Elab.async false
set_option maxRecDepth 100000
namespace Mine
open PySem.Sre PySem.Builtin.Re PySem.Builtin PySem.Builtin.Bytes
theorem tr1_all (n : Nat) (ns : List Nat) (hns : ∀ k ∈ ns, 1 ≤ k) (hz : (mail [13, 10] ((n + 1) :: ns)).length ≤ 100000) :
    ∃ out, Tr code1 (mail [13, 10] ((n + 1) :: ns)) [46, 46] false 0 out ∧ out.flatten = mail [13, 10] (((n + 1) :: ns).map (· + 1)) ∧ out.length ≤ 2 * ns.length + 2 ∧ 2 ≤ out.length := by
  have hM : mail [13, 10] ((n + 1) :: ns) = List.replicate (n + 1) 46 ++ 13 :: 10 :: mail [13, 10] ns := by simp [mail]
  obtain ⟨out, hT, hf, ho, ho1⟩ := tr1 ns [] n _ hns (by rw [hM]; rfl) hz
  have hs : 0 < (mail [13, 10] ((n + 1) :: ns)).toArray.size := by rw [hM]; simp; omega
  obtain ⟨g1, g2, g3⟩ := hit1 (text := (mail [13, 10] ((n + 1) :: ns)).toArray) (s := 0) (f := true) (must := false) (sn := ({} : Sre.Seen).add 14) (.inl rfl) hs (by rw [hM]; simp [List.replicate_succ]) rfl
  rw [← search1 hs] at g1 g2 g3
  refine ⟨_, .hit (by omega) g1 g2 g3 hT, ?_, ?_, ?_⟩
  · simp [hf, mail, List.replicate_succ]
  · simp; omega
  · simp; omega
end Mine
end
-- Rx9
section
open PySem PySem.W PyProof.Rows PySem.Calls
set_option Elab.async false
set_option maxRecDepth 100000
namespace Mine
theorem plainAttrs_pat : PlainAttrs "re.Pattern" :=
  ⟨⟨"object.__getattribute__", by rw [typeLookup_type, builtinLookup_eq_fast]; kernel_rfl, by decide +kernel⟩, by rw [typeLookup_type, builtinLookup_eq_fast]; kernel_rfl⟩
theorem type_sub : typeOf (.builtin "re.Pattern.sub") = pure (.type "method_descriptor") := by show builtinType _ = _; rw [builtinType_eq_fast]; kernel_rfl
theorem mail_len (e : List Nat) : ∀ ns : List Nat, (mail e ns).length = ns.sum + e.length * ns.length
  | [] => rfl
  | n :: ns => by
    have := mail_len e ns
    simp only [mail, List.flatMap_cons, List.length_append, List.length_replicate, List.sum_cons, List.length_cons] at this ⊢
    rw [this, Nat.mul_succ]; omega
theorem mail_mem {e : List Nat} {ns : List Nat} {x : Nat} (h : x ∈ mail e ns) : x = 46 ∨ x ∈ e := by
  simp only [mail, List.mem_flatMap, List.mem_append, List.mem_replicate] at h
  obtain ⟨_, _, h | h⟩ := h
  · exact .inl h.2
  · exact .inr h
theorem sum_map_succ : ∀ ns : List Nat, (ns.map (· + 1)).sum = ns.sum + ns.length
  | [] => rfl
  | n :: ns => by have := sum_map_succ ns; simp only [List.map_cons, List.sum_cons, List.length_cons] at this ⊢; omega
section
variable {w : World} {mg mb : Str → Option Value} {h₀ : Heap} {A : Around} {E : Value → Shared → Prop} {s : Shared} {Q : Value → Shared → Prop} {r : List (Addr × Itm)}
theorem quote_ct (G : Gr w mg mb h₀) (D : Led h₀ s.heap r) (hA : A.depth < recursionLimit) {n : Nat} {ns : List Nat} {t : Tok} (hns : ∀ k ∈ ns, 1 ≤ k) (hz : (mail [13, 10] (((n + 1) :: ns).map (· + 1))).length ≤ 100000) (hln : ns.length ≤ 1000)
    (h : ∀ hh tk tt, Led h₀ hh r → Q (rv 1 (mail [13, 10] (((n + 1) :: ns).map (· + 1))) tk) { s with heap := hh, toks := tt }) :
    wpAny (model prog w) A (call (.ref 48) [rv 1 (mail [13, 10] ((n + 1) :: ns)) t]) Q E s := by
  refine call_fn (binds := [(Str.ofString "bindata", rv 1 (mail [13, 10] ((n + 1) :: ns)) t)]) (D.keep _ _ (G.X 48 _ rfl)) rfl rfl (Heap.CodeRec.keeps ⟨_, _, _, _, rfl, G.X 47 _ rfl, rfl, rfl⟩ D.keep) (G.lim.keeps D.keep) rfl (locs rfl) (by decide) hA ?_
  intro h₁ tk F
  have D1 := Fr.led D F
  generalize hE : callEnv _ _ _ = env
  have q0 : env.scope.kind = .function := by rw [← hE]; rfl
  have q1 : env.kindOf (Str.ofString "bindata") = some .local := by rw [← hE]; rfl
  have q2 : env.kindOf (Str.ofString "_twin_re_1") = some .globalImplicit := by rw [← hE]; rfl
  have e1 : env.globals = mainGlobals := by rw [← hE]; rfl
  have e2 : env.locals = s.heap.objs.size := by rw [← hE]; rfl
  rw [← e2] at D1
  refine wpAny_execs_cons (wpAny_Return_some (MethodCall_ (nmG G D1 q0 q2 e1 (v := .ref 36) (by kernel_rfl) ?_)))
  refine getMethod_builtin ⟨_, D1.keep _ _ (G.X 36 _ rfl), rfl⟩ plainAttrs_pat slot_sub type_sub (fun a e => by cases e; exact ⟨_, D1.keep _ _ (G.X 36 _ rfl), rfl⟩) ?_
  refine callB2 (PySem.W.Constant_bytes (nmL q0 q1 (D1.ns 0 rfl) rfl ?_))
  have hz0 : (mail [13, 10] ((n + 1) :: ns)).length ≤ 100000 := by
    rw [mail_len] at hz ⊢
    rw [sum_map_succ, List.length_map] at hz
    omega
  obtain ⟨out, hT, hf, ho, ho2⟩ := tr1_all n ns hns hz0
  rw [← hf] at h hz
  refine sub_ct (k := 1) (rep := [46, 46]) (l := mail [13, 10] ((n + 1) :: ns)) (.inr rfl) ⟨_, D1.keep _ _ (G.X 36 _ rfl), rfl⟩ (target1 G fun x hx => ?_) join1 hz0 (by decide +kernel) hT D1 ho2 hz (by omega) fun hh tk tt D => h _ _ _ D.drop
  rcases mail_mem hx with rfl | hx'
  · decide
  · simp at hx'; omega
end
end Mine
end
-- Ry1
section
open PySem PySem.W PySem.Calls
set_option Elab.async false
set_option maxRecDepth 100000
namespace Mine
open PySem.Sre PySem.Builtin.Re
def st2 (text : Array Nat) (s pc pos handed weight : Nat) (om : Bool) (fr : List Sre.Frame) (ans : Option Bool) (sn : Sre.Seen) : M :=
  { code := code2, text, lim := text.size, start := s, lastStart := text.size, mustAdvance := false, pc, pos, handed, outermost := om, marks := #[], frames := fr, weight, answer := ans, seen := sn }
section
variable {text : Array Nat} {s pos handed weight : Nat} {om : Bool} {fr : List Sre.Frame} {sn : Sre.Seen}
theorem lit_ok (pc c : Nat) (hp : pc ∈ [12, 14, 19, 24, 29]) (hc : code2.getD (pc + 1) 0 = c) (h : pos < text.size) (h2 : text.getD pos 0 = c) :
    (st2 text s pc pos handed weight om fr none sn).step = st2 text s (pc + 2) (pos + 1) handed weight om fr none (sn.add 16) := by
  simp only [List.mem_cons, List.not_mem_nil, or_false] at hp
  rcases hp with rfl | rfl | rfl | rfl | rfl <;> subst hc
  all_goals
    show (if pos ≥ text.size then _ else (match (Except.ok (text.getD pos 0 == _, _) : Except String (Bool × Sre.Seen)) with | .error why => _ | .ok (false, seen) => _ | .ok (true, seen) => _)) = _
    rw [if_neg (by omega), h2]
    rfl
theorem lit_no (pc c : Nat) (hp : pc ∈ [12, 14, 19, 24, 29]) (hc : code2.getD (pc + 1) 0 = c) (h : pos < text.size → text.getD pos 0 ≠ c) :
    (st2 text s pc pos handed weight om fr none sn).step = st2 text s pc pos handed weight om fr (some false) (sn.add 16) := by
  have key : pos < text.size → (text.getD pos 0 == c) = false := fun h3 => beq_eq_false_iff_ne.mpr (h h3)
  clear h
  simp only [List.mem_cons, List.not_mem_nil, or_false] at hp
  rcases hp with rfl | rfl | rfl | rfl | rfl
  · obtain rfl : 13 = c := hc
    show (if pos ≥ text.size then _ else (match (Except.ok (text.getD pos 0 == 13, _) : Except String (Bool × Sre.Seen)) with | .error why => _ | .ok (false, seen) => _ | .ok (true, seen) => _)) = _
    by_cases h3 : pos < text.size
    · rw [if_neg (by omega), key h3]; rfl
    · rw [if_pos (by omega)]; rfl
  · obtain rfl : 10 = c := hc
    show (if pos ≥ text.size then _ else (match (Except.ok (text.getD pos 0 == 10, _) : Except String (Bool × Sre.Seen)) with | .error why => _ | .ok (false, seen) => _ | .ok (true, seen) => _)) = _
    by_cases h3 : pos < text.size
    · rw [if_neg (by omega), key h3]; rfl
    · rw [if_pos (by omega)]; rfl
  · obtain rfl : 10 = c := hc
    show (if pos ≥ text.size then _ else (match (Except.ok (text.getD pos 0 == 10, _) : Except String (Bool × Sre.Seen)) with | .error why => _ | .ok (false, seen) => _ | .ok (true, seen) => _)) = _
    by_cases h3 : pos < text.size
    · rw [if_neg (by omega), key h3]; rfl
    · rw [if_pos (by omega)]; rfl
  · obtain rfl : 13 = c := hc
    show (if pos ≥ text.size then _ else (match (Except.ok (text.getD pos 0 == 13, _) : Except String (Bool × Sre.Seen)) with | .error why => _ | .ok (false, seen) => _ | .ok (true, seen) => _)) = _
    by_cases h3 : pos < text.size
    · rw [if_neg (by omega), key h3]; rfl
    · rw [if_pos (by omega)]; rfl
  · obtain rfl : 10 = c := hc
    show (if pos ≥ text.size then _ else (match (Except.ok (text.getD pos 0 == 10, _) : Except String (Bool × Sre.Seen)) with | .error why => _ | .ok (false, seen) => _ | .ok (true, seen) => _)) = _
    by_cases h3 : pos < text.size
    · rw [if_neg (by omega), key h3]; rfl
    · rw [if_pos (by omega)]; rfl
theorem set46 : ∃ sn', inSet code2 46 code2.size 5 true sn = .ok (false, sn') := ⟨_, rfl⟩
theorem set10 : ∃ sn', inSet code2 10 code2.size 5 true sn = .ok (true, sn') := ⟨_, rfl⟩
theorem set13 : ∃ sn', inSet code2 13 code2.size 5 true sn = .ok (true, sn') := ⟨_, rfl⟩
/-- the machine's first frame -/
def f0 (s : Nat) (f : Bool) : Sre.Frame := { wait := .nextStart, pc := 10, pos := s, outermost := f }
def fB (alt s : Nat) (f : Bool) : Sre.Frame := { wait := .nextBranch, pc := alt, pos := s, outermost := f, kept := { lastmark := -1, lastindex := -1, whole := false, marks := #[] } }
theorem br2 : (st2 text s 10 s s 1 om [f0 s om] none sn).step = st2 text s 12 s s 2 om [fB 11 s om, f0 s om] none (sn.add 7) := by rfl
theorem alt2 {pc : Nat} {om' : Bool} : (st2 text s pc pos handed 2 om' [fB 11 s om, f0 s om] (some false) sn).step = st2 text s 19 s s 2 om [fB 18 s om, f0 s om] none sn := by rfl
theorem alt3 {pc : Nat} {om' : Bool} : (st2 text s pc pos handed 2 om' [fB 18 s om, f0 s om] (some false) sn).step = st2 text s 24 s s 2 om [fB 23 s om, f0 s om] none sn := by rfl
theorem jm1 : (st2 text s 16 pos handed weight om fr none sn).step = st2 text s 35 pos handed weight om fr none (sn.add 15) := by rfl
theorem jm2 : (st2 text s 21 pos handed weight om fr none sn).step = st2 text s 35 pos handed weight om fr none (sn.add 15) := by rfl
theorem jm3 : (st2 text s 32 pos handed weight om fr none sn).step = st2 text s 35 pos handed weight om fr none (sn.add 15) := by rfl
theorem fin2 {k : Nat} : (M.runFor 4 (st2 text s 35 pos handed 2 om [fB k s om, f0 s om] none sn)).outcome = some .matched ∧ (M.runFor 4 (st2 text s 35 pos handed 2 om [fB k s om, f0 s om] none sn)).start = s ∧ (M.runFor 4 (st2 text s 35 pos handed 2 om [fB k s om, f0 s om] none sn)).handed = pos := by
  cases om <;> exact ⟨rfl, rfl, rfl⟩
def fN (s : Nat) (om : Bool) : Sre.Frame := { wait := .lookNot, pc := 26, pos := s + 1, outermost := om, kept := { lastmark := -1, lastindex := -1, whole := false, marks := #[] } }
theorem asn2 : (st2 text s 26 (s + 1) handed 2 om fr none sn).step = st2 text s 29 (s + 1) (s + 1) 3 false (fN s om :: fr) none (sn.add 5) := by rfl
theorem asn3 {pc : Nat} {om' : Bool} : (st2 text s pc pos handed 3 om' (fN s om :: fr) (some false) sn).step = st2 text s 32 (s + 1) handed 2 om fr none sn := by rfl
theorem hitA (hs : s < text.size) (h1 : text.getD s 0 = 10) : (M.runFor 9 (st2 text s 10 s s 1 om [f0 s om] none sn)).outcome = some .matched ∧ (M.runFor 9 (st2 text s 10 s s 1 om [f0 s om] none sn)).start = s ∧ (M.runFor 9 (st2 text s 10 s s 1 om [f0 s om] none sn)).handed = s + 1 := by
  rw [runFor_step rfl, br2, runFor_step rfl, lit_no 12 13 (by decide) rfl (fun _ => by omega), runFor_step rfl, alt2, runFor_step rfl, lit_ok 19 10 (by decide) rfl hs h1, runFor_step rfl, jm2]
  exact fin2
theorem hitB (hs : s < text.size) (h1 : text.getD s 0 = 13) (hs2 : s + 1 < text.size) (h2 : text.getD (s + 1) 0 = 10) : (M.runFor 8 (st2 text s 10 s s 1 om [f0 s om] none sn)).outcome = some .matched ∧ (M.runFor 8 (st2 text s 10 s s 1 om [f0 s om] none sn)).start = s ∧ (M.runFor 8 (st2 text s 10 s s 1 om [f0 s om] none sn)).handed = s + 2 := by
  rw [runFor_step rfl, br2, runFor_step rfl, lit_ok 12 13 (by decide) rfl hs h1, runFor_step rfl, lit_ok 14 10 (by decide) rfl hs2 h2, runFor_step rfl, jm1]
  exact fin2
theorem hitC (hs : s < text.size) (h1 : text.getD s 0 = 13) (h2 : s + 1 < text.size → text.getD (s + 1) 0 ≠ 10) : (M.runFor 15 (st2 text s 10 s s 1 om [f0 s om] none sn)).outcome = some .matched ∧ (M.runFor 15 (st2 text s 10 s s 1 om [f0 s om] none sn)).start = s ∧ (M.runFor 15 (st2 text s 10 s s 1 om [f0 s om] none sn)).handed = s + 1 := by
  rw [runFor_step rfl, br2, runFor_step rfl, lit_ok 12 13 (by decide) rfl hs h1, runFor_step rfl, lit_no 14 10 (by decide) rfl h2, runFor_step rfl, alt2, runFor_step rfl, lit_no 19 10 (by decide) rfl (fun _ => by omega), runFor_step rfl, alt3,
    runFor_step rfl, lit_ok 24 13 (by decide) rfl hs h1, runFor_step rfl, asn2, runFor_step rfl, lit_no 29 10 (by decide) rfl h2, runFor_step rfl, asn3, runFor_step rfl, jm3]
  exact fin2
theorem adm (m : M) (hc : m.code = code2) (d : Nat) : ∀ (a fuel : Nat) (sn : Sre.Seen), d < fuel → (∀ i, a ≤ i → i < a + d → m.text.getD i 0 = 46) → a + d < m.lim → (m.text.getD (a + d) 0 = 10 ∨ m.text.getD (a + d) 0 = 13) →
    ∃ sn', m.admitted fuel a sn = .ok (some (a + d), sn') := by
  induction d with
  | zero =>
    intro a fuel sn hf h hl hc2
    obtain ⟨fuel, rfl⟩ : ∃ k, fuel = k + 1 := ⟨fuel - 1, by omega⟩
    unfold M.admitted
    rw [if_neg (by omega), hc]
    rw [Nat.add_zero] at hc2 ⊢
    rcases hc2 with e | e
    · obtain ⟨sn', e2⟩ := set10 (sn := sn); rw [e, e2]; exact ⟨sn', rfl⟩
    · obtain ⟨sn', e2⟩ := set13 (sn := sn); rw [e, e2]; exact ⟨sn', rfl⟩
  | succ d ih =>
    intro a fuel sn hf h hl hc2
    obtain ⟨fuel, rfl⟩ : ∃ k, fuel = k + 1 := ⟨fuel - 1, by omega⟩
    unfold M.admitted
    rw [if_neg (by omega), hc]
    obtain ⟨sn', e2⟩ := set46 (sn := sn)
    rw [h a (Nat.le_refl _) (by omega), e2]
    obtain ⟨sn'', e3⟩ := ih (a + 1) fuel sn' (by omega) (fun i h1 h2 => h i (by omega) (by omega)) (by omega) (by rw [show a + 1 + d = a + (d + 1) by omega]; exact hc2)
    refine ⟨sn'', ?_⟩
    rw [show a + (d + 1) = a + 1 + d by omega]; exact e3
theorem search2 (a d : Nat) (h : ∀ i, a ≤ i → i < a + d → text.getD i 0 = 46) (hl : a + d < text.size) (hc : text.getD (a + d) 0 = 10 ∨ text.getD (a + d) 0 = 13) :
    ∃ sn', Sre.forSearch code2 text 0 a text.size false = st2 text (a + d) 10 (a + d) (a + d) 1 true [f0 (a + d) true] none sn' := by
  obtain ⟨sn', e⟩ := adm (st2 text a 10 a a 0 true [] none (({} : Sre.Seen).add 14)) rfl d a (text.size + 1 - a) (({} : Sre.Seen).add 14) (by omega) h hl hc
  refine ⟨sn', ?_⟩
  unfold Sre.forSearch
  dsimp only
  rw [if_neg]
  · show (match M.admitted (st2 text a 10 a a 0 true [] none (({} : Sre.Seen).add 14)) (text.size + 1 - a) a (({} : Sre.Seen).add 14) with | .ok (some s, seen) => _ | .ok (none, seen) => _ | .error why => _) = _
    rw [e]
    rfl
  · show ¬ ((decide (a > text.size) || decide (text.size - a < 1)) = true)
    simp; omega
theorem search2_end {a : Nat} {must : Bool} (h : text.size ≤ a) : (M.runFor 1 (Sre.forSearch code2 text 0 a text.size must)).outcome = some .failed := by
  unfold Sre.forSearch
  dsimp only
  rw [if_pos]
  · rfl
  · show (decide (a > text.size) || decide (text.size - a < 1)) = true
    simp; omega
end
end Mine
end
-- Ry2
section
open PySem PySem.W PyProof.Rows PySem.Calls
set_option Elab.async false
set_option maxRecDepth 100000
namespace Mine
open PySem.Sre PySem.Builtin.Re
theorem rep_at (n j : Nat) (x : List Nat) (h : j < n) : (List.replicate n 46 ++ x).getD j 0 = 46 := by
  rw [List.getD_eq_getElem?_getD, List.getElem?_append_left (by simpa using h)]; simp [h]
theorem rep_to (n j : Nat) (x : List Nat) : (List.replicate n 46 ++ x).getD (n + j) 0 = x.getD j 0 := by
  rw [List.getD_eq_getElem?_getD, List.getElem?_append_right (by simp)]; simp
def isEnd (e : List Nat) : Prop := e = [10] ∨ e = [13] ∨ e = [13, 10]
theorem hitE {e : List Nat} (he : isEnd e) (p : List Nat) (n : Nat) (rest L : List Nat) (hL : L = p ++ (List.replicate n 46 ++ (e ++ rest))) (hr : rest = [] ∨ ∃ q, rest = 46 :: q) :
    ∃ N, N ≤ 15 ∧ (M.runFor N (Sre.forSearch code2 L.toArray 0 p.length L.toArray.size false)).outcome = some .matched ∧ (M.runFor N (Sre.forSearch code2 L.toArray 0 p.length L.toArray.size false)).start = p.length + n ∧
      (M.runFor N (Sre.forSearch code2 L.toArray 0 p.length L.toArray.size false)).handed = p.length + n + e.length := by
  have hat : ∀ j, L.toArray.getD (p.length + j) 0 = (List.replicate n 46 ++ (e ++ rest)).getD j 0 := by subst hL; exact get_at _ _
  have hlen : L.toArray.size = p.length + (n + (e.length + rest.length)) := by subst hL; simp
  have he1 : 1 ≤ e.length := by rcases he with rfl | rfl | rfl <;> decide
  have hdots : ∀ i, p.length ≤ i → i < p.length + n → L.toArray.getD i 0 = 46 := by
    intro i h1 h2
    obtain ⟨j, rfl⟩ : ∃ j, i = p.length + j := ⟨i - p.length, by omega⟩
    rw [hat, rep_at _ _ _ (by omega)]
  have hc0 : L.toArray.getD (p.length + n) 0 = (e ++ rest).getD 0 0 := by
    have := hat (n + 0); rw [rep_to] at this; exact this
  have hc1 : L.toArray.getD (p.length + n + 1) 0 = (e ++ rest).getD 1 0 := by
    have := hat (n + 1); rw [rep_to] at this; exact this
  obtain ⟨sn', hS⟩ := search2 (text := L.toArray) p.length n hdots (by omega) (by rw [hc0]; rcases he with rfl | rfl | rfl <;> simp)
  rw [hS]
  rcases he with rfl | rfl | rfl
  · exact ⟨9, by omega, hitA (by omega) hc0⟩
  · refine ⟨15, by omega, hitC (by omega) hc0 fun h => ?_⟩
    rw [hc1]
    rcases hr with rfl | ⟨q, rfl⟩
    · simp at hlen h; omega
    · simp
  · exact ⟨8, by omega, hitB (by omega) hc0 (by simp at hlen; simp; omega) hc1⟩
theorem tr2 {e : List Nat} (he : isEnd e) : ∀ (ns : List Nat) (p : List Nat) (L : List Nat), (∀ n ∈ ns, 1 ≤ n) → L = p ++ mail e ns →
    ∃ out, Tr code2 L [13, 10] false p.length out ∧ out.flatten = mail [13, 10] ns ∧ out.length = 2 * ns.length := by
  intro ns
  induction ns with
  | nil =>
    intro p L _ hL
    have hl : L.length = p.length := by subst hL; simp [mail]
    have := Tr.fin (rep := [13, 10]) (code := code2) (l := L) (must := false) (a := p.length) (n := 1) (by omega) (search2_end (by simp; omega))
    rw [if_neg (by omega)] at this
    exact ⟨_, this, rfl, rfl⟩
  | cons n ns ih =>
    intro p L hns hL
    have hM : mail e (n :: ns) = List.replicate n 46 ++ (e ++ mail e ns) := by simp [mail]
    have hr : mail e ns = [] ∨ ∃ q, mail e ns = 46 :: q := by
      cases ns with
      | nil => exact .inl rfl
      | cons k ns =>
        obtain ⟨k, rfl⟩ : ∃ j, k = j + 1 := ⟨k - 1, by have := hns k (by simp); omega⟩
        exact .inr ⟨List.replicate k 46 ++ (e ++ mail e ns), by simp [mail, List.replicate_succ]⟩
    obtain ⟨N, hN, g1, g2, g3⟩ := hitE he p n (mail e ns) L (by rw [hL, hM]) hr
    have hpl : (p ++ (List.replicate n 46 ++ e)).length = p.length + n + e.length := by simp; omega
    obtain ⟨out, hT, hf, ho⟩ := ih (p ++ (List.replicate n 46 ++ e)) L (fun x hx => hns x (by simp [hx])) (by rw [hL, hM]; simp)
    rw [hpl] at hT
    have he1 : 1 ≤ e.length := by rcases he with rfl | rfl | rfl <;> decide
    have h1 : 1 ≤ n := hns n (by simp)
    refine ⟨_, .hit (by omega) g1 g2 g3 (by rw [show (p.length + n + e.length == p.length + n) = false from beq_eq_false_iff_ne.mpr (by omega)]; exact hT), ?_, ?_⟩
    · have hd : (L.drop p.length).take (p.length + n - p.length) = List.replicate n 46 := by
        rw [hL, hM, List.drop_left' rfl, List.take_left' (by simp)]
      rw [if_pos (by omega), hd]
      simp [hf, mail]
    · rw [if_pos (by omega)]; simp [ho]; omega
section
variable {w : World} {mg mb : Str → Option Value} {h₀ : Heap} {A : Around} {E : Value → Shared → Prop} {s : Shared} {Q : Value → Shared → Prop} {r : List (Addr × Itm)}
theorem fix_ct (G : Gr w mg mb h₀) (D : Led h₀ s.heap r) (hA : A.depth < recursionLimit) {e : List Nat} (he : isEnd e) {ns : List Nat} {t : Tok} (hns : ∀ k ∈ ns, 1 ≤ k) (hz : (mail [13, 10] ns).length ≤ 100000) (hn : 1 ≤ ns.length)
    (h : ∀ hh tk tt, Led h₀ hh r → Q (rv 0 (mail [13, 10] ns) tk) { s with heap := hh, toks := tt }) :
    wpAny (model prog w) A (call (.ref 55) [rv 0 (mail e ns) t]) Q E s := by
  refine call_fn (binds := [(Str.ofString "data", rv 0 (mail e ns) t)]) (D.keep _ _ (G.X 55 _ rfl)) rfl rfl (Heap.CodeRec.keeps ⟨_, _, _, _, rfl, G.X 54 _ rfl, rfl, rfl⟩ D.keep) (G.lim.keeps D.keep) rfl (locs rfl) (by decide) hA ?_
  intro h₁ tk F
  have D1 := Fr.led D F
  generalize hE : callEnv _ _ _ = env
  have q0 : env.scope.kind = .function := by rw [← hE]; rfl
  have q1 : env.kindOf (Str.ofString "data") = some .local := by rw [← hE]; rfl
  have q2 : env.kindOf (Str.ofString "_twin_re_2") = some .globalImplicit := by rw [← hE]; rfl
  have q3 : env.kindOf (Str.ofString "CRLF") = some .globalImplicit := by rw [← hE]; rfl
  have e1 : env.globals = mainGlobals := by rw [← hE]; rfl
  have e2 : env.locals = s.heap.objs.size := by rw [← hE]; rfl
  rw [← e2] at D1
  refine wpAny_execs_cons (wpAny_Return_some (MethodCall_ (nmG G D1 q0 q2 e1 (v := .ref 41) (by kernel_rfl) ?_)))
  refine getMethod_builtin ⟨_, D1.keep _ _ (G.X 41 _ rfl), rfl⟩ plainAttrs_pat slot_sub type_sub (fun a e => by cases e; exact ⟨_, D1.keep _ _ (G.X 41 _ rfl), rfl⟩) ?_
  obtain ⟨tc, hcr⟩ : ∃ tc, nsIn (Mine.hd.heap_39 w.params) mainGlobals (Str.ofString "CRLF") = some (some (rv 0 [13, 10] tc)) := ⟨_, rfl⟩
  refine callB2 (nmG G D1 q0 q3 e1 hcr (nmL q0 q1 (D1.ns 0 rfl) rfl ?_))
  obtain ⟨out, hT, hf, ho⟩ := tr2 he ns [] (mail e ns) hns rfl
  have hln : ns.length ≤ 100000 / 2 := by
    rw [mail_len] at hz
    simp only [List.length_cons, List.length_nil] at hz
    omega
  have hz0 : (mail e ns).length ≤ 100000 := by
    rw [mail_len] at hz ⊢
    rcases he with rfl | rfl | rfl <;> simp only [List.length_cons, List.length_nil] at hz ⊢ <;> omega
  rw [← hf] at h hz
  exact sub_ct (k := 0) (rep := [13, 10]) (l := mail e ns) (.inl rfl) ⟨_, D1.keep _ _ (G.X 41 _ rfl), rfl⟩ (target2 G) join0 hz0 (by decide +kernel) hT D1 (by omega) hz (by omega) fun hh tk tt D => h _ _ _ D.drop
end
end Mine
end
-- En1
section
open PySem PySem.W PyProof.Rows PySem.Calls
set_option Elab.async false
set_option maxRecDepth 100000
namespace Mine
open PySem.Builtin PySem.Builtin._codecs
theorem fold_byt (l : List Nat) : ∀ out : Array UInt8, Array.foldl (fun acc y => acc ++ (asciiCodec.bytesOf y).toArray) out l.toArray = out ++ byt l := by
  intro out
  rw [List.foldl_toArray]
  induction l generalizing out with
  | nil => simp [byt]
  | cons x l ih =>
    rw [List.foldl_cons, ih]
    apply Array.ext'
    simp [byt, asciiCodec]
section
variable {w : World} {h₀ : Heap} {A : Around} {E : Value → Shared → Prop} {s : Shared} {r : List (Addr × Itm)}
theorem narrow_wp {id : String} {self : Value} {l : List Nat} {Q : Array UInt8 → Shared → Prop} (hl : ∀ x ∈ l, x < 128) (hz : l.length ≤ 100000) (h : Q (byt l) s) :
    wpAny (model prog w) A (encodeNarrow id asciiCodec none self ⟨l.toArray⟩) Q E s := by
  unfold encodeNarrow
  dsimp only
  rw [Std.Legacy.Range.forIn_eq_forIn_range']
  refine wpAny_bind (wpAny_mono (wpAny_forIn_list _ (fun rest b s' => s' = s ∧ ((b.1 = 0 ∧ b.2.1 = #[] ∧ rest.length = l.length) ∨ (b.1 = l.length ∧ b.2.1 = byt l))) (fun b s' => s' = s ∧ b.2.1 = byt l) ?_ ?_ _ _ ⟨rfl, .inl ⟨rfl, rfl, by simp [Str.length, Std.Legacy.Range.size]⟩⟩) (fun b s' q => ?_) fun _ _ x => x)
  rotate_left 2
  · obtain ⟨hs, e⟩ := q
    rw [hs, e]; exact wpAny_pure h
  · rintro x rest ⟨i, out, st⟩ s' ⟨hs, hI⟩
    rw [hs]
    clear hs
    dsimp only at hI ⊢
    have hb : (100000 : Nat) ≤ sizeLine := by decide
    rcases hI with ⟨rfl, rfl, hr⟩ | ⟨rfl, rfl⟩
    · rw [if_neg (by simp)]
      cases l with
      | nil => simp at hr
      | cons a l =>
        rw [show (a :: l).toArray[0]? = some a from by simp]
        dsimp only
        rw [if_pos (by have := hl a (by simp); simp [asciiCodec]; omega)]
        refine wpAny_pure ⟨rfl, .inr ?_⟩
        have e1 : (a :: l).toArray.extract 0 (a :: l).toArray.size = (a :: l).toArray := by simp
        have e2 : Array.findIdx? asciiCodec.bad (a :: l).toArray = none := by
          rw [Array.findIdx?_eq_none_iff]
          intro x hx
          have := hl x (by simpa using hx)
          simp [asciiCodec]; omega
        rw [e1, e2, Option.getD_none, e1]
        refine ⟨by simp, ?_⟩
        rw [fold_byt]; simp
    · rw [if_neg (by simp [byt]; omega)]
      rw [show l.toArray[l.length]? = none from by simp]
      dsimp only
      exact wpAny_pure ⟨rfl, rfl⟩
  · rintro ⟨i, out, st⟩ s' ⟨hs, hI⟩
    dsimp only at hI ⊢
    refine ⟨hs, ?_⟩
    rcases hI with ⟨rfl, rfl, hr⟩ | ⟨rfl, rfl⟩
    · have : l = [] := List.eq_nil_of_length_eq_zero (by simpa using hr.symm)
      subst this; rfl
    · rfl
theorem enc_ct {l : List Nat} {t t1 : Tok} {Q : Value → Shared → Prop} (hl : ∀ x ∈ l, x < 128) (hz : l.length ≤ 100000) (h : ∀ tk tt, Q (rv 1 l tk) { s with toks := tt }) :
    wpAny (model prog w) A (call (.builtin "str.encode") [rv 0 l t, .str (Str.ofString "ascii") t1]) Q E s := by
  refine wpAny_call_entry PySem.F.slot_str_encode (typeIs_str _ _ _) PySem.F.entry_str_encode ?_ (PySem.F.args_str_encode_2 _ _)
  unfold Builtin.«str.encode»
  refine wpAny_bind (wpAny_of_eq (a := (.str ⟨l.toArray⟩ t, ⟨l.toArray⟩, [.str (Str.ofString "ascii") t1])) rfl ?_)
  dsimp only
  refine wpAny_bind (wpAny_of_eq (a := [some (.str (Str.ofString "ascii") t1), none]) (by kernel_rfl) ?_)
  dsimp only
  refine wpAny_bind (wpAny_of_eq (a := some (Str.ofString "ascii")) (by kernel_rfl) ?_)
  refine wpAny_bind (wpAny_of_eq (a := none) (by kernel_rfl) ?_)
  refine wpAny_bind ?_
  have e : encodeRoad "str.encode" (.str ⟨l.toArray⟩ t) ⟨l.toArray⟩ ((some (Str.ofString "ascii")).getD (Str.ofString "utf-8")) none = (do mkBytes (← encodeNarrow "str.encode" asciiCodec none (.str ⟨l.toArray⟩ t) ⟨l.toArray⟩)) := by kernel_rfl
  rw [e]
  refine wpAny_bind (narrow_wp hl hz ?_)
  refine wpAny_mkBytes ?_ (Nat.le_trans (by simpa [byt] using hz) (by decide : (100000 : Nat) ≤ sizeLine))
  exact wpAny_pure ⟨_, rfl, h _ _⟩
end
end Mine
end
-- En2
section
open PySem PySem.W PyProof.Rows PySem.Calls
set_option Elab.async false
set_option maxRecDepth 100000
namespace Mine
open PySem.Builtin PySem.Builtin._codecs
theorem byt_get {l : List Nat} (hl : ∀ x ∈ l, x < 128) {p : Nat} (hp : p < l.length) : ((byt l).getD p 0).toNat = l[p] := by
  have hx := hl l[p] (List.getElem_mem hp)
  simp [byt, Array.getD_eq_getD_getElem?, hp, Nat.toUInt8]
  omega
section
variable {w : World} {h₀ : Heap} {A : Around} {E : Value → Shared → Prop} {s : Shared} {r : List (Addr × Itm)}
theorem run_dec {id : String} {l : List Nat} {Q : Array Nat × Nat → Shared → Prop} (hl : ∀ x ∈ l, x < 128) (hz : l.length ≤ 100000) (h : Q (l.toArray, l.length) s) :
    wpAny (model prog w) A (runDecoder id asciiDecoder none true (byt l) 0 []) Q E s := by
  unfold runDecoder
  dsimp only
  rw [Std.Legacy.Range.forIn_eq_forIn_range']
  have hsz : (byt l).size = l.length := by simp [byt]
  refine wpAny_bind (wpAny_mono (wpAny_forIn_list _ (fun rest b s' => s' = s ∧ b.1 + rest.length = l.length ∧ b.2.1 = (l.take b.1).toArray) (fun b s' => s' = s ∧ b.1 = l.length ∧ b.2.1 = l.toArray) ?_ ?_ _ _ ⟨rfl, by simp [Std.Legacy.Range.size, hsz], by simp⟩) (fun b s' q => ?_) fun _ _ x => x)
  rotate_left 2
  · obtain ⟨hs, e, e2⟩ := q
    rw [hs, e, e2]; exact wpAny_pure h
  · rintro x rest ⟨p, out, st⟩ s' ⟨hs, hI, ho⟩
    rw [hs]
    clear hs
    dsimp only at hI ho ⊢
    have hb : (100000 : Nat) ≤ sizeLine := by decide
    have hp : p < l.length := by simp at hI; omega
    rw [if_neg (by rw [ho]; simp; omega), if_neg (by omega)]
    have hf : asciiDecoder.find true (byt l) p = .char l[p] (p + 1) := by
      show (if ((byt l).getD p 0).toNat < 128 then _ else _) = _
      rw [byt_get hl hp, if_pos (hl _ (List.getElem_mem hp))]
    rw [hf]
    refine wpAny_pure ⟨rfl, by simp at hI ⊢; omega, ?_⟩
    show out ++ [l[p]].toArray = (l.take (p + 1)).toArray
    rw [ho, List.append_toArray, List.take_append_getElem hp]
  · rintro ⟨p, out, st⟩ s' ⟨hs, hI, ho⟩
    dsimp only at hI ho ⊢
    obtain rfl : p = l.length := by simpa using hI
    exact ⟨hs, rfl, by rw [ho, List.take_length]⟩
theorem dec_ct {l : List Nat} {t t1 : Tok} {Q : Value → Shared → Prop} (hl : ∀ x ∈ l, x < 128) (hz : l.length ≤ 100000) (hn : l ≠ []) (h : ∀ tk tt, Q (rv 0 l tk) { s with toks := tt }) :
    wpAny (model prog w) A (call (.builtin "bytes.decode") [rv 1 l t, .str (Str.ofString "ascii") t1]) Q E s := by
  obtain ⟨c, cs, rfl⟩ : ∃ c cs, l = c :: cs := by cases l with | nil => exact absurd rfl hn | cons c cs => exact ⟨c, cs, rfl⟩
  refine wpAny_call_entry FB.slot_bytes_decode (typeIs_bytes _ _ _) FB.entry_bytes_decode ?_ (by unfold argsOk; kernel_rfl)
  have e : Builtin.«bytes.decode» ⟨[.bytes (byt (c :: cs)) t, .str (Str.ofString "ascii") t1], []⟩ = (mkStr (PySem.Str.ofString "utf-8") >>= fun _ => mkStr (Str.ofString "ascii") >>= fun e => mkStr (PySem.Str.ofString "bytes.decode") >>= fun d =>
    call (.builtin "_codecs.decode.text") [.bytes (byt (c :: cs)) t, e, .none, d] >>= fun v => ret v) := by kernel_rfl
  show wpAny _ _ (Builtin.«bytes.decode» ⟨[.bytes (byt (c :: cs)) t, .str (Str.ofString "ascii") t1], []⟩) _ _ _
  rw [e]
  refine wpAny_bind (wpAny_mkStr ?_ (by decide))
  refine wpAny_bind (wpAny_mkStr ?_ (by decide))
  refine wpAny_bind (wpAny_mkStr ?_ (by decide))
  refine wpAny_bind (Calls.call_function_entry KBd.kind_text KBd.plain_text KBd.entry_text (KBd.args_text _ _ _ _) ?_)
  show wpAny _ _ (Bytes.bytesLike _ (.bytes (byt (c :: cs)) t) >>= fun r => _) _ _ _
  refine wpAny_bind (wpAny_of_eq KBd.like_eq ?_)
  refine wpAny_bind (wpAny_of_eq KBd.held_eq ?_)
  have e2 : ∀ id, decodeRoad id (byt (c :: cs)) (Str.ofString "ascii") none [] = (runDecoder id asciiDecoder none true (byt (c :: cs)) 0 [] >>= fun r => mkStr ⟨r.1⟩) := by intro id; kernel_rfl
  refine wpAny_bind ?_
  show wpAny _ _ (decodeRoad _ (byt (c :: cs)) (Str.ofString "ascii") none []) _ _ _
  rw [e2]
  refine wpAny_bind (run_dec hl hz ?_)
  refine wpAny_mkStr ?_ (Nat.le_trans (by simpa [Str.length] using hz) (by decide : (100000 : Nat) ≤ sizeLine))
  exact wpAny_pure ⟨_, rfl, wpAny_pure ⟨_, rfl, h _ _⟩⟩
end
end Mine
end
-- Cm1
section
open PySem PySem.W PyProof.Rows PySem.Calls
set_option Elab.async false
set_option maxRecDepth 100000
namespace Mine
theorem Led.but {h₀ h h' : Heap} {C : Addr} {P : Itm} {l : List (Addr × Itm)} (D : Led h₀ h ((C, P) :: l)) (hs : Heap.SameBut C h h') : Led h₀ h' l := by
  have hn := (D.mem _ (List.mem_cons_self ..)).2
  have nd := D.nd
  rw [List.map_cons, List.nodup_cons] at nd
  refine ⟨fun b o e => hs.extBut b o (fun q => by subst q; rw [hn] at e; cases e) (D.keep b o e), fun q hq => ?_, nd.2⟩
  obtain ⟨⟨o, e, p⟩, hq2⟩ := D.mem q (List.mem_cons_of_mem _ hq)
  exact ⟨⟨o, hs.extBut _ _ (fun q' => nd.1 (List.mem_map.mpr ⟨q, hq, q'⟩)) e, p⟩, hq2⟩
/-- the cells that a comprehension lays: none or one -/
def ccF (cc : Option Str) (n : Nat) (acc : List (Str × Addr)) : List (Str × Addr) := match cc with | none => acc | some x => (x, n) :: acc
def ccP (cc : Option Str) (h : Heap) : Heap := match cc with | none => h | some _ => h.push { cls := .type "cell", data := .cell none }
def ccE (cc : Option Str) (C : Addr) (v : Option Value) : List (Addr × Itm) := match cc with | none => [] | some _ => [(C + 1, cellI v)]
/-- what a comprehension holds amid its turns -/
def cmE (cc : Option Str) (C : Addr) (m : Str → Option Value) (v : Option Value) (D : Addr) (ys : List Value) (r : List (Addr × Itm)) : List (Addr × Itm) :=
  (C, nsI m) :: (D, lstI ys) :: (ccE cc C v ++ r)
section
variable {w : World} {h₀ : Heap} {A : Around} {E : Value → Shared → Prop} {s : Shared} {env : Env}
theorem newFn_comp {M : Model} {scope : Scope} {cl : List (Str × Addr)} {cc : Option Str} {r : List (Addr × Itm)} {Q : Env → Shared → Prop}
    (hcf : ∀ n acc, cellsFrom n scope.names acc = ccF cc n acc) (hpc : ∀ h, pushCells h scope.names = ccP cc h) (D : Led h₀ s.heap r)
    (h : ∀ h' C, Led h₀ h' ((C, nsI fun _ => none) :: (ccE cc C none ++ r)) → (∀ b o, s.heap.get? b = some o → h'.get? b = some o) → Q (newEnv scope C env.globals (ccF cc (C + 1) cl) env.qual none .none (some env) builtinsNs) { s with heap := h' }) :
    wpAny M A (newFunctionEnv scope env.globals cl [] env.qual none .none (some env)) Q E s := by
  simp only [newFunctionEnv, Option.isSome_some, if_true]
  refine wpAny_bind (wpAny_alloc ?_)
  refine wpAny_bind (wpAny_layCells _ (fun name kind cells => by cases hkc : kind == NameKind.cell <;> simp) _ _ _ _ ?_)
  rw [show ({ s with heap := s.heap.push { cls := .type "dict", data := .dict #[] } } : Shared).heap.objs.size = s.heap.objs.size + 1 from Heap.size_push .., hcf, hpc]
  refine wpAny_bind (wpAny_pure (wpAny_pure ?_))
  have D1 : Led h₀ _ ((s.heap.objs.size, nsI fun _ => none) :: r) := D.push (o := { cls := .type "dict", data := .dict #[] }) rfl ⟨#[], _, rfl, by intro e he; simp at he, fun x => rfl⟩
  cases cc with
  | none => exact h _ _ D1 fun b o e => Heap.get?_push_of_some _ e
  | some x =>
    have D2 := D1.push (o := { cls := .type "cell", data := .cell none }) (P := cellI none) rfl rfl
    rw [Heap.size_push] at D2
    exact h _ _ (D2.perm (List.Perm.swap ..)) fun b o e => Heap.get?_push_of_some _ (Heap.get?_push_of_some _ e)
theorem codeAny_compLoop_any {elt target iter : Expr} {scope : Scope} {pos : Pos} {it acc : Value} {env : Env} {R : Result → Shared → Prop} (I : Nat → Shared → Prop)
    (turn : ∀ n s, I n s → wpAny (model prog w) A (pyNext it) (fun r s₁ => match r with
      | none => R (.ok .next) s₁
      | some v => wpAny (model prog w) A (letOwnedTupleGo target it v) (fun _ s₁' => wpAny (model prog w) A (assign target env v) (fun _ s₂ =>
          wpAny (model prog w) A (eval elt env) (fun x s₄ =>
              wpAny (model prog w) A (call (.builtin "list.append") [acc, x]) (fun _ s₅ => ∃ m, m < n ∧ I m s₅) (notedBy (model prog w) A env fun e s' => R (.error e) s') s₄) (notedBy (model prog w) A env fun e s' => R (.error e) s') s₂)
          (notedBy (model prog w) A env fun e s' => R (.error e) s') s₁') (notedBy (model prog w) A env fun e s' => R (.error e) s') s₁) (notedBy (model prog w) A env fun e s' => R (.error e) s') s)
    (n : Nat) (h : I n s) : codeAny (model prog w) A (.compLoop (.ListComp elt [⟨target, iter, [], 0⟩] scope pos) 0 it acc env) R s := by
  refine codeAny_loop rfl I (fun n s hI => ?_) n h
  show wpAny _ A ((compTurn (.ListComp elt [⟨target, iter, [], 0⟩] scope pos) 0 it acc env).onRaise (fun x => do noteFrame x env; theTreesLotGoes x)) _ _ s
  refine wpAny_noted ?_
  rw [compTurn_list]
  refine wpAny_bind (wpAny_standAt (wpAny_bind (wpAny_mono (turn n s hI) (fun r s₁ h₁ => ?_) fun _ _ h' => h')))
  cases r with
  | none => exact wpAny_pure h₁
  | some v =>
    refine wpAny_bind (wpAny_mono h₁ (fun _ s₁' h₁' => ?_) fun _ _ h' => h')
    refine wpAny_bind (wpAny_mono h₁' (fun _ s₂ h₂ => wpAny_bind (wpAny_mono (wpAny_tests_nil (Q := fun ok s₃ => ok = true ∧ s₃ = s₂) ⟨rfl, rfl⟩) (fun ok s₃ h₃ => ?_) fun _ _ h' => h')) fun _ _ h' => h')
    obtain ⟨rfl, rfl⟩ := h₃
    exact wpAny_bind (wpAny_bind (wpAny_mono h₂ (fun x s₄ h₄ => wpAny_bind (wpAny_mono h₄ (fun _ s₅ h₅ => wpAny_pure (wpAny_pure ⟨rfl, h₅⟩)) fun _ _ h' => h')) fun _ _ h' => h'))
/-- all that a comprehension over the iterator it needs, when it stands at the first next -/
structure CompAt (w : World) (h₀ : Heap) (A : Around) (env : Env) (scope : Scope) (cl : List (Str × Addr)) (cc : Option Str) (target elt : Expr) (it : Value) (s : Shared) (n : Nat) (r₀ : List (Addr × Itm))
    (J : Nat → List Value → List (Addr × Itm) → Prop) (Fin : List Value → List (Addr × Itm) → Prop) : Prop where
  led : Led h₀ s.heap r₀
  init : J n [] r₀
  self : ∀ (s' : Shared) (Q : Value → Shared → Prop) (E : Value → Shared → Prop), (∀ b o, s.heap.get? b = some o → s'.heap.get? b = some o) → Q it s' → wpAny (model prog w) A (pyIter it) Q E s'
  turn : ∀ C D k ys r h tk m v E', J k ys r → Led h₀ h (cmE cc C m v D ys r) →
    wpAny (model prog w) A (pyNext it) (fun res s₁ => match res with
      | none => ∃ h' tk' m' v' r', s₁ = { s with heap := h', toks := tk' } ∧ Led h₀ h' (cmE cc C m' v' D ys r') ∧ Fin ys r'
      | some x => wpAny (model prog w) A (letOwnedTupleGo target it x) (fun _ s₁ => wpAny (model prog w) A (assign target (compEnvC scope (ccF cc (C + 1) cl) C env) x) (fun _ s₂ =>
          wpAny (model prog w) A (eval elt (compEnvC scope (ccF cc (C + 1) cl) C env)) (fun y s₃ => ∃ k' h' tk' m' v' r', k' < k ∧ s₃ = { s with heap := h', toks := tk' } ∧ J k' (ys ++ [y]) r' ∧ ys.length ≤ 1000 ∧
            Led h₀ h' (cmE cc C m' v' D ys r')) E' s₂) E' s₁) E' s₁) E' { s with heap := h, toks := tk }
theorem comp_block {elt target iter : Expr} {scope : Scope} {pos : Pos} {it : Value} {cl : List (Str × Addr)} {cc : Option Str} {n : Nat} {r₀ : List (Addr × Itm)} {J : Nat → List Value → List (Addr × Itm) → Prop}
    {Fin : List Value → List (Addr × Itm) → Prop} {RR : Value → Addr → Result → Shared → Prop}
    (hcf : ∀ n acc, cellsFrom n scope.names acc = ccF cc n acc) (hpc : ∀ h, pushCells h scope.names = ccP cc h)
    (X : CompAt w h₀ A env scope cl cc target elt it s n r₀ J Fin)
    (hRR : ∀ D C h tk m v ys r, Led h₀ h (cmE cc C m v D ys r) → Fin ys r → RR (.ref D) C (.ok .next) { s with heap := h, toks := tk }) :
    wpAny (model prog w) A (newList []) (fun acc s₃ => wpAny (model prog w) A (newFunctionEnv scope env.globals cl [] env.qual none .none (some env)) (fun cenv s₄ =>
      codeAny (model prog w) A (.compStart (.ListComp elt [⟨target, iter, [], 0⟩] scope pos) 0 it acc { cenv with scope := relabel scope env }) (RR acc cenv.locals) s₄) E s₃) E s := by
  refine wpAny_newObj_type (newFn_comp hcf hpc (X.led.push (P := lstI []) rfl ⟨_, rfl⟩) fun h' C D1 hk => ?_)
  have hk' : ∀ b o, s.heap.get? b = some o → h'.get? b = some o := fun b o e => hk b o (Heap.get?_push_of_some _ e)
  have D2 : Led h₀ h' (cmE cc C (fun _ => none) none s.heap.objs.size [] r₀) := D1.perm (.cons _ List.perm_middle)
  have loop : codeAny (model prog w) A (.compLoop (.ListComp elt [⟨target, iter, [], 0⟩] scope pos) 0 it (.ref s.heap.objs.size) (compEnvC scope (ccF cc (C + 1) cl) C env)) (RR (.ref s.heap.objs.size) C)
      { s with heap := h' } := by
    refine codeAny_compLoop_any (fun k s' => ∃ h tk m v ys r, s' = { s with heap := h, toks := tk } ∧ J k ys r ∧ Led h₀ h (cmE cc C m v s.heap.objs.size ys r)) ?_ n ⟨h', _, _, _, [], r₀, rfl, X.init, D2⟩
    rintro k s' ⟨h, tk, m, v, ys, r, rfl, hJ, D⟩
    refine wpAny_mono (X.turn C s.heap.objs.size k ys r h tk m v _ hJ D) (fun res s₁ q => ?_) fun _ _ e => e
    cases res with
    | none =>
      obtain ⟨h1, tk1, m1, v1, r1, rfl, D1, hF⟩ := q
      exact hRR _ _ _ _ _ _ _ _ D1 hF
    | some x =>
      refine wpAny_mono q (fun _ s₁ q => wpAny_mono q (fun _ s₂ q => wpAny_mono q (fun y s₃ q => ?_) fun _ _ e => e) fun _ _ e => e) fun _ _ e => e
      obtain ⟨k', h3, tk3, m3, v3, r3, hlt, rfl, hJ3, hz, D3⟩ := q
      obtain ⟨nn, hl⟩ := (D3.get 1 rfl).lst
      refine wpAny_list_append_plain (hsz := by rw [List.size_toArray, sizeLine_eq]; omega) ⟨nn, hl⟩ fun h5 hl5 hs5 => ?_
      obtain ⟨n5, hl5⟩ := hl5
      exact ⟨k', hlt, h5, _, _, _, _, _, rfl, hJ3, D3.same 1 rfl hs5 (At.of_lst (n := n5) (by rw [show (ys ++ [y]).toArray = ys.toArray.push y by simp]; exact hl5))⟩
  exact codeAny_compStart_list loop (X.self _ _ _ hk' loop)
theorem comp_eval {elt target iter : Expr} {scope : Scope} {pos : Pos} {Q : Value → Shared → Prop} (cl : List (Str × Addr)) (cc : Option Str) (hclos : closureFor scope env = pure cl)
    (hcf : ∀ n acc, cellsFrom n scope.names acc = ccF cc n acc) (hpc : ∀ h, pushCells h scope.names = ccP cc h) (hkind : scope.kind = .function)
    (hnames : ∀ x ∈ scope.names, x.2 = .local → scope.names.lookup x.1 = some .local)
    (h : wpAny (model prog w) A (eval iter env) (fun xv s₁ => wpAny (model prog w) A (pyIter xv) (fun it s₂ => ∃ n r₀ J Fin, CompAt w h₀ A env scope cl cc target elt it s₂ n r₀ J Fin ∧
      (∀ D h tk ys r, Led h₀ h ((D, lstI ys) :: r) → Fin ys r → Q (.ref D) { s₂ with heap := h, toks := tk })) E s₁) E s)
    (hs : ∀ x, foldedSetIterable iter env x = pure x := by intro _; rfl) :
    wpAny (model prog w) A (eval (.ListComp elt [⟨target, iter, [], 0⟩] scope pos) env) Q E s := by
  rw [eval_ListComp]
  refine wpAny_comprehension_free (use := none) rfl hs hclos hkind hnames (wpAny_mono h (fun xv s₁ h₁ => wpAny_mono h₁ (fun it s₂ h₂ => ?_) fun _ _ e => e) fun _ _ e => e)
  obtain ⟨n, r₀, J, Fin, X, hQ⟩ := h₂
  refine comp_block (RR := fun acc C => compPost (model prog w) A E none Q acc C) hcf hpc X fun D C h' tk m v ys r DD hF => ?_
  refine ⟨m, DD.ns 0 rfl, fun h'' hs'' => hQ D h'' tk ys r ?_ hF⟩
  refine (DD.but hs'').sub (.cons₂ _ ?_)
  exact List.sublist_append_right ..
theorem comp_assign {elt target iter : Expr} {y : Str} {py : Pos} {scope : Scope} {pos spos : Pos} {Q : Flow → Shared → Prop} (cl : List (Str × Addr)) (cc : Option Str)
    (hsw : swapsWith (.ListComp elt [⟨target, iter, [], 0⟩] scope pos) (some (.Name y py)) spos.line env = pure true) (hclos : closureFor scope env = pure cl)
    (hcf : ∀ n acc, cellsFrom n scope.names acc = ccF cc n acc) (hpc : ∀ h, pushCells h scope.names = ccP cc h) (hkind : scope.kind = .function)
    (hnames : ∀ x ∈ scope.names, x.2 = .local → scope.names.lookup x.1 = some .local)
    (hy : env.kindOf y = some .local) (hp : (env.scope.kind == .class || (env.scope.kind == .module && env.locals != env.globals)) = false)
    (h : wpAny (model prog w) A (eval iter env) (fun xv s₁ => wpAny (model prog w) A (pyIter xv) (fun it s₂ => ∃ n r₀ J Fin, CompAt w h₀ A env scope cl cc target elt it s₂ n r₀ J Fin ∧
      (∀ ys r, Fin ys r → ∃ m i, r[i]? = some (env.locals, nsI m) ∧
        ∀ D h tk, Led h₀ h ((D, lstI ys) :: r.set i (env.locals, nsI fun z => if z = y then some (.ref D) else m z)) → Q .next { s₂ with heap := h, toks := tk })) E s₁) E s)
    (hs : ∀ x, foldedSetIterable iter env x = pure x := by intro _; rfl) :
    wpAny (model prog w) A (exec (.Assign [.Name y py] (.ListComp elt [⟨target, iter, [], 0⟩] scope pos) spos) env) Q E s := by
  rw [exec_Assign_Name_used _ _ _ _ hsw]
  refine wpAny_bind (wpAny_standAt (wpAny_bind ?_))
  show wpAny _ A (do let _ ← comprehension (.ListComp elt [⟨target, iter, [], 0⟩] scope pos) scope env _ (newList []) false (eval iter env) (some (assign (.Name y py) env))) _ _ s
  refine wpAny_bind (wpAny_mono (wpAny_comprehension_free (use := some (assign (.Name y py) env)) (Q := fun _ s' => Q .next s') rfl hs hclos hkind hnames
    (wpAny_mono h (fun xv s₁ h₁ => wpAny_mono h₁ (fun it s₂ h₂ => ?_) fun _ _ e => e) fun _ _ e => e)) (fun _ s' hq => wpAny_pure (wpAny_pure hq)) fun _ _ e => e)
  obtain ⟨n, r₀, J, Fin, X, hQ⟩ := h₂
  refine comp_block (RR := fun acc C => compPost (model prog w) A E (some (assign (.Name y py) env)) (fun _ s' => Q .next s') acc C) hcf hpc X fun D C h' tk m v ys r DD hF => ?_
  obtain ⟨mm, i, hi, hQ⟩ := hQ ys r hF
  have D2 := DD.perm (.cons _ (.cons _ (List.perm_append_comm)))
  have hi2 : ((C, nsI m) :: (D, lstI ys) :: (r ++ ccE cc C v))[i + 2]? = some (env.locals, nsI mm) := by
    rw [List.getElem?_cons_succ, List.getElem?_cons_succ, List.getElem?_append_left (List.getElem?_eq_some_iff.mp hi).1]; exact hi
  show wpAny _ A (assign (.Name y py) env (.ref D)) _ _ _
  refine wpAny_assign_Name (wpAny_storeName_local hy (D2.ns (i + 2) hi2) (fun h₂ hn₂ hs₂ => ?_) hp)
  have D3 := D2.same (i + 2) hi2 hs₂ (At.of_ns hn₂)
  rw [List.set_cons_succ, List.set_cons_succ, List.set_append_left _ _ (List.getElem?_eq_some_iff.mp hi).1] at D3
  refine ⟨m, D3.ns 0 rfl, fun h₃ hs₃ => hQ D h₃ _ ?_⟩
  exact (D3.but hs₃).sub (.cons₂ _ (List.sublist_append_left ..))
end
end Mine
end
-- Cm2
section
open PySem PySem.W PyProof.Rows PySem.Calls
set_option Elab.async false
set_option maxRecDepth 100000
namespace Mine
def litI (ax : Addr) (i : Nat) : Itm := fun o => o.cls = .type "list_iterator" ∧ o.data = .fields #[.ref ax, .int i 0]
def ritI (x left step : Int) : Itm := objI { cls := .type "range_iterator", dict := none, data := .fields #[rawInt x, rawInt left, rawInt step], slots := #[] }
theorem At.lit {h : Heap} {a ax : Addr} {i : Nat} (x : At h a (litI ax i)) : h.IsListIter a ax i := x
theorem At.of_lit {h : Heap} {a ax : Addr} {i : Nat} (x : h.IsListIter a ax i) : At h a (litI ax i) := x
/-- an iterator that stands in the ledger as one entry -/
structure Src (w : World) (h₀ : Heap) (A : Around) (it : Addr) (need : List (Addr × Itm) → Prop) (SP : Nat → Itm) (n : Nat) (P : Nat → Value → Prop) : Prop where
  item : ∀ k (s : Shared) l j (Q : Option Value → Shared → Prop) (E : Value → Shared → Prop), k < n → need l → l[j]? = some (it, SP k) → Led h₀ s.heap l →
    (∀ v h' tk, P k v → Led h₀ h' (l.set j (it, SP (k + 1))) → Q (some v) { s with heap := h', toks := tk }) → wpAny (model prog w) A (pyNext (.ref it)) Q E s
  done : ∀ (s : Shared) l j (Q : Option Value → Shared → Prop) (E : Value → Shared → Prop), need l → l[j]? = some (it, SP n) → Led h₀ s.heap l →
    (∀ h' tk, Led h₀ h' (l.set j (it, anyI)) → Q none { s with heap := h', toks := tk }) → wpAny (model prog w) A (pyNext (.ref it)) Q E s
  self : ∀ k (s : Shared) (Q : Value → Shared → Prop) (E : Value → Shared → Prop), At s.heap it (SP k) → Q (.ref it) s → wpAny (model prog w) A (pyIter (.ref it)) Q E s
  mute : ∀ v target, (∀ es c p, target ≠ .Tuple es c p) → (∀ es p, target ≠ .List es p) → letOwnedTupleGo target (.ref it) v = pure ()
theorem mute_any (it : Addr) (v : Value) (target : Expr) (h1 : ∀ es c p, target ≠ .Tuple es c p) (h2 : ∀ es p, target ≠ .List es p) : letOwnedTupleGo target (.ref it) v = pure () := by
  unfold letOwnedTupleGo
  split
  · exact absurd rfl (h1 _ _ _)
  · exact absurd rfl (h2 _ _)
  · rfl
theorem Led.grow2 {h₀ h : Heap} {l : List (Addr × Itm)} (D : Led h₀ h l) (o₁ o₂ : Obj) : Led h₀ ((h.push o₁).push o₂) l :=
  D.keeps (fun b o e => Heap.get?_push_of_some _ (Heap.get?_push_of_some _ e)) (by rw [Heap.size_push, Heap.size_push]; omega)
theorem At.any_of_ext {h : Heap} {a : Addr} {P : Itm} (x : At h a P) : At h a anyI := let ⟨o, e, _⟩ := x; ⟨o, e, trivial⟩
/-- the facts of a frame -/
structure EF (env : Env) (sc : Scope) (cs : List (Str × Addr)) (L : Addr) : Prop where
  hs : env.scope = sc
  gl : env.globals = mainGlobals
  bl : env.builtins = builtinsNs
  hc : env.cells = cs
  lo : env.locals = L
  fn : sc.kind = .function
def relabelS (scope sc : Scope) : Scope := { scope with names := scope.names.map fun (n, k) => if (k == .free && sc.kind == .function && sc.names.lookup n == some .cell) then (n, .cell) else (n, k) }
def closS (cs : List (Str × Addr)) : List (Str × NameKind) → List (Str × Addr) → Option (List (Str × Addr))
  | [], acc => some acc
  | (n, k) :: r, acc => if k == .free then (match cs.lookup n with | some c => closS cs r ((n, c) :: acc) | none => none) else closS cs r acc
section
variable {env : Env} {sc : Scope} {cs : List (Str × Addr)} {L : Addr}
theorem EF.k (H : EF env sc cs L) {x : Str} {k : NameKind} (h : sc.names.lookup x = some k) : env.kindOf x = some k := by unfold Env.kindOf; rw [H.hs]; exact h
theorem EF.k0 (H : EF env sc cs L) : env.scope.kind = .function := by rw [H.hs]; exact H.fn
theorem EF.e4 (H : EF env sc cs L) : (env.scope.kind == .class || (env.scope.kind == .module && env.locals != env.globals)) = false := by rw [H.k0]; rfl
theorem EF.relabel (H : EF env sc cs L) (scope : Scope) : relabel scope env = relabelS scope sc := by
  unfold PySem.relabel relabelS Env.kindOf; rw [H.hs]
theorem EF.comp (H : EF env sc cs L) {scope : Scope} (cl : List (Str × Addr)) (C : Addr) (hk : scope.kind = .function := by rfl) : EF (compEnvC scope cl C env) (relabelS scope sc) cl C :=
  ⟨H.relabel scope, H.gl, H.bl, rfl, rfl, hk⟩
theorem closS_go : ∀ (names : List (Str × NameKind)) (acc cl : List (Str × Addr)), closS env.cells names acc = some cl →
    (forIn names acc fun (x : Str × NameKind) (cs : List (Str × Addr)) => if x.2 == NameKind.free then (do let a ← cellOf env x.1; pure (ForInStep.yield ((x.1, a) :: cs)) : Sem _) else pure (ForInStep.yield cs)) = (pure cl : Sem _)
  | [], acc, cl, h => by cases h; rfl
  | (n, k) :: r, acc, cl, h => by
    rw [List.forIn_cons]
    unfold closS at h
    split at h
    · rename_i hk
      rw [if_pos hk]
      split at h
      · rename_i c hc
        unfold cellOf
        dsimp only
        rw [hc]
        exact closS_go r _ cl h
      · cases h
    · rename_i hk
      rw [if_neg hk]
      exact closS_go r _ cl h
theorem EF.clos (H : EF env sc cs L) {scope : Scope} {cl : List (Str × Addr)} (h : closS cs scope.names [] = some cl) : closureFor scope env = pure cl := by
  rw [← H.hc] at h
  have := closS_go scope.names [] cl h
  unfold closureFor
  rw [← bind_pure (pure cl : Sem _), ← this]
end
section
variable {w : World} {h₀ : Heap} {A : Around} {E : Value → Shared → Prop} {s : Shared} {env : Env}
theorem stL0 {M : Model} {x : Str} {v : Value} {m : Str → Option Value} {l : List (Addr × Itm)} {Q : Unit → Shared → Prop} (D : Led h₀ s.heap ((env.locals, nsI m) :: l)) (hk : env.kindOf x = some .local)
    (e4 : (env.scope.kind == .class || (env.scope.kind == .module && env.locals != env.globals)) = false)
    (h : ∀ h', Led h₀ h' ((env.locals, nsI fun y => if y = x then some v else m y) :: l) → Q () { s with heap := h', toks := s.toks + 1 }) : wpAny M A (storeName env x v) Q E s :=
  wpAny_storeName_local hk (D.ns 0 rfl) (fun h' hn hs => h h' (D.same 0 rfl hs (At.of_ns hn))) e4
theorem src_range {it : Addr} {a c : Int} {n : Nat} (hh : A.handled = none) : Src w h₀ A it (fun _ => True) (fun k => ritI (a + (k : Int) * c) ((n : Int) - (k : Int)) c) n (fun k v => ∃ t, v = .int (a + (k : Int) * c) t) where
  item := fun k s l j Q E hk _ hj D h => by
    refine wpAny_pyNext_range_item (D.ob j hj) (by omega) fun _ hit hs => h _ _ _ ⟨_, rfl⟩ (D.same j hj hs (At.of_obj ?_))
    have e1 : a + ((k + 1 : Nat) : Int) * c = a + (k : Int) * c + c := by push_cast; rw [Int.add_mul, Int.one_mul, Int.add_assoc]
    have e2 : (n : Int) - ((k + 1 : Nat) : Int) = (n : Int) - (k : Int) - 1 := by push_cast; omega
    rw [e1, e2]; exact hit
  done := fun s l j Q E _ hj D h => by
    have ho := D.ob j hj
    have hT : s.TypeIs (.ref it) "range_iterator" := ⟨_, ho, rfl⟩
    unfold pyNext
    refine wpAny_bind (wpAny_attempt (wpAny_callSpecial?_slot (name := Str.ofString "__next__") hT F.slot_range_iterator_next
      (wpAny_call_entry F.slot_range_iterator_next hT F.entry_range_iterator_next ?_ (F.args_range_iterator_next_1 _))))
    show wpAny _ _ (field (.ref it) 0 >>= _) _ _ s
    refine wpAny_bind (wpAny_field ho rfl (x := rawInt (a + (n : Int) * c)) rfl ?_)
    show wpAny _ _ (field (.ref it) 1 >>= _) _ _ s
    refine wpAny_bind (wpAny_field ho rfl (x := rawInt ((n : Int) - (n : Int))) rfl ?_)
    show wpAny _ _ (field (.ref it) 2 >>= _) _ _ s
    refine wpAny_bind (wpAny_field ho rfl (x := rawInt c) rfl ?_)
    show wpAny _ _ (if (n : Int) - (n : Int) ≤ 0 then _ else _) _ _ s
    rw [if_pos (by omega)]
    refine wpAny_bind (wpAny_rule ?_)
    refine wpAny_bind ?_
    show wpAny _ _ (newExc (.type "StopIteration") [] >>= _) _ _ _
    refine wpAny_bind ?_
    simp only [newExc, newTuple]
    refine wpAny_bind (wpAny_newObj_type ?_ (by size_fits))
    refine wpAny_bind (m := firstArgMember _ _) (wpAny_of_eq (a := Value.none) (by first | rfl | (simp only [firstArgMember]; rfl)) ?_)
    refine wpAny_newObj_type ?_ (by size_fits)
    simp only [raiseNew]
    refine wpAny_bind (wpAny_handled ?_)
    rw [show A.in1.handled = none from hh]
    refine wpAny_bind (wpAny_pure (wpAny_throw ?_))
    refine wpAny_bind (wpAny_isInstance (T := "StopIteration") (b := true) ⟨_, Heap.get?_push_size _ rfl, rfl⟩ isSubtype_stop ?_)
    refine wpAny_pure (h _ _ ?_)
    exact (D.put j hj (D.get j hj).any_of_ext).grow2 _ _
  self := fun k s Q E h q => wpAny_pyIter_rangeiter h.obj q
  mute := fun v t h1 h2 => mute_any it v t h1 h2
theorem src_list {it ax : Addr} {its : List Value} (hh : A.handled = none) : Src w h₀ A it (fun l => ∃ P, (ax, P) ∈ l ∧ ∀ o, P o → o.cls = .type "list" ∧ ∃ n, o.data = .seq its.toArray n) (fun k => litI ax k) its.length (fun k v => its[k]? = some v) where
  item := fun k s l j Q E hk ⟨PP, hm, hP⟩ hj D h => by
    obtain ⟨ol, hol, hpl⟩ := D.getM hm
    refine wpAny_pyNext_list_item (x := its[k]) (D.get j hj).lit ⟨ol, hol, hP ol hpl⟩ (by simp [hk]) fun h' hit hs => h _ _ _ (by simp [hk]) (D.same j hj hs (At.of_lit hit))
  done := fun s l j Q E ⟨PP, hm, hP⟩ hj D h => by
    obtain ⟨ol, hol, hpl⟩ := D.getM hm
    obtain ⟨hlc, nl, hdl⟩ := hP ol hpl
    obtain ⟨o, ho, hc, hd⟩ := (D.get j hj).lit
    have hT : s.TypeIs (.ref it) "list_iterator" := ⟨_, ho, hc⟩
    unfold pyNext
    refine wpAny_bind (wpAny_attempt (wpAny_callSpecial?_slot (name := Str.ofString "__next__") hT slot_listiter_next
      (wpAny_call_entry slot_listiter_next hT entry_listiter_next ?_ (args_listiter_next _))))
    show wpAny _ _ (field (.ref it) 0 >>= _) _ _ s
    refine wpAny_bind (wpAny_field ho hd (x := .ref ax) rfl ?_)
    show wpAny _ _ (if (Value.ref ax == Value.none) = true then _ else _) _ _ s
    rw [if_neg (show ¬ ((Value.ref ax == Value.none) = true) from Bool.false_ne_true)]
    show wpAny _ _ (field (.ref it) 1 >>= _) _ _ s
    refine wpAny_bind (wpAny_field ho hd (x := .int its.length 0) rfl ?_)
    show wpAny _ _ (seqItems? (.ref ax) >>= _) _ _ s
    refine wpAny_bind (wpAny_seqItems hol hdl ?_)
    simp only [Int.toNat_natCast, show its.toArray[its.length]? = none by simp]
    refine wpAny_bind (wpAny_rule (wpAny_bind (wpAny_setField ho hd (by simp) ?_)))
    show wpAny _ _ (newExc (.type "StopIteration") [] >>= _) _ _ _
    refine wpAny_bind ?_
    simp only [newExc, newTuple]
    refine wpAny_bind (wpAny_newObj_type ?_ (by size_fits))
    refine wpAny_bind (m := firstArgMember _ _) (wpAny_of_eq (a := Value.none) (by first | rfl | (simp only [firstArgMember]; rfl)) ?_)
    refine wpAny_newObj_type ?_ (by size_fits)
    simp only [raiseNew]
    refine wpAny_bind (wpAny_handled ?_)
    rw [show A.in1.handled = none from hh]
    refine wpAny_bind (wpAny_pure (wpAny_throw ?_))
    refine wpAny_bind (wpAny_isInstance (T := "StopIteration") (b := true) ⟨_, Heap.get?_push_size _ rfl, rfl⟩ isSubtype_stop ?_)
    refine wpAny_pure (h _ _ ?_)
    have D1 := D.upd (P' := anyI) j hj ho (f := Obj.mapFields (fun vs => vs.setIfInBounds 0 .none)) (Obj.isFreed_of_fields (Obj.data_mapFields hd _)) trivial
    exact D1.grow2 _ _
  self := fun k s Q E h q => wpAny_pyIter_listiter h.lit q
  mute := fun v t h1 h2 => mute_any it v t h1 h2
/-- a comprehension over an entry of the ledger, its name a local -/
theorem CompAt.src0 {scope : Scope} {cl : List (Str × Addr)} {x : Str} {px : Pos} {elt : Expr} {it : Addr} {need : List (Addr × Itm) → Prop} {SP : Nat → Itm} {n : Nat} {P : Nat → Value → Prop} {r₀ : List (Addr × Itm)}
    (S : Src w h₀ A it need SP n P) (J : Nat → List Value → List (Addr × Itm) → Prop) (hkind : scope.kind = .function) (hx : scope.names.lookup x = some .local) (D : Led h₀ s.heap ((it, SP 0) :: r₀)) (h0 : J 0 [] r₀)
    (hneed : ∀ i ys r p q t, i ≤ n → J i ys r → need (p :: q :: t :: r)) (hn : n ≤ 1000)
    (turn : ∀ (C D : Addr) (i : Nat) (ys : List Value) (r : List (Addr × Itm)) (h : Heap) (tk : Nat) (m : Str → Option Value) (v : Value) (E' : Value → Shared → Prop), i < n → P i v → J i ys r → ys.length = i → Led h₀ h ((C, nsI fun y => if y = x then some v else m y) :: (D, lstI ys) :: (it, SP (i + 1)) :: r) →
      (∀ sc cs L, EF env sc cs L → EF (compEnvC scope cl C env) (relabelS scope sc) cl C) →
      wpAny (model prog w) A (eval elt (compEnvC scope cl C env)) (fun y s₃ => ∃ h' tk' m' r', s₃ = { s with heap := h', toks := tk' } ∧ J (i + 1) (ys ++ [y]) r' ∧ Led h₀ h' ((C, nsI m') :: (D, lstI ys) :: (it, SP (i + 1)) :: r'))
        E' { s with heap := h, toks := tk }) :
    CompAt w h₀ A env scope cl none (.Name x px) elt (.ref it) s n ((it, SP 0) :: r₀) (fun k ys r => ∃ i r', r = (it, SP i) :: r' ∧ i + k = n ∧ ys.length = i ∧ J i ys r') (fun ys r => ∃ r', r = (it, anyI) :: r' ∧ ys.length = n ∧ J n ys r') where
  led := D
  init := ⟨0, r₀, rfl, Nat.zero_add _, rfl, h0⟩
  self := fun s' Q E hk q => S.self 0 s' Q E ((D.get 0 rfl).keeps hk) q
  turn := by
    rintro C D k ys _ h tk m v E' ⟨i, r, rfl, hik, hl, hJ⟩ DD
    dsimp only [cmE, ccE, List.nil_append] at DD ⊢
    rcases Nat.lt_or_ge i n with hlt | hge
    · refine S.item i { s with heap := h, toks := tk } _ 2 _ _ hlt (hneed i ys r _ _ _ (Nat.le_of_lt hlt) hJ) rfl DD fun v h' tk' hP D2 => ?_
      dsimp only
      rw [S.mute v _ (by intro _ _ _ q; cases q) (by intro _ _ q; cases q)]
      refine wpAny_pure (wpAny_assign_Name (wpAny_storeName_local (lookup_relabel_local hx) (D2.ns 0 rfl) (fun h2 hn2 hs2 => ?_) (by simp [compEnvC, relabel, hkind])))
      refine wpAny_mono (turn C D i ys r h2 _ _ v _ hlt hP hJ hl (D2.same 0 rfl hs2 (At.of_ns hn2)) fun _ _ _ H => H.comp _ C hkind) (fun y s₃ q => ?_) fun _ _ e => e
      obtain ⟨h3, tk3, m3, r3, rfl, hJ3, D3⟩ := q
      exact ⟨k - 1, h3, tk3, m3, none, _, by omega, rfl, ⟨i + 1, r3, rfl, by omega, by rw [List.length_append, hl]; rfl, hJ3⟩, by omega, D3⟩
    · obtain rfl : i = n := by omega
      refine S.done { s with heap := h, toks := tk } _ 2 _ _ (hneed _ ys r _ _ _ (Nat.le_refl _) hJ) rfl DD fun h' tk' D2 => ?_
      exact ⟨h', tk', m, none, _, rfl, D2, r, rfl, hl, hJ⟩
/-- the same, its name a cell -/
theorem CompAt.src1 {scope : Scope} {cl : List (Str × Addr)} {x : Str} {px : Pos} {elt : Expr} {it : Addr} {need : List (Addr × Itm) → Prop} {SP : Nat → Itm} {n : Nat} {P : Nat → Value → Prop} {r₀ : List (Addr × Itm)}
    (S : Src w h₀ A it need SP n P) (J : Nat → List Value → List (Addr × Itm) → Prop) (hkind : scope.kind = .function) (hx : (relabel scope env).names.lookup x = some .cell) (D : Led h₀ s.heap ((it, SP 0) :: r₀)) (h0 : J 0 [] r₀)
    (hneed : ∀ i ys r p q t u, i ≤ n → J i ys r → need (p :: q :: t :: u :: r)) (hn : n ≤ 1000)
    (turn : ∀ (C D : Addr) (i : Nat) (ys : List Value) (r : List (Addr × Itm)) (h : Heap) (tk : Nat) (m : Str → Option Value) (v : Value) (E' : Value → Shared → Prop), i < n → P i v → J i ys r → ys.length = i → Led h₀ h ((C, nsI m) :: (D, lstI ys) :: (C + 1, cellI (some v)) :: (it, SP (i + 1)) :: r) →
      (∀ sc cs L, EF env sc cs L → EF (compEnvC scope ((x, C + 1) :: cl) C env) (relabelS scope sc) ((x, C + 1) :: cl) C) →
      wpAny (model prog w) A (eval elt (compEnvC scope ((x, C + 1) :: cl) C env)) (fun y s₃ => ∃ h' tk' m' r', s₃ = { s with heap := h', toks := tk' } ∧ J (i + 1) (ys ++ [y]) r' ∧
        Led h₀ h' ((C, nsI m') :: (D, lstI ys) :: (C + 1, cellI (some v)) :: (it, SP (i + 1)) :: r')) E' { s with heap := h, toks := tk }) :
    CompAt w h₀ A env scope cl (some x) (.Name x px) elt (.ref it) s n ((it, SP 0) :: r₀) (fun k ys r => ∃ i r', r = (it, SP i) :: r' ∧ i + k = n ∧ ys.length = i ∧ J i ys r') (fun ys r => ∃ r', r = (it, anyI) :: r' ∧ ys.length = n ∧ J n ys r') where
  led := D
  init := ⟨0, r₀, rfl, Nat.zero_add _, rfl, h0⟩
  self := fun s' Q E hk q => S.self 0 s' Q E ((D.get 0 rfl).keeps hk) q
  turn := by
    rintro C D k ys _ h tk m v E' ⟨i, r, rfl, hik, hl, hJ⟩ DD
    dsimp only [cmE, ccE, List.cons_append, List.nil_append] at DD ⊢
    rcases Nat.lt_or_ge i n with hlt | hge
    · refine S.item i { s with heap := h, toks := tk } _ 3 _ _ hlt (hneed i ys r _ _ _ _ (Nat.le_of_lt hlt) hJ) rfl DD fun v h' tk' hP D2 => ?_
      dsimp only
      rw [S.mute v _ (by intro _ _ _ q; cases q) (by intro _ _ q; cases q)]
      refine wpAny_pure (wpAny_assign_Name (wpAny_storeName_cell (c := C + 1) (by simp [compEnvC, relabel, hkind]) hx (by simp [compEnvC, ccF]) (D2.get 2 rfl).cell (fun h2 hn2 hs2 => ?_)))
      refine wpAny_mono (turn C D i ys r h2 _ _ v _ hlt hP hJ hl (D2.same 2 rfl hs2 (At.of_cell hn2)) fun _ _ _ H => H.comp _ C hkind) (fun y s₃ q => ?_) fun _ _ e => e
      obtain ⟨h3, tk3, m3, r3, rfl, hJ3, D3⟩ := q
      exact ⟨k - 1, h3, tk3, m3, some v, _, by omega, rfl, ⟨i + 1, r3, rfl, by omega, by rw [List.length_append, hl]; rfl, hJ3⟩, by omega, D3⟩
    · obtain rfl : i = n := by omega
      refine S.done { s with heap := h, toks := tk } _ 3 _ _ (hneed _ ys r _ _ _ _ (Nat.le_refl _) hJ) rfl DD fun h' tk' D2 => ?_
      exact ⟨h', tk', m, v, _, rfl, D2, r, rfl, hl, hJ⟩
/-- a for loop over an entry of the ledger, its name a local -/
theorem for_src {R : Result → Shared → Prop} {x : Str} {px : Pos} {body : List Stmt} {it : Addr} {need : List (Addr × Itm) → Prop} {SP : Nat → Itm} {n : Nat} {P : Nat → Value → Prop} {m₀ : Str → Option Value} {r₀ : List (Addr × Itm)}
    (S : Src w h₀ A it need SP n P) (J : Nat → (Str → Option Value) → List (Addr × Itm) → Prop) (hx : env.kindOf x = some .local)
    (hp : (env.scope.kind == .class || (env.scope.kind == .module && env.locals != env.globals)) = false) (D : Led h₀ s.heap ((env.locals, nsI m₀) :: (it, SP 0) :: r₀)) (h0 : J 0 m₀ r₀)
    (hneed : ∀ i m r p q, i ≤ n → J i m r → need (p :: q :: r))
    (turn : ∀ (i : Nat) (m : Str → Option Value) (r : List (Addr × Itm)) (h : Heap) (tk : Nat) (v : Value) (E' : Value → Shared → Prop), i < n → P i v → J i m r → Led h₀ h ((env.locals, nsI fun y => if y = x then some v else m y) :: (it, SP (i + 1)) :: r) →
      wpAny (model prog w) A (execs body env) (fun f s₃ => f = .next ∧ ∃ h' tk' m' r', s₃ = { s with heap := h', toks := tk' } ∧ J (i + 1) m' r' ∧ Led h₀ h' ((env.locals, nsI m') :: (it, SP (i + 1)) :: r')) E' { s with heap := h, toks := tk })
    (h : ∀ m r hh tk, J n m r → Led h₀ hh ((env.locals, nsI m) :: (it, anyI) :: r) → R (.ok .next) { s with heap := hh, toks := tk }) :
    codeAny (model prog w) A (.forLoop (.Name x px) (.ref it) body [] env) R s := by
  refine codeAny_forLoop_any (fun k s' => ∃ i m r hh tk, i + k = n ∧ s' = { s with heap := hh, toks := tk } ∧ J i m r ∧ Led h₀ hh ((env.locals, nsI m) :: (it, SP i) :: r)) ?_ n ⟨0, m₀, r₀, s.heap, s.toks, Nat.zero_add _, rfl, h0, D⟩
  rintro k s' ⟨i, m, r, hh, tk, hik, rfl, hJ, DD⟩
  rcases Nat.lt_or_ge i n with hlt | hge
  · refine S.item i { s with heap := hh, toks := tk } _ 1 _ _ hlt (hneed i m r _ _ (Nat.le_of_lt hlt) hJ) rfl DD fun v h' tk' hP D2 => ?_
    dsimp only
    rw [S.mute v _ (by intro _ _ _ q; cases q) (by intro _ _ q; cases q)]
    refine wpAny_pure (wpAny_assign_Name (wpAny_storeName_local hx (D2.ns 0 rfl) (fun h2 hn2 hs2 => ?_) hp))
    refine wpAny_mono (turn i m r h2 _ v _ hlt hP hJ (D2.same 0 rfl hs2 (At.of_ns hn2))) (fun f s₃ q => ?_) fun _ _ e => e
    obtain ⟨rfl, h3, tk3, m3, r3, rfl, hJ3, D3⟩ := q
    exact ⟨k - 1, by omega, i + 1, m3, r3, h3, tk3, by omega, rfl, hJ3, D3⟩
  · obtain rfl : i = n := by omega
    refine S.done { s with heap := hh, toks := tk } _ 1 _ _ (hneed _ m r _ _ (Nat.le_refl _) hJ) rfl DD fun h' tk' D2 => wpAny_execs_nil ?_
    exact h m r h' tk' hJ D2
end
end Mine
end
-- Va1
section
open PySem PySem.W PyProof.Rows PySem.Calls
set_option Elab.async false
set_option maxRecDepth 100000
namespace Mine
theorem entry_next : entryFor table "next" = some Builtin.«next» := entryFor_of_fast (by kernel_rfl)
theorem args_next (a : Value) : argsOk "next" ⟨[a], []⟩ := by unfold argsOk; kernel_rfl
section
variable {w : World} {mg mb : Str → Option Value} {h₀ : Heap} {A : Around} {E : Value → Shared → Prop} {s : Shared} {Q : Value → Shared → Prop} {l r : List (Addr × Itm)}
/-- next(it) of a list iterator that is not at its end -/
theorem next_lit {it ax : Addr} {its : List Value} {i j : Nat} {v : Value} (D : Led h₀ s.heap l) (hj : l[j]? = some (it, litI ax i)) (hax : (ax, lstI its) ∈ l) (hv : its[i]? = some v)
    (h : ∀ h', Led h₀ h' (l.set j (it, litI ax (i + 1))) → Q v { s with heap := h' }) : wpAny (model prog w) A (call (.builtin "next") [.ref it]) Q E s := by
  have hit := (D.get j hj).lit
  obtain ⟨n, hl⟩ := (D.getM hax).lst
  refine call_function_entry (by decide +kernel) (by decide +kernel) entry_next (args_next _) ?_
  unfold Builtin.«next»
  refine wpAny_bind (m := someArgs "next" 1 2 _) (wpAny_of_eq (a := [Value.ref it]) (by first | rfl | kernel_rfl!) ?_)
  dsimp only
  refine wpAny_bind (wpAny_specialOf (name := Str.ofString "__next__") hit.typeIs slot_listiter_next.lookup ?_)
  refine wpAny_ite_split (fun hab => absurd hab (by decide)) (fun _ => ?_)
  obtain ⟨o, ho, hc, hd⟩ := id hit
  obtain ⟨ol, hol, _, nl, hdl⟩ := hl.isList
  refine wpAny_bind (wpAny_callSpecial?_slot (name := Str.ofString "__next__") hit.typeIs slot_listiter_next
    (wpAny_call_entry slot_listiter_next hit.typeIs entry_listiter_next ?_ (args_listiter_next _)))
  show wpAny _ _ (field (.ref it) 0 >>= _) _ _ s
  refine wpAny_bind (wpAny_field ho hd (x := .ref ax) rfl ?_)
  show wpAny _ _ (if (Value.ref ax == Value.none) = true then _ else _) _ _ s
  rw [if_neg (show ¬ ((Value.ref ax == Value.none) = true) from Bool.false_ne_true)]
  show wpAny _ _ (field (.ref it) 1 >>= _) _ _ s
  refine wpAny_bind (wpAny_field ho hd (x := .int i 0) rfl ?_)
  show wpAny _ _ (seqItems? (.ref ax) >>= _) _ _ s
  refine wpAny_bind (wpAny_seqItems hol hdl ?_)
  have hv' : its.toArray[i]? = some v := by simpa using hv
  simp only [Int.toNat_natCast, hv']
  refine wpAny_bind (wpAny_setField ho hd (by simp) (wpAny_pure ⟨v, rfl, wpAny_pure ⟨_, rfl, h _ (D.same j hj (Heap.SameBut.update ..) (At.of_lit ?_))⟩⟩))
  exact ⟨_, Heap.get?_update_self _ ho (Obj.isFreed_of_fields (Obj.data_mapFields hd _)), (Obj.cls_mapFields ..).trans hc, by
    rw [Obj.data_mapFields hd]; simp [rawInt]⟩
theorem va_bits {h p : Nat} (hh : h ≤ 3) (hp : p ≤ 3) : Builtin.bitAnd (64 + (h : Int)) 63 = h ∧ Builtin.bitAnd (64 + (h : Int)) 64 = 64 ∧ (Builtin.Int.intBits (h : Int) : Int) + 6 ≤ 2 ^ 27 ∧ Builtin.bitAnd (128 + (p : Int)) 63 = p ∧
    Builtin.bitAnd (128 + (p : Int)) 64 = 0 ∧ Builtin.bitOr ((h : Int) * 2 ^ (6 : Int).toNat) p = 64 * h + p := by
  obtain rfl | rfl | rfl | rfl : h = 0 ∨ h = 1 ∨ h = 2 ∨ h = 3 := by omega
  all_goals (obtain rfl | rfl | rfl | rfl : p = 0 ∨ p = 1 ∨ p = 2 ∨ p = 3 := by omega) <;> decide +kernel
theorem va_ct {T ax : Addr} {its : List Value} {i j : Nat} {h p : Nat} {t1 t2 : Tok} (G : Gr w mg mb h₀) (D : Led h₀ s.heap l) (hj : l[j]? = some (T, litI ax i)) (hax : (ax, lstI its) ∈ l) (hne : ax ≠ T)
    (h1 : its[i]? = some (.int (64 + (h : Int)) t1)) (h2 : its[i + 1]? = some (.int (128 + (p : Int)) t2)) (hh : h ≤ 3) (hp : p ≤ 3) (hA : A.depth < recursionLimit)
    (K : ∀ h' tk tk', Led h₀ h' (l.set j (T, litI ax (i + 2))) → Q (.int (64 * h + p) tk) { s with heap := h', toks := tk' }) :
    wpAny (model prog w) A (call (.ref 62) [.ref T]) Q E s := by
  refine call_fn (binds := [(Str.ofString "iterator", .ref T)]) (D.keep _ _ (G.X 62 _ rfl)) rfl rfl (Heap.CodeRec.keeps ⟨_, _, _, _, rfl, G.X 61 _ rfl, rfl, rfl⟩ D.keep) (G.lim.keeps D.keep) rfl (locs rfl) (by decide) hA ?_
  intro h₁ tk F
  replace D := Fr.led D F
  clear F
  generalize hE : callEnv _ _ _ = env
  have q0 : env.scope.kind = .function := by rw [← hE]; rfl
  have q1 : env.kindOf (Str.ofString "iterator") = some .local := by rw [← hE]; rfl
  have q2 : env.kindOf (Str.ofString "b") = some .local := by rw [← hE]; rfl
  have q3 : env.kindOf (Str.ofString "val") = some .local := by rw [← hE]; rfl
  have q4 : env.kindOf (Str.ofString "next") = some .globalImplicit := by rw [← hE]; rfl
  have e1 : env.globals = mainGlobals := by rw [← hE]; rfl
  have e2 : env.builtins = builtinsNs := by rw [← hE]; rfl
  have e3 : env.locals = s.heap.objs.size := by rw [← hE]; rfl
  have e4 : (env.scope.kind == .class || (env.scope.kind == .module && env.locals != env.globals)) = false := by rw [q0]; rfl
  rw [← e3] at D
  clear hE e3
  generalize A.deeper env = A1
  obtain ⟨b1, b2, b3, b4, b5, b6⟩ := va_bits hh hp
  refine wpAny_execs_cons (wpAny_Assign_Name (wpAny_Call_NameR (nmB G D q0 q4 e1 e2 (by kernel_rfl) (v := .builtin "next") (by kernel_rfl) ?_)))
  refine callB1 (nmL q0 q1 (D.ns 0 rfl) rfl ?_)
  refine next_lit (j := j + 1) D hj (.tail _ hax) h1 fun h' D => ?_
  rw [List.set_cons_succ] at D
  refine wpAny_storeName_local q2 (D.ns 0 rfl) (fun h' hn hs => ?_) e4
  replace D := D.same 0 rfl hs (At.of_ns hn)
  dsimp only
  refine wpAny_execs_cons (wpAny_Assign_Name (wpAny_BinOp (nmL q0 q2 (D.ns 0 rfl) rfl (wpAny_Constant_int (and_int ?_)))))
  rw [b1]
  refine wpAny_storeName_local q3 (D.ns 0 rfl) (fun h' hn hs => ?_) e4
  replace D := D.same 0 rfl hs (At.of_ns hn)
  dsimp only [List.set_cons_zero] at D ⊢
  refine wpAny_execs_cons (wpAny_While ?_)
  refine codeAny_whileLoop (fun n s' => ∃ h' tk' t3 m, s' = { s with heap := h', toks := tk' } ∧ m (Str.ofString "iterator") = some (.ref T) ∧
    ((n = 1 ∧ m (Str.ofString "b") = some (.int (64 + (h : Int)) t1) ∧ m (Str.ofString "val") = some (.int h t3) ∧ Led h₀ h' ((env.locals, nsI m) :: l.set j (T, litI ax (i + 1)))) ∨
     (n = 0 ∧ m (Str.ofString "b") = some (.int (128 + (p : Int)) t2) ∧ m (Str.ofString "val") = some (.int (64 * h + p) t3) ∧ Led h₀ h' ((env.locals, nsI m) :: l.set j (T, litI ax (i + 2)))))) ?_ 1
    ⟨_, _, _, _, rfl, rfl, .inl ⟨rfl, rfl, rfl, D⟩⟩
  clear D
  rintro n s' ⟨h', tk', t3, m, rfl, mi, ⟨rfl, mb, mv, D⟩ | ⟨rfl, mb, mv, D⟩⟩
  · refine wpAny_isTrue_value (wpAny_BinOp (nmL q0 q2 (D.ns 0 rfl) mb (wpAny_Constant_int (and_int (truthy_int ?_)))))
    rw [b2, if_pos (by decide)]
    refine wpAny_execs_cons (wpAny_AugAssign_Name (wpAny_loadName_local q0 q3 (D.ns 0 rfl) mv (wpAny_Constant_int (ilshift_int (by decide) b3 ?_))))
    refine wpAny_storeName_local q3 (D.ns 0 rfl) (fun h' hn hs => ?_) e4
    replace D := D.same 0 rfl hs (At.of_ns hn)
    dsimp only [List.set_cons_zero] at D ⊢
    refine wpAny_execs_cons (wpAny_Assign_Name (wpAny_Call_NameR (nmB G D q0 q4 e1 e2 (by kernel_rfl) (v := .builtin "next") (by kernel_rfl) ?_)))
    refine callB1 (nmL q0 q1 (D.ns 0 rfl) ((if_neg (by decide)).trans mi) ?_)
    have hj' : (l.set j (T, litI ax (i + 1)))[j]? = some (T, litI ax (i + 1)) := List.getElem?_set_self (List.getElem?_eq_some_iff.mp hj).1
    have hax' : (ax, lstI its) ∈ l.set j (T, litI ax (i + 1)) := by
      obtain ⟨k, hk⟩ := List.mem_iff_getElem?.mp hax
      refine List.mem_of_getElem? (i := k) ?_
      rw [List.getElem?_set_ne ?_]
      · exact hk
      · rintro rfl; exact hne (congrArg (·.1) (Option.some.inj (hk.symm.trans hj)))
    refine next_lit (j := j + 1) D hj' (.tail _ hax') h2 fun h' D => ?_
    rw [List.set_cons_succ, List.set_set] at D
    refine wpAny_storeName_local q2 (D.ns 0 rfl) (fun h' hn hs => ?_) e4
    replace D := D.same 0 rfl hs (At.of_ns hn)
    dsimp only [List.set_cons_zero] at D ⊢
    refine wpAny_execs_cons (wpAny_AugAssign_Name (wpAny_loadName_local q0 q3 (D.ns 0 rfl) ((if_neg (by decide)).trans (if_pos rfl)) (wpAny_BinOp (nmL q0 q2 (D.ns 0 rfl) (if_pos rfl) (wpAny_Constant_int (and_int (ior_int ?_)))))))
    rw [b4, b6]
    refine wpAny_storeName_local q3 (D.ns 0 rfl) (fun h' hn hs => ?_) e4
    replace D := D.same 0 rfl hs (At.of_ns hn)
    refine wpAny_execs_nil ?_
    exact ⟨0, by decide, _, _, _, _, rfl, (if_neg (by decide)).trans ((if_neg (by decide)).trans ((if_neg (by decide)).trans mi)), .inr ⟨rfl, (if_neg (by decide)).trans (if_pos rfl), if_pos rfl, D⟩⟩
  · refine wpAny_isTrue_value (wpAny_BinOp (nmL q0 q2 (D.ns 0 rfl) mb (wpAny_Constant_int (and_int (truthy_int ?_)))))
    rw [b5, if_neg (by decide)]
    refine wpAny_execs_nil ?_
    dsimp only
    exact wpAny_execs_cons (wpAny_Return_some (nmL q0 q3 (D.ns 0 rfl) mv (K _ _ _ D.drop)))
end
end Mine
end
-- Wy1
section
open PySem PySem.W PyProof.Rows PySem.Calls
set_option Elab.async false
set_option maxRecDepth 100000
namespace Mine
/-- the way between two nodes, by climbing -/
def wayF (P H : Nat → Nat) : Nat → Nat → Nat → Nat
  | 0, _, _ => 0
  | n + 1, a, b => if a = b then 0 else if b < a then H a + wayF P H n (P a) b else H b + wayF P H n a (P b)
def IntAt (vs : List Value) (k : Nat) (n : Int) : Prop := ∃ t, vs[k]? = some (.int n t)
section
variable {w : World} {mg mb : Str → Option Value} {h₀ : Heap} {A : Around} {E : Value → Shared → Prop} {s : Shared} {Q : Value → Shared → Prop} {l r : List (Addr × Itm)}
theorem way_ct {pa ha : Addr} {ps hs : List Value} {P H : Nat → Nat} {a b n : Nat} {t1 t2 : Tok} (G : Gr w mg mb h₀) (D : Led h₀ s.heap l) (hpa : (pa, lstI ps) ∈ l) (hha : (ha, lstI hs) ∈ l)
    (hP : ∀ k, 1 ≤ k → k < 5 → IntAt ps k (P k) ∧ P k < k) (hH : ∀ k, 1 ≤ k → k < 5 → IntAt hs k (H k)) (ha5 : a < 5) (hb5 : b < 5) (hn : a + b ≤ n) (hA : A.depth < recursionLimit)
    (K : ∀ h' tk tk', Led h₀ h' l → Q (.int (wayF P H n a b) tk) { s with heap := h', toks := tk' }) :
    wpAny (model prog w) A (call (.ref 123) [.int a t1, .int b t2, .ref pa, .ref ha]) Q E s := by
  refine call_fn (binds := [(Str.ofString "a", .int a t1), (Str.ofString "b", .int b t2), (Str.ofString "parents", .ref pa), (Str.ofString "hours", .ref ha)]) (D.keep _ _ (G.X 123 _ rfl)) rfl rfl (Heap.CodeRec.keeps ⟨_, _, _, _, rfl, G.X 122 _ rfl, rfl, rfl⟩ D.keep) (G.lim.keeps D.keep) rfl (locs rfl) (by decide) hA ?_
  intro h₁ tk F
  replace D := Fr.led D F
  clear F
  generalize hE : callEnv _ _ _ = env
  have q0 : env.scope.kind = .function := by rw [← hE]; rfl
  have q1 : env.kindOf (Str.ofString "a") = some .local := by rw [← hE]; rfl
  have q2 : env.kindOf (Str.ofString "b") = some .local := by rw [← hE]; rfl
  have q3 : env.kindOf (Str.ofString "parents") = some .local := by rw [← hE]; rfl
  have q4 : env.kindOf (Str.ofString "hours") = some .local := by rw [← hE]; rfl
  have q5 : env.kindOf (Str.ofString "way") = some .local := by rw [← hE]; rfl
  have e3 : env.locals = s.heap.objs.size := by rw [← hE]; rfl
  have e4 : (env.scope.kind == .class || (env.scope.kind == .module && env.locals != env.globals)) = false := by rw [q0]; rfl
  rw [← e3] at D
  clear hE e3
  generalize A.deeper env = A1
  refine wpAny_execs_cons (wpAny_Assign_Name (wpAny_Constant_int ?_))
  refine stL0 D q5 e4 fun h' D => ?_
  dsimp only
  refine wpAny_execs_cons (wpAny_While ?_)
  refine codeAny_whileLoop (fun n' s' => ∃ h' tk' m a' b' y t1 t2 t3, s' = { s with heap := h', toks := tk' } ∧ Led h₀ h' ((env.locals, nsI m) :: l) ∧ a' < 5 ∧ b' < 5 ∧ a' + b' ≤ n' ∧
     m (Str.ofString "a") = some (.int (a' : Nat) t1) ∧ m (Str.ofString "b") = some (.int (b' : Nat) t2) ∧ m (Str.ofString "parents") = some (.ref pa) ∧ m (Str.ofString "hours") = some (.ref ha) ∧ m (Str.ofString "way") = some (.int (y : Nat) t3) ∧
     y + wayF P H n' a' b' = wayF P H n a b) ?_ n ⟨_, _, _, a, b, 0, _, _, _, rfl, D, ha5, hb5, hn, rfl, rfl, rfl, rfl, rfl, Nat.zero_add _⟩
  clear D
  rintro n' s' ⟨h', tk', m, a', b', y, t1, t2, t3, rfl, D, ha, hb, hn, m1, m2, m3, m4, m5, hw⟩
  refine wpAny_isTrue_Compare1 (nmL q0 q1 (D.ns 0 rfl) m1 (nmL q0 q2 (D.ns 0 rfl) m2 (ne_int (wpAny_truthy_bool ?_))))
  by_cases hab : a' = b'
  · subst hab
    have hw0 : wayF P H n' a' a' = 0 := by cases n' <;> simp [wayF]
    rw [hw0, Nat.add_zero] at hw
    rw [if_neg (by simp)]
    refine wpAny_execs_nil ?_
    dsimp only
    refine wpAny_execs_cons (wpAny_Return_some (nmL q0 q5 (D.ns 0 rfl) m5 ?_))
    rw [hw]
    exact K _ _ _ D.drop
  · rw [if_pos (by simp; omega)]
    obtain ⟨n', rfl⟩ : ∃ k, n' = k + 1 := ⟨n' - 1, by omega⟩
    refine wpAny_execs_cons (wpAny_If (wpAny_isTrue_Compare1 (nmL q0 q1 (D.ns 0 rfl) m1 (nmL q0 q2 (D.ns 0 rfl) m2 (gt_int (wpAny_truthy_bool ?_))))))
    by_cases hlt : b' < a'
    · rw [if_pos (by simp; omega)]
      obtain ⟨⟨tp, hp⟩, hpl⟩ := hP a' (by omega) ha
      obtain ⟨th, hh⟩ := hH a' (by omega) ha
      obtain ⟨np, hlp⟩ := (D.getM (.tail _ hpa)).lst
      obtain ⟨nh, hlh⟩ := (D.getM (.tail _ hha)).lst
      refine wpAny_execs_cons (wpAny_AugAssign_Name (wpAny_loadName_local q0 q5 (D.ns 0 rfl) m5 (Subscript_ (nmL q0 q4 (D.ns 0 rfl) m4 (nmL q0 q1 (D.ns 0 rfl) m1 (item_list hlh.isList (by omega) (by omega) (x := .int (H a') th) (by simpa using hh) (iadd_int ?_)))))))
      refine stL0 D q5 e4 fun h' D => ?_
      dsimp only
      obtain ⟨np, hlp⟩ := (D.getM (.tail _ hpa)).lst
      refine wpAny_execs_cons (wpAny_Assign_Name (Subscript_ (nmL q0 q3 (D.ns 0 rfl) ((if_neg (by decide)).trans m3) (nmL q0 q1 (D.ns 0 rfl) ((if_neg (by decide)).trans m1) (item_list hlp.isList (by omega) (by omega) (x := .int (P a') tp) (by simpa using hp) ?_)))))
      refine stL0 D q1 e4 fun h' D => ?_
      refine wpAny_execs_nil (wpAny_execs_nil ?_)
      refine ⟨n', Nat.lt_succ_self _, _, _, _, P a', b', y + H a', tp, t2, tk', rfl, D, by omega, hb, by omega, if_pos rfl, ?_, ?_, ?_, ?_, ?_⟩
      · exact (if_neg (by decide)).trans ((if_neg (by decide)).trans m2)
      · exact (if_neg (by decide)).trans ((if_neg (by decide)).trans m3)
      · exact (if_neg (by decide)).trans ((if_neg (by decide)).trans m4)
      · exact (if_neg (by decide)).trans (if_pos rfl)
      · rw [← hw]; simp [wayF, hab, hlt]; omega
    · rw [if_neg (by simp; omega)]
      obtain ⟨⟨tp, hp⟩, hpl⟩ := hP b' (by omega) hb
      obtain ⟨th, hh⟩ := hH b' (by omega) hb
      obtain ⟨nh, hlh⟩ := (D.getM (.tail _ hha)).lst
      refine wpAny_execs_cons (wpAny_AugAssign_Name (wpAny_loadName_local q0 q5 (D.ns 0 rfl) m5 (Subscript_ (nmL q0 q4 (D.ns 0 rfl) m4 (nmL q0 q2 (D.ns 0 rfl) m2 (item_list hlh.isList (by omega) (by omega) (x := .int (H b') th) (by simpa using hh) (iadd_int ?_)))))))
      refine stL0 D q5 e4 fun h' D => ?_
      dsimp only
      obtain ⟨np, hlp⟩ := (D.getM (.tail _ hpa)).lst
      refine wpAny_execs_cons (wpAny_Assign_Name (Subscript_ (nmL q0 q3 (D.ns 0 rfl) ((if_neg (by decide)).trans m3) (nmL q0 q2 (D.ns 0 rfl) ((if_neg (by decide)).trans m2) (item_list hlp.isList (by omega) (by omega) (x := .int (P b') tp) (by simpa using hp) ?_)))))
      refine stL0 D q2 e4 fun h' D => ?_
      refine wpAny_execs_nil (wpAny_execs_nil ?_)
      refine ⟨n', Nat.lt_succ_self _, _, _, _, a', P b', y + H b', t1, tp, tk', rfl, D, ha, by omega, by omega, ?_, if_pos rfl, ?_, ?_, ?_, ?_⟩
      · exact (if_neg (by decide)).trans ((if_neg (by decide)).trans m1)
      · exact (if_neg (by decide)).trans ((if_neg (by decide)).trans m3)
      · exact (if_neg (by decide)).trans ((if_neg (by decide)).trans m4)
      · exact (if_neg (by decide)).trans (if_pos rfl)
      · rw [← hw]; simp [wayF, hab, hlt]; omega
end
end Mine
end
-- Ef1
section
open PySem PySem.W PyProof.Rows PySem.Calls
set_option Elab.async false
set_option maxRecDepth 100000
namespace Mine
section
variable {w : World} {mg mb : Str → Option Value} {h₀ : Heap} {A : Around} {E : Value → Shared → Prop} {s : Shared} {Q : Value → Shared → Prop} {l r : List (Addr × Itm)} {M : Model}
  {env : Env} {sc : Scope} {cs : List (Str × Addr)} {L : Addr} {x : Str} {pos : Pos} {v : Value} {m : Str → Option Value}
theorem nL (H : EF env sc cs L) (D : Led h₀ s.heap l) (hi : (L, nsI m) ∈ l) (hm : m x = some v) (h : Q v s) (hk : sc.names.lookup x = some .local := by rfl) (hd : (x == ("__debug__" : Str)) = false := by decide) :
    wpAny M A (eval (.Name x pos) env) Q E s := nmL H.k0 (H.k hk) (by rw [H.lo]; exact (D.getM hi).ns) hm h hd
theorem nC {c : Addr} (H : EF env sc cs L) (D : Led h₀ s.heap l) (hi : (c, cellI (some v)) ∈ l) (h : Q v s) (hk : sc.names.lookup x = some .cell := by rfl) (hc : cs.lookup x = some c := by rfl) (hd : (x == ("__debug__" : Str)) = false := by decide) :
    wpAny M A (eval (.Name x pos) env) Q E s := nmC H.k0 (H.k hk) (by rw [H.hc]; exact hc) (D.getM hi).cell h hd
theorem nB (H : EF env sc cs L) (G : Gr w mg mb h₀) (D : Led h₀ s.heap l) (hn : nsIn (Mine.hd.heap_39 w.params) mainGlobals x = some none) (hb : bootBuiltins x = some v) (h : Q v s) (hk : sc.names.lookup x = some .globalImplicit := by rfl)
    (hd : (x == ("__debug__" : Str)) = false := by decide) (hy : x ≠ "__name__" := by decide) : wpAny M A (eval (.Name x pos) env) Q E s :=
  nmB G D H.k0 (H.k hk) H.gl H.bl hn hb h hd hy
theorem nG (H : EF env sc cs L) (G : Gr w mg mb h₀) (D : Led h₀ s.heap l) (hn : nsIn (Mine.hd.heap_39 w.params) mainGlobals x = some (some v)) (h : Q v s) (hk : sc.names.lookup x = some .globalImplicit := by rfl)
    (hd : (x == ("__debug__" : Str)) = false := by decide) : wpAny M A (eval (.Name x pos) env) Q E s :=
  nmG G D H.k0 (H.k hk) H.gl hn h hd
/-- a store of a local, its frame the first entry -/
theorem sL {Q : Unit → Shared → Prop} (H : EF env sc cs L) (D : Led h₀ s.heap ((L, nsI m) :: l)) (h : ∀ h', Led h₀ h' ((L, nsI fun y => if y = x then some v else m y) :: l) → Q () { s with heap := h', toks := s.toks + 1 })
    (hk : sc.names.lookup x = some .local := by rfl) : wpAny M A (storeName env x v) Q E s := by
  have e := H.lo
  subst e
  exact stL0 D (H.k hk) H.e4 h
theorem sC {Q : Unit → Shared → Prop} {c : Addr} {v₀ : Option Value} {i : Nat} (H : EF env sc cs L) (D : Led h₀ s.heap l) (hi : l[i]? = some (c, cellI v₀)) (h : ∀ h', Led h₀ h' (l.set i (c, cellI (some v))) → Q () { s with heap := h' })
    (hk : sc.names.lookup x = some .cell := by rfl) (hc : cs.lookup x = some c := by rfl) : wpAny M A (storeName env x v) Q E s :=
  wpAny_storeName_cell H.k0 (H.k hk) (by rw [H.hc]; exact hc) (D.get i hi).cell fun h' hv hs => h h' (D.same i hi hs (At.of_cell hv))
theorem callT1 {first : List Value} {T : String} {e : Expr} (h : wpAny M A (eval e env) (fun v s₁ => wpAny M A (call (.type T) (first ++ [v])) Q E s₁) E s) (he : backTo pos (starEach [e] env) = [(false, eval e env)] := by rfl) :
    wpAny M A (callWith pos (.type T) first (backTo pos (starEach [e] env)) []) Q E s := by
  rw [he]
  exact PyProof.Rows.callWith_type rfl (evalArgs_plain (spliced_cons (wpAny_mono h (fun v s₁ q => spliced_nil q) fun _ _ x => x)))
theorem callT2 {first : List Value} {T : String} {e e₂ : Expr} (h : wpAny M A (eval e env) (fun v s₁ => wpAny M A (eval e₂ env) (fun v₂ s₂ => wpAny M A (call (.type T) (first ++ [v, v₂])) Q E s₂) E s₁) E s) (he : backTo pos (starEach [e, e₂] env) = [(false, eval e env), (false, eval e₂ env)] := by rfl) :
    wpAny M A (callWith pos (.type T) first (backTo pos (starEach [e, e₂] env)) []) Q E s := by
  rw [he]
  exact PyProof.Rows.callWith_type rfl (evalArgs_plain (spliced_cons (wpAny_mono h (fun v s₁ q => spliced_cons (wpAny_mono q (fun _ _ q => spliced_nil q) fun _ _ x => x)) fun _ _ x => x)))
theorem callT3 {first : List Value} {T : String} {e e₂ e₃ : Expr} (h : wpAny M A (eval e env) (fun v s₁ => wpAny M A (eval e₂ env) (fun v₂ s₂ => wpAny M A (eval e₃ env) (fun v₃ s₃ => wpAny M A (call (.type T) (first ++ [v, v₂, v₃])) Q E s₃) E s₂) E s₁) E s) (he : backTo pos (starEach [e, e₂, e₃] env) = [(false, eval e env), (false, eval e₂ env), (false, eval e₃ env)] := by rfl) :
    wpAny M A (callWith pos (.type T) first (backTo pos (starEach [e, e₂, e₃] env)) []) Q E s := by
  rw [he]
  exact PyProof.Rows.callWith_type rfl (evalArgs_plain (spliced_cons (wpAny_mono h (fun v s₁ q => spliced_cons (wpAny_mono q (fun _ _ q => spliced_cons (wpAny_mono q (fun _ _ q => spliced_nil q) fun _ _ x => x)) fun _ _ x => x)) fun _ _ x => x)))
/-- range(n) and its iterator -/
theorem rng1 {b : Nat} {t : Tok} (D : Led h₀ s.heap l) (hb : b ≤ 1000) (h : ∀ h' tk it, Led h₀ h' ((it, ritI (0 + ((0 : Nat) : Int) * 1) ((b : Int) - ((0 : Nat) : Int)) 1) :: l) → Q (.ref it) { s with heap := h', toks := tk }) :
    wpAny (model prog w) A (call (.type "range") [.int b t]) (fun xv s₁ => wpAny (model prog w) A (pyIter xv) Q E s₁) E s := by
  refine call_range_1 ?_
  have D2 := D.push (o := { cls := .type "range", data := .fields #[.int 0 s.toks, .int b t, .int 1 (s.toks + 1)] }) (P := anyI) rfl trivial
  refine wpAny_pyIter_range (IsRange.new ..) (small_one (by omega) (by omega) (by omega) (by omega)) ?_
  have D3 := D2.push (o := { cls := .type "range_iterator", data := .fields #[rawInt 0, rawInt (Builtin.Range.rangeSize 0 b 1), rawInt 1] }) (P := ritI (0 + ((0 : Nat) : Int) * 1) ((b : Int) - ((0 : Nat) : Int)) 1) rfl (by
    rw [rangeSize_one]
    show _ = _
    have e : (if (0 : Int) < (b : Int) then (b : Int) - 0 else 0) = (b : Int) - ((0 : Nat) : Int) := by split <;> omega
    rw [e]; rfl)
  exact h _ _ _ (D3.perm (List.Perm.swap ..)).drop
/-- range(1, 5) and the like -/
theorem rng2 {a b n : Nat} {t u : Tok} (D : Led h₀ s.heap l) (hn : a + n = b) (hb : b ≤ 1000) (h : ∀ h' tk it, Led h₀ h' ((it, ritI ((a : Int) + ((0 : Nat) : Int) * 1) ((n : Int) - ((0 : Nat) : Int)) 1) :: l) → Q (.ref it) { s with heap := h', toks := tk }) :
    wpAny (model prog w) A (call (.type "range") [.int a t, .int b u]) (fun xv s₁ => wpAny (model prog w) A (pyIter xv) Q E s₁) E s := by
  refine call_range_2 ?_
  have D2 := D.push (o := { cls := .type "range", data := .fields #[.int a t, .int b u, .int 1 s.toks] }) (P := anyI) rfl trivial
  refine wpAny_pyIter_range (IsRange.new ..) (small_one (by omega) (by omega) (by omega) (by omega)) ?_
  have D3 := D2.push (o := { cls := .type "range_iterator", data := .fields #[rawInt a, rawInt (Builtin.Range.rangeSize a b 1), rawInt 1] }) (P := ritI ((a : Int) + ((0 : Nat) : Int) * 1) ((n : Int) - ((0 : Nat) : Int)) 1) rfl (by
    rw [rangeSize_one]
    show _ = _
    have e : (if (a : Int) < (b : Int) then (b : Int) - a else 0) = (n : Int) - ((0 : Nat) : Int) := by split <;> omega
    have e2 : (a : Int) + ((0 : Nat) : Int) * 1 = a := by omega
    rw [e, e2])
  exact h _ _ _ (D3.perm (List.Perm.swap ..)).drop
/-- a list of the ledger and its iterator -/
theorem lit0 {ax : Addr} {its : List Value} (D : Led h₀ s.heap l) (hm : (ax, lstI its) ∈ l) (h : ∀ h' tk it, Led h₀ h' ((it, litI ax 0) :: l) → Q (.ref it) { s with heap := h', toks := tk }) :
    wpAny (model prog w) A (pyIter (.ref ax)) Q E s := by
  obtain ⟨n, hl⟩ := (D.getM hm).lst
  refine wpAny_pyIter_list hl.isList (h _ _ _ (D.push (o := { cls := .type "list_iterator", data := .fields #[.ref ax, .int 0 0] }) (P := litI ax 0) rfl ⟨rfl, rfl⟩))
end
end Mine
end
-- Gn1
section
open PySem PySem.W PyProof.Rows PySem.Calls
set_option Elab.async false
set_option maxRecDepth 100000
namespace Mine
abbrev Desk := LX × List Value
def dkE (d : Desk) : List (Addr × Itm) := lexE d.1 Str.empty 0 1 d.2
def desksE (ds : List Desk) : List (Addr × Itm) := ds.flatMap dkE
theorem desk_perm (A R : List (Addr × Itm)) (l₁ l₂ : List Desk) (d : Desk) : (A ++ (desksE (l₁ ++ d :: l₂) ++ R)).Perm (dkE d ++ (A ++ (desksE (l₁ ++ l₂) ++ R))) := by
  have e1 : desksE (l₁ ++ d :: l₂) = desksE l₁ ++ (dkE d ++ desksE l₂) := by simp [desksE]
  have e2 : desksE (l₁ ++ l₂) = desksE l₁ ++ desksE l₂ := by simp [desksE]
  rw [e1, e2]
  have p1 : (A ++ (desksE l₁ ++ (dkE d ++ desksE l₂) ++ R)) = (A ++ desksE l₁) ++ (dkE d ++ (desksE l₂ ++ R)) := by simp
  have p2 : dkE d ++ (A ++ (desksE l₁ ++ desksE l₂ ++ R)) = dkE d ++ ((A ++ desksE l₁) ++ (desksE l₂ ++ R)) := by simp
  rw [p1, p2]
  exact List.perm_append_comm_assoc _ _ _
theorem desk_mem {A R : List (Addr × Itm)} {l₁ l₂ : List Desk} {d : Desk} {e : Addr × Itm} (h : e ∈ dkE d) : e ∈ A ++ (desksE (l₁ ++ d :: l₂) ++ R) :=
  (desk_perm A R l₁ l₂ d).mem_iff.mpr (List.mem_append_left _ h)
theorem desk_x (d : Desk) : (d.1.o, objI (instObj 100 d.1.d)) ∈ dkE d := List.mem_of_getElem? (i := 0) rfl
theorem desk_d (d : Desk) : (d.1.d, dicI 1 d.1.f d.1.p) ∈ dkE d := List.mem_of_getElem? (i := 1) rfl
section
variable {w : World} {mg mb : Str → Option Value} {h₀ : Heap} {A : Around} {E : Value → Shared → Prop} {s : Shared} {Q : Value → Shared → Prop} {l r : List (Addr × Itm)} {X : LX} {x : Str} {i : Nat} {line : Int} {ws : List Value} {v : Value}
theorem push_d {B R : List (Addr × Itm)} {l₁ l₂ : List Desk} (G : Gr w mg mb h₀) (D : Led h₀ s.heap (B ++ (desksE (l₁ ++ (X, ws) :: l₂) ++ R))) (hA : A.depth < recursionLimit) (hsz : ws.length ≤ 1000)
    (h : ∀ h' tk, Led h₀ h' (B ++ (desksE (l₁ ++ (X, ws ++ [v]) :: l₂) ++ R)) → Q .none { s with heap := h', toks := tk }) : wpAny (model prog w) A (call (.ref 97) [.ref X.o, v]) Q E s := by
  have D1 := D.perm (desk_perm B R l₁ l₂ (X, ws))
  refine push_ct (d := X.d) (p := X.p) (f := X.f) (line := 1) (ws := ws) G D1 hA hsz fun h' tk D2 => h h' tk ?_
  exact Led.perm D2 (desk_perm B R l₁ l₂ (X, ws ++ [v])).symm
theorem pop_d {B R : List (Addr × Itm)} {l₁ l₂ : List Desk} (G : Gr w mg mb h₀) (D : Led h₀ s.heap (B ++ (desksE (l₁ ++ (X, v :: ws) :: l₂) ++ R))) (hA : A.depth < recursionLimit) (hsz : ws.length ≤ 1000)
    (h : ∀ h' tk, Led h₀ h' (B ++ (desksE (l₁ ++ (X, ws) :: l₂) ++ R)) → Q v { s with heap := h', toks := tk }) : wpAny (model prog w) A (call (.ref 90) [.ref X.o]) Q E s := by
  have D1 := D.perm (desk_perm B R l₁ l₂ (X, v :: ws))
  refine gt_pop (X := X) (x := Str.empty) (i := 0) (line := 1) G D1 hA hsz fun h' tk D2 => h h' tk ?_
  exact Led.perm D2 (desk_perm B R l₁ l₂ (X, ws)).symm
theorem lex_meth {y d f p g : Addr} {name : Str} {pl : Sem Bool} {Q : Value × List Value → Shared → Prop} (G : Gr w mg mb h₀) (D : Led h₀ s.heap l) (hx : s.heap.get? y = some (instObj 100 d)) (hd : At s.heap d (dicI line f p))
    (hf : findIn (Mine.hd.heap_39 w.params) (.ref 100) name = some (some (.ref g))) (ht : typeIn (Mine.hd.heap_39 w.params) (.ref g) = some (.type "function"))
    (hn : ∀ k1 k2 k3 k4 t1 t2 t3 t4 t5 t6 n, shadowIn (some (dictOf [⟨k1, .str (Str.ofString "lineno") t1, .int line t5⟩, ⟨k2, .str (Str.ofString "instream") t2, .ref f⟩,
  ⟨k3, .str (Str.ofString "whitespace") t3, .str wsp t6⟩, ⟨k4, .str (Str.ofString "pushback") t4, .ref p⟩] n)) name = some false) (h : Q (.ref g, [.ref y]) s) :
    wpAny (model prog w) A (getMethod (.ref y) name pl) Q E s := by
  obtain ⟨od, ed, k1, k2, k3, k4, t1, t2, t3, t4, t5, t6, n, rfl⟩ := hd
  exact method_fn (G.X.keeps D.keep) (instAt_of hx ed) (by kernel_rfl) (by kernel_rfl) hf ht (hn ..) h
/-- a call of push_token upon a lexer -/
theorem m_push {M : Sem Bool} {Q : Value × List Value → Shared → Prop} (G : Gr w mg mb h₀) (D : Led h₀ s.heap l) (hx : (X.o, objI (instObj 100 X.d)) ∈ l) (hd : (X.d, dicI line X.f X.p) ∈ l) (h : Q (.ref 97, [.ref X.o]) s) :
    wpAny (model prog w) A (getMethod (.ref X.o) (Str.ofString "push_token") M) Q E s :=
  lex_meth G D (D.getM hx).obj (D.getM hd) (by kernel_rfl) (by kernel_rfl) (fun _ _ _ _ _ _ _ _ _ _ _ => rfl) h
theorem m_get {M : Sem Bool} {Q : Value × List Value → Shared → Prop} (G : Gr w mg mb h₀) (D : Led h₀ s.heap l) (hx : (X.o, objI (instObj 100 X.d)) ∈ l) (hd : (X.d, dicI line X.f X.p) ∈ l) (h : Q (.ref 90, [.ref X.o]) s) :
    wpAny (model prog w) A (getMethod (.ref X.o) (Str.ofString "get_token") M) Q E s :=
  lex_meth G D (D.getM hx).obj (D.getM hd) (by kernel_rfl) (by kernel_rfl) (fun _ _ _ _ _ _ _ _ _ _ _ => rfl) h
/-- the call of a def of the top with one value -/
theorem callD1 {M : Model} {env : Env} {pos : Pos} {first : List Value} {e : Expr} {f : Value} (G : Gr w mg mb h₀) (hk : keepIn (Mine.hd.heap_39 w.params) f = true)
    (h : wpAny M A (eval e env) (fun v s₁ => (∃ l, Led h₀ s₁.heap l) ∧ wpAny M A (call f (first ++ [v])) Q E s₁) E s) (he : backTo pos (starEach [e] env) = [(false, eval e env)] := by rfl) :
    wpAny M A (callWith pos f first (backTo pos (starEach [e] env)) []) Q E s :=
  callWith1 (P := fun h => (Mine.hd.heap_39 w.params).In h) (keeps_K hk) (wpAny_mono h (fun v s₁ q => ⟨by obtain ⟨⟨l, D⟩, _⟩ := q; exact G.X.keeps D.keep, q.2⟩) fun _ _ x => x) he
theorem callD0 {M : Model} {pos : Pos} {first : List Value} {env : Env} {f : Value} (G : Gr w mg mb h₀) (D : Led h₀ s.heap l) (hk : keepIn (Mine.hd.heap_39 w.params) f = true)
    (h : wpAny M A (call f (first ++ [])) Q E s) : wpAny M A (callWith pos f first (backTo pos (starEach [] env)) []) Q E s :=
  callWith0 (P := fun h => (Mine.hd.heap_39 w.params).In h) (keeps_K hk) (G.X.keeps D.keep) h
theorem callD2 {M : Model} {env : Env} {pos : Pos} {first : List Value} {e e₂ : Expr} {f : Value} (G : Gr w mg mb h₀) (hk : keepIn (Mine.hd.heap_39 w.params) f = true)
    (h : wpAny M A (eval e env) (fun v s₁ => wpAny M A (eval e₂ env) (fun v₂ s₂ => (∃ l, Led h₀ s₂.heap l) ∧ wpAny M A (call f (first ++ [v, v₂])) Q E s₂) E s₁) E s) (he : backTo pos (starEach [e, e₂] env) = [(false, eval e env), (false, eval e₂ env)] := by rfl) :
    wpAny M A (callWith pos f first (backTo pos (starEach [e, e₂] env)) []) Q E s :=
  callWith2 (P := fun h => (Mine.hd.heap_39 w.params).In h) (keeps_K hk) (wpAny_mono h (fun v s₁ q => wpAny_mono q (fun v₂ s₂ q => ⟨by obtain ⟨⟨l, D⟩, _⟩ := q; exact G.X.keeps D.keep, q.2⟩) fun _ _ x => x) fun _ _ x => x) he
end
def forBody : Stmt → List Stmt
  | .For _ _ b _ _ => b
  | _ => []
def grScope : Scope := fScope (topStmt 13)
def grBody : List Stmt := fBody (topStmt 13)
def grTurn : List Stmt := forBody (grBody.getD 4 (.Pass ⟨0, 0, 0, 0⟩))
abbrev noStmt : Stmt := .Pass ⟨0, 0, 0, 0⟩
def grCells (L : Addr) : List (Str × Addr) := [(Str.ofString "below", L + 2), (Str.ofString "end", L + 1)]
def dotS (n : Nat) : Str := ⟨(List.replicate n 46).toArray⟩
section
variable {w : World} {mg mb : Str → Option Value} {h₀ : Heap} {A : Around} {E : Value → Shared → Prop} {s : Shared} {QF : Flow → Shared → Prop} {l r : List (Addr × Itm)} {env : Env} {L : Addr} {m : Str → Option Value}
/-- words = [below.get_token() for turn in range(place)] -/
theorem gr_words {B R : List (Addr × Itm)} {l₁ l₂ : List Desk} {X : LX} {ws : List Value} {tk : Tok} (G : Gr w mg mb h₀) (H : EF env grScope (grCells L) L) (hm : m (Str.ofString "place") = some (.int (ws.length : Nat) tk))
    (D : Led h₀ s.heap ((L, nsI m) :: (L + 2, cellI (some (.ref X.o))) :: B ++ (desksE (l₁ ++ (X, ws) :: l₂) ++ R))) (hA : A.depth < recursionLimit) (hsz : ws.length ≤ 1000) (hh : A.handled = none)
    (h : ∀ h' tk Y, Led h₀ h' ((Y, lstI ws) :: (L, nsI fun z => if z = Str.ofString "words" then some (.ref Y) else m z) :: (L + 2, cellI (some (.ref X.o))) :: B ++ (desksE (l₁ ++ (X, []) :: l₂) ++ R)) → QF .next { s with heap := h', toks := tk }) :
    wpAny (model prog w) A (exec (grTurn.getD 2 noStmt) env) QF E s := by
  have hL := H.lo
  subst hL
  refine comp_assign (h₀ := h₀) [(Str.ofString "below", env.locals + 2)] none (by simp only [swapsWith, Env.blockKind]; rw [H.k0, H.k (x := Str.ofString "words") (k := .local) rfl]; rfl) (H.clos rfl) (fun _ _ => rfl) (fun _ => rfl) rfl (by decide) (H.k rfl) H.e4 ?_
  refine wpAny_Call_NameR (nB H G D (by kernel_rfl) (v := .type "range") (by kernel_rfl) ?_)
  refine callT1 (nL H D (.head _) hm ?_)
  refine rng1 D hsz fun h1 tk1 it D1 => ?_
  refine ⟨_, _, _, _, CompAt.src0 (src_range hh) (fun i ys r => ys = ws.take i ∧ r = (env.locals, nsI m) :: (env.locals + 2, cellI (some (.ref X.o))) :: B ++ (desksE (l₁ ++ (X, ws.drop i) :: l₂) ++ R)) rfl rfl D1 ⟨rfl, rfl⟩
    (fun _ _ _ _ _ _ _ _ => trivial) hsz ?_, ?_⟩
  · rintro C Dd i ys _ h2 tk2 m2 v E' hi ⟨tv, rfl⟩ ⟨rfl, rfl⟩ hl D2 HC
    replace HC := HC _ _ _ H
    obtain ⟨v0, hv0⟩ : ∃ v0, ws.drop i = v0 :: ws.drop (i + 1) := ⟨ws[i], List.drop_eq_getElem_cons hi⟩
    rw [hv0] at D2
    refine MethodCall_ (nC HC D2 (c := env.locals + 2) (v := .ref X.o) (by simp) (m_get G D2 (desk_mem (A := _ :: _ :: _ :: _ :: _ :: B) (desk_x (X, v0 :: ws.drop (i + 1)))) (desk_mem (A := _ :: _ :: _ :: _ :: _ :: B) (desk_d (X, v0 :: ws.drop (i + 1)))) ?_))
    refine callD0 G D2 (by kernel_rfl) ?_
    refine pop_d (B := _ :: _ :: _ :: _ :: _ :: B) (ws := ws.drop (i + 1)) G D2 hA (by rw [List.length_drop]; omega) fun h3 tk3 D3 => ?_
    refine ⟨h3, tk3, _, _, rfl, ⟨?_, rfl⟩, D3⟩
    have e := List.drop_eq_getElem_cons hi
    rw [hv0] at e
    rw [List.take_succ_eq_append_getElem hi, (List.cons.inj e).1]
  · rintro ys _ ⟨_, rfl, hl, rfl, rfl⟩
    refine ⟨m, 1, rfl, fun Y hh tk D3 => h hh tk Y ?_⟩
    rw [List.take_length, List.drop_length] at D3
    exact (D3.perm (.cons _ (.swap _ _ _))).sub (.cons_cons _ (.cons_cons _ (.cons _ (List.Sublist.refl _))))
end
end Mine
end
-- Gn2
section
open PySem PySem.W PyProof.Rows PySem.Calls
set_option Elab.async false
set_option maxRecDepth 100000
namespace Mine
section
variable {w : World} {mg mb : Str → Option Value} {h₀ : Heap} {A : Around} {E : Value → Shared → Prop} {s : Shared} {QF : Flow → Shared → Prop} {l r : List (Addr × Itm)} {env : Env} {L : Addr} {m : Str → Option Value}
/-- hung = _parse_varint(tape) -/
theorem gr_hung {T ax : Addr} {its : List Value} {i h p : Nat} {t1 t2 : Tok} (G : Gr w mg mb h₀) (H : EF env grScope (grCells L) L) (hm : m (Str.ofString "tape") = some (.ref T))
    (D : Led h₀ s.heap ((L, nsI m) :: (T, litI ax i) :: l)) (hax : (ax, lstI its) ∈ l)
    (h1 : its[i]? = some (.int (64 + (h : Int)) t1)) (h2 : its[i + 1]? = some (.int (128 + (p : Int)) t2)) (hh : h ≤ 3) (hp : p ≤ 3) (hA : A.depth < recursionLimit)
    (K : ∀ h' tk tk', Led h₀ h' ((L, nsI fun z => if z = Str.ofString "hung" then some (.int (64 * (h : Int) + (p : Int)) tk) else m z) :: (T, litI ax (i + 2)) :: l) → QF .next { s with heap := h', toks := tk' }) :
    wpAny (model prog w) A (exec (grTurn.getD 0 noStmt) env) QF E s := by
  refine wpAny_Assign_Name (wpAny_Call_NameR (nG H G D (v := .ref 62) (by kernel_rfl) ?_))
  refine callD1 G (by kernel_rfl) (nL H D (.head _) hm ⟨⟨_, D⟩, ?_⟩)
  have hne : ax ≠ T := by
    obtain ⟨j, hj⟩ := List.mem_iff_getElem?.mp hax
    exact D.apart (i := 1) rfl (j := j + 2) hj (by omega)
  refine va_ct (j := 1) G D rfl (by simp [hax]) hne h1 h2 hh hp hA fun h' tk tk' D => ?_
  exact sL H D fun h' D => K _ _ _ D
/-- below = desks[hung % 64] -/
theorem gr_below {h p : Nat} {t : Tok} {dl : Addr} {vs : List Value} {v : Value} {v₀ : Option Value} (H : EF env grScope (grCells L) L) (hm : m (Str.ofString "hung") = some (.int (64 * (h : Int) + (p : Int)) t)) (hd : m (Str.ofString "desks") = some (.ref dl))
    (D : Led h₀ s.heap ((L, nsI m) :: (L + 2, cellI v₀) :: l)) (hdl : (dl, lstI vs) ∈ l) (hp : p ≤ 3) (hv : vs[p]? = some v)
    (K : ∀ h' tk', Led h₀ h' ((L, nsI m) :: (L + 2, cellI (some v)) :: l) → QF .next { s with heap := h', toks := tk' }) :
    wpAny (model prog w) A (exec (grTurn.getD 1 noStmt) env) QF E s := by
  refine wpAny_Assign_Name (Subscript_ (nL H D (.head _) hd (wpAny_BinOp (nL H D (.head _) hm (wpAny_Constant_int (mod_int' (by decide) ?_))))))
  have e : (64 * (h : Int) + (p : Int)).fmod 64 = (p : Nat) := by
    rw [Int.fmod_eq_emod_of_nonneg _ (by decide)]; omega
  rw [e]
  obtain ⟨n, hl⟩ := (D.getM (.tail _ (.tail _ hdl))).lst
  refine item_list hl.isList (by omega) (by omega) (x := v) (by simpa using hv) ?_
  exact sC H D (i := 1) rfl fun h' D => K h' _ D
/-- for word in words: below.push_token(word) -/
theorem gr_back {B R : List (Addr × Itm)} {l₁ l₂ : List Desk} {X : LX} {ws : List Value} {Y : Addr} (G : Gr w mg mb h₀) (H : EF env grScope (grCells L) L) (hm : m (Str.ofString "words") = some (.ref Y))
    (D : Led h₀ s.heap ((L, nsI m) :: (Y, lstI ws) :: (L + 2, cellI (some (.ref X.o))) :: B ++ (desksE (l₁ ++ (X, []) :: l₂) ++ R))) (hA : A.depth < recursionLimit) (hsz : ws.length ≤ 1000) (hh : A.handled = none)
    (h : ∀ h' tk m', (∀ z, z ≠ Str.ofString "word" → m' z = m z) → Led h₀ h' ((L, nsI m') :: (Y, lstI ws) :: (L + 2, cellI (some (.ref X.o))) :: B ++ (desksE (l₁ ++ (X, ws) :: l₂) ++ R)) → QF .next { s with heap := h', toks := tk }) :
    wpAny (model prog w) A (exec (grTurn.getD 3 noStmt) env) QF E s := by
  have hL := H.lo
  subst hL
  refine wpAny_For (nL H D (.head _) hm (lit0 (ax := Y) (its := ws) D (.tail _ (.head _)) fun h1 tk1 it D1 => ?_))
  refine for_src (x := Str.ofString "word") (src_list hh) (fun i m' r => (∀ z, z ≠ Str.ofString "word" → m' z = m z) ∧ r = (Y, lstI ws) :: (env.locals + 2, cellI (some (.ref X.o))) :: B ++ (desksE (l₁ ++ (X, ws.take i) :: l₂) ++ R)) (H.k rfl) H.e4
    (D1.perm (.swap _ _ _)) ⟨fun _ _ => rfl, rfl⟩ (fun i m' r p q _ hJ => ⟨lstI ws, by rw [hJ.2]; exact .tail _ (.tail _ (.head _)), fun o ⟨n, e⟩ => by subst e; exact ⟨rfl, n, rfl⟩⟩) ?_ ?_
  · rintro i m' _ h2 tk2 v E' hi hv ⟨hm', rfl⟩ D2
    refine wpAny_execs_cons (wpAny_Expr (MethodCall_ (nC H D2 (c := env.locals + 2) (v := .ref X.o) (by simp) (m_push G D2 (desk_mem (A := _ :: _ :: _ :: _ :: B) (desk_x (X, ws.take i))) (desk_mem (A := _ :: _ :: _ :: _ :: B) (desk_d (X, ws.take i))) ?_))) ?_)
    · refine callD1 G (by kernel_rfl) (nL H D2 (.head _) (if_pos rfl) ⟨⟨_, D2⟩, ?_⟩)
      refine push_d (B := _ :: _ :: _ :: _ :: B) (ws := ws.take i) G D2 hA (by rw [List.length_take]; omega) fun h3 tk3 D3 => ?_
      refine wpAny_execs_nil ⟨rfl, h3, _, (fun z => if z = Str.ofString "word" then some v else m' z), _, rfl, ⟨fun z hz => (if_neg hz).trans (hm' z hz), rfl⟩, ?_⟩
      have hv' : ws[i] = v := by simpa [hi] using hv
      rw [List.take_succ_eq_append_getElem hi, hv']
      exact D3
    · unfold interactive; rw [H.k0]; rfl
  · rintro m' _ hh tk ⟨hm', rfl⟩ D2
    rw [List.take_length] at D2
    exact h hh tk m' hm' (D2.sub (.cons_cons _ (.cons _ (List.Sublist.refl _))))
end
end Mine
end
-- Gn3
section
open PySem PySem.W PyProof.Rows PySem.Calls
set_option Elab.async false
set_option maxRecDepth 100000
namespace Mine
def lineS (e : List Nat) (n : Nat) : Str := ⟨(List.replicate n 46 ++ e).toArray⟩
theorem line_join (e ns : List Nat) : Txt.join ⟨#[]⟩ (ns.map (lineS e)) = ⟨(mail e ns).toArray⟩ := by
  have := join_txt (ns.map fun n => List.replicate n 46 ++ e)
  rw [List.map_map] at this
  rw [show (ns.map (lineS e)) = List.map ((fun x : List Nat => (⟨x.toArray⟩ : Str)) ∘ fun n => List.replicate n 46 ++ e) ns from rfl, this, ← List.flatMap_def]
  rfl
theorem line_len (e ns : List Nat) : ((ns.map (lineS e)).map (·.length)).sum = (mail e ns).length := by
  unfold mail
  rw [List.length_flatMap, List.map_map]
  congr 1
theorem le_sum : ∀ {ns : List Nat} {i : Nat} (h : i < ns.length), ns[i] ≤ ns.sum
  | a :: ns, 0, _ => by simp
  | a :: ns, i + 1, h => by
    have := le_sum (ns := ns) (i := i) (by simpa using h)
    simp only [List.getElem_cons_succ, List.sum_cons]; omega
theorem strs_snoc : ∀ {vs : List Value} {ys : List Str} {y : Str} {t : Tok}, StrsAre vs ys → StrsAre (vs ++ [.str y t]) (ys ++ [y])
  | _, _, _, _, h => StrsAre.append' h (.cons _ _ .nil)
section
variable {w : World} {mg mb : Str → Option Value} {h₀ : Heap} {A : Around} {E : Value → Shared → Prop} {s : Shared} {QF : Flow → Shared → Prop} {l r : List (Addr × Itm)} {env : Env} {L : Addr} {m : Str → Option Value}
theorem back_call {pos : Pos} {f : Expr} {a : List Expr} {k : List Keyword} {p : Pos} : backTo pos (starEach [.Call f a k p] env) = [(false, eval (.Call f a k p) env)] := rfl
theorem gm_str {v : Value} {x : Str} {t : Tok} {name : Str} {id : String} {pl : Sem Bool} {Q : Value × List Value → Shared → Prop} (hv : v = .str x t) (slot : Slot "str" name id) (hty : typeOf (.builtin id) = pure (.type "method_descriptor")) (h : Q (.builtin id, [v]) s) :
    wpAny (model prog w) A (getMethod v name pl) Q E s :=
  getMethod_builtin (by rw [hv]; exact typeIs_str _ _ _) PySem.F.plainAttrs_str slot hty (fun a q => by rw [hv] at q; cases q) h
theorem type_enc : typeOf (.builtin "str.encode") = pure (.type "method_descriptor") := by show builtinType _ = _; rw [builtinType_eq_fast]; kernel_rfl
theorem slot_join' : Slot "str" (Str.ofString "join") "str.join" := PySem.F.slot_str_join
theorem slot_enc' : Slot "str" (Str.ofString "encode") "str.encode" := PySem.F.slot_str_encode
/-- octets = _fix_eols(''.join([word + end for word in words])).encode('ascii') -/
theorem gr_octets {Y : Addr} {ws : List Value} {ns e : List Nat} {te : Tok} (G : Gr w mg mb h₀) (H : EF env grScope (grCells L) L) (hm : m (Str.ofString "words") = some (.ref Y))
    (D : Led h₀ s.heap ((L, nsI m) :: (Y, lstI ws) :: (L + 1, cellI (some (.str ⟨e.toArray⟩ te))) :: l)) (hws : StrsAre ws (ns.map dotS)) (hns : ∀ k ∈ ns, 1 ≤ k) (hn : 1 ≤ ns.length) (he : isEnd e) (hz : ns.sum + 2 * ns.length ≤ 1000)
    (hA : A.depth < recursionLimit) (hh : A.handled = none)
    (K : ∀ h' tk tk', Led h₀ h' ((L, nsI fun z => if z = Str.ofString "octets" then some (rv 1 (mail [13, 10] ns) tk) else m z) :: (Y, lstI ws) :: (L + 1, cellI (some (.str ⟨e.toArray⟩ te))) :: l) → QF .next { s with heap := h', toks := tk' }) :
    wpAny (model prog w) A (exec (grTurn.getD 4 noStmt) env) QF E s := by
  have hL := H.lo
  subst hL
  have hlen : ws.length = ns.length := by have := hws.length; simpa using this
  have he2 : 1 ≤ e.length ∧ e.length ≤ 2 := by rcases he with rfl | rfl | rfl <;> decide
  have hml : (mail e ns).length ≤ 1000 := by
    rw [mail_len]
    have : e.length * ns.length ≤ 2 * ns.length := Nat.mul_le_mul_right _ he2.2
    omega
  have hml2 : (mail [13, 10] ns).length ≤ 1000 := by rw [mail_len]; exact hz
  have hkk : keepIn (Mine.hd.heap_39 w.params) (.ref 55) = true := by kernel_rfl
  refine wpAny_Assign_Name ?_
  refine MethodCall_ ?_
  refine wpAny_Call_NameR ?_
  refine nG H G D (v := .ref 55) (by kernel_rfl) ?_
  with_reducible refine callD1 G hkk ?_ back_call
  refine MethodCall_ ?_
  refine wpAny_Constant_str ?_
  with_reducible refine gm_str rfl slot_join' PySem.F.type_str_join ?_
  refine callB1 ?_
  refine comp_eval (h₀ := h₀) [(Str.ofString "end", env.locals + 1)] none (H.clos rfl) (fun _ _ => rfl) (fun _ => rfl) rfl (by decide) ?_
  refine nL H D (.head _) hm (lit0 (ax := Y) (its := ws) D (.tail _ (.head _)) fun h1 tk1 it D1 => ?_)
  refine ⟨_, _, _, _, CompAt.src0 (src_list (ax := Y) (its := ws) hh) (fun i ys r => StrsAre ys ((ns.take i).map (lineS e)) ∧ r = (env.locals, nsI m) :: (Y, lstI ws) :: (env.locals + 1, cellI (some (.str ⟨e.toArray⟩ te))) :: l) rfl rfl D1 ⟨.nil, rfl⟩
    (fun i ys r p q t _ hJ => ⟨lstI ws, by rw [hJ.2]; exact .tail _ (.tail _ (.tail _ (.tail _ (.head _)))), fun o ⟨n, e⟩ => by subst e; exact ⟨rfl, n, rfl⟩⟩) (by omega) ?_, ?_⟩
  · rintro C Dd i ys _ h2 tk2 m2 v E' hi hv ⟨hys, rfl⟩ hl D2 HC
    replace HC := HC _ _ _ H
    have hin : i < ns.length := by omega
    obtain ⟨t, ht⟩ := hws.get i (dotS ns[i]) (by simp [hin])
    have : v = .str (dotS ns[i]) t := by rw [hv] at ht; exact Option.some.inj ht
    subst this
    refine wpAny_BinOp (nL HC D2 (.head _) (if_pos rfl) (nC HC D2 (c := env.locals + 1) (v := .str ⟨e.toArray⟩ te) (.tail _ (.tail _ (.tail _ (.tail _ (.tail _ (.head _)))))) (add_str (fun t' tk => ?_) ?_)))
    · refine ⟨_, _, _, _, rfl, ⟨?_, rfl⟩, D2⟩
      have e1 : dotS ns[i] ++ (⟨e.toArray⟩ : Str) = lineS e ns[i] := by
        show Str.append _ _ = _
        unfold Str.append dotS lineS
        simp
      rw [e1, List.take_succ_eq_append_getElem hin, List.map_append]
      exact strs_snoc hys
    · have : ns[i] ≤ ns.sum := le_sum hin
      show (List.replicate ns[i] 46).toArray.size + e.toArray.size ≤ _
      rw [List.size_toArray, List.size_toArray, List.length_replicate, sizeLine_eq]; omega
  · rintro Y2 h2 tk2 ys _ D2 ⟨_, rfl, hl, hys, rfl⟩
    rw [hlen, List.take_length] at hys
    obtain ⟨n2, hl2⟩ := (D2.get 0 rfl).lst
    refine join_list (ys := ns.map (lineS e)) hl2.isList hys ?_ fun t' k => ?_
    · rw [line_len]
      have : (Str.ofString "").length = 0 := by decide
      rw [this, Nat.mul_zero]; omega
    rw [show Txt.join (Str.ofString "") (ns.map (lineS e)) = _ from line_join e ns]
    have D3 : Led h₀ h2 ((env.locals, nsI m) :: (Y, lstI ws) :: (env.locals + 1, cellI (some (.str ⟨e.toArray⟩ te))) :: l) := D2.sub (.cons _ (.cons _ (List.Sublist.refl _)))
    refine ⟨⟨_, D3⟩, ?_⟩
    refine fix_ct (t := t') G D3 hA he hns (by omega) hn fun hh tk tt D4 => ?_
    show wpAny _ _ (getMethod (.str ⟨(mail [13, 10] ns).toArray⟩ tk) _ _) _ _ _
    with_reducible refine gm_str rfl slot_enc' type_enc ?_
    refine callB1 ?_
    refine wpAny_Constant_str ?_
    refine enc_ct (t := tk) (fun x hx => ?_) (by omega) fun tk tt => ?_
    · rcases mail_mem hx with rfl | hx'
      · decide
      · simp at hx'; omega
    · exact sL H D4 fun h' D => K _ _ _ D
end
end Mine
end
-- Gn4
section
open PySem PySem.W PyProof.Rows PySem.Calls
set_option Elab.async false
set_option maxRecDepth 100000
namespace Mine
section
variable {w : World} {mg mb : Str → Option Value} {h₀ : Heap} {A : Around} {E : Value → Shared → Prop} {s : Shared} {QF : Flow → Shared → Prop} {l r : List (Addr × Itm)} {env : Env} {L : Addr} {m : Str → Option Value}
theorem sum_map_add (k : Nat) : ∀ ns : List Nat, (ns.map (· + k)).sum = ns.sum + k * ns.length
  | [] => by simp
  | n :: ns => by
    have := sum_map_add k ns
    simp only [List.map_cons, List.sum_cons, List.length_cons, Nat.mul_succ] at this ⊢
    rw [this]; omega
theorem quote_any {ns : List Nat} {t : Tok} {Q : Value → Shared → Prop} {v : Value} (hv : v = rv 1 (mail [13, 10] ns) t) (G : Gr w mg mb h₀) (D : Led h₀ s.heap r) (hA : A.depth < recursionLimit) (hns : ∀ k ∈ ns, 1 ≤ k) (hn : 1 ≤ ns.length) (hz : ns.sum + 3 * ns.length ≤ 1000)
    (h : ∀ hh tk tt, Led h₀ hh r → Q (rv 1 (mail [13, 10] (ns.map (· + 1))) tk) { s with heap := hh, toks := tt }) : wpAny (model prog w) A (call (.ref 48) [v]) Q E s := by
  subst hv
  match ns, hns, hn, hz, h with
  | a :: ns, hns, hn, hz, h =>
    obtain ⟨a, rfl⟩ : ∃ k, a = k + 1 := ⟨a - 1, by have := hns a (by simp); omega⟩
    refine quote_ct G D hA (fun k hk => hns k (by simp [hk])) ?_ (by simp at hz; omega) h
    rw [mail_len, sum_map_add, List.length_map]
    show _ + 2 * _ ≤ _
    omega
/-- for hour in range(hung // 64): octets = _quote_periods(octets) -/
theorem gr_hours {ns : List Nat} {h p : Nat} {t to : Tok} (G : Gr w mg mb h₀) (H : EF env grScope (grCells L) L) (hm : m (Str.ofString "hung") = some (.int (64 * (h : Int) + (p : Int)) t)) (ho : m (Str.ofString "octets") = some (rv 1 (mail [13, 10] ns) to))
    (D : Led h₀ s.heap ((L, nsI m) :: l)) (hns : ∀ k ∈ ns, 1 ≤ k) (hn : 1 ≤ ns.length) (hp : p ≤ 3) (hh3 : h ≤ 3) (hz : ns.sum + 6 * ns.length ≤ 1000) (hA : A.depth < recursionLimit) (hh : A.handled = none)
    (K : ∀ h' m' tk tk', (∀ z, z ≠ Str.ofString "hour" → z ≠ Str.ofString "octets" → m' z = m z) → m' (Str.ofString "octets") = some (rv 1 (mail [13, 10] (ns.map (· + h))) tk) → Led h₀ h' ((L, nsI m') :: l) → QF .next { s with heap := h', toks := tk' }) :
    wpAny (model prog w) A (exec (grTurn.getD 5 noStmt) env) QF E s := by
  have hL := H.lo
  subst hL
  have hkk : keepIn (Mine.hd.heap_39 w.params) (.ref 48) = true := by kernel_rfl
  refine wpAny_For ?_
  refine wpAny_Call_NameR ?_
  refine nB H G D (by kernel_rfl) (v := .type "range") (by kernel_rfl) ?_
  refine callT1 (wpAny_BinOp (nL H D (.head _) hm (wpAny_Constant_int (floordiv_int (by decide) ?_ (.inl ?_)))))
  · have e : (64 * (h : Int) + (p : Int)).fdiv 64 = (h : Nat) := by
      rw [Int.fdiv_eq_ediv_of_nonneg _ (by decide)]; omega
    rw [e]
    refine rng1 D (by omega) fun h1 tk1 it D1 => ?_
    refine for_src (x := Str.ofString "hour") (src_range hh) (fun i m' r => (∀ z, z ≠ Str.ofString "hour" → z ≠ Str.ofString "octets" → m' z = m z) ∧ (∃ tk, m' (Str.ofString "octets") = some (rv 1 (mail [13, 10] (ns.map (· + i))) tk)) ∧ r = l) (H.k rfl) H.e4
      (D1.perm (.swap _ _ _)) ⟨fun _ _ _ => rfl, ⟨to, by simpa using ho⟩, rfl⟩ (fun _ _ _ _ _ _ _ => trivial) ?_ ?_
    · rintro i m' _ h2 tk2 v E' hi hv ⟨hm', ⟨t2, ho2⟩, rfl⟩ D2
      refine wpAny_execs_cons ?_
      refine wpAny_Assign_Name ?_
      refine wpAny_Call_NameR ?_
      refine nG H G D2 (v := .ref 48) (by kernel_rfl) ?_
      refine callD1 G hkk (nL H D2 (.head _) ((if_neg (by decide)).trans ho2) ⟨⟨_, D2⟩, ?_⟩)
      refine quote_any rfl G D2 hA (fun k hk => ?_) (by simpa using hn) ?_ fun h3 tk tt D3 => ?_
      · obtain ⟨k', _, rfl⟩ := List.mem_map.mp hk
        have := hns k' (by assumption); omega
      · rw [sum_map_add, List.length_map]
        have : i * ns.length ≤ 3 * ns.length := Nat.mul_le_mul_right _ (by omega)
        omega
      · refine sL H D3 fun h4 D4 => wpAny_execs_nil ⟨rfl, h4, _, (fun z => if z = Str.ofString "octets" then some (rv 1 (mail [13, 10] (List.map (· + 1) (ns.map (· + i)))) tk) else if z = Str.ofString "hour" then some v else m' z), _, rfl, ⟨fun z h1 h2 => (if_neg h2).trans ((if_neg h1).trans (hm' z h1 h2)), ⟨tk, ?_⟩, rfl⟩, D4⟩
        refine (if_pos rfl).trans ?_
        rw [List.map_map]; rfl
    · rintro m' _ hh tk ⟨hm', ⟨t2, ho2⟩, rfl⟩ D2
      exact K hh m' _ tk hm' ho2 (D2.sub (.cons_cons _ (.cons _ (List.Sublist.refl _))))
  · exact PyProof.noPylong_small (by omega)
end
end Mine
end
-- Gn5
section
open PySem PySem.W PyProof.Rows PySem.Calls
set_option Elab.async false
set_option maxRecDepth 100000
namespace Mine
theorem plainAttrs_by : PlainAttrs "bytes" := FB.plainAttrs_bytes
theorem type_dec : typeOf (.builtin "bytes.decode") = pure (.type "method_descriptor") := by show builtinType _ = _; rw [builtinType_eq_fast]; kernel_rfl
theorem slot_dec' : Slot "bytes" (Str.ofString "decode") "bytes.decode" := FB.slot_bytes_decode
section
variable {w : World} {mg mb : Str → Option Value} {h₀ : Heap} {A : Around} {E : Value → Shared → Prop} {s : Shared} {Q : Value → Shared → Prop} {QF : Flow → Shared → Prop} {l r : List (Addr × Itm)} {env : Env} {L : Addr} {m : Str → Option Value}
theorem gm_bytes {v : Value} {x : Array UInt8} {t : Tok} {name : Str} {id : String} {pl : Sem Bool} {Q : Value × List Value → Shared → Prop} (hv : v = .bytes x t) (slot : Slot "bytes" name id) (hty : typeOf (.builtin id) = pure (.type "method_descriptor")) (h : Q (.builtin id, [v]) s) :
    wpAny (model prog w) A (getMethod v name pl) Q E s :=
  getMethod_builtin (by rw [hv]; exact typeIs_bytes _ _ _) plainAttrs_by slot hty (fun a q => by rw [hv] at q; cases q) h
/-- _law_lexer where the table is anywhere in the ledger -/
theorem lexer_any {c c2 : Addr} {x : Str} {tx : Tok} {v : Value} {r : List (Addr × Itm)} (hv : v = .str x tx) (G : Gr w mg mb h₀) (D : Led h₀ s.heap l) (hp : l.Perm (tabE (some (c, c2)) ++ r)) (hA : A.depth + 2 < recursionLimit)
    (h : ∀ h' tk' X, X.c = c → Led h₀ h' (lexE X x 0 1 [] ++ l) → Q (.ref X.o) { s with heap := h', toks := tk' }) :
    wpAny (model prog w) A (call (.ref 111) [v]) Q E s := by
  subst hv
  exact lexer_next G (D.perm hp) hA fun h' tk' X hX D' => h h' tk' X hX (D'.perm (hp.symm.append_left _))
/-- reader = _law_lexer(octets.decode('ascii')) -/
theorem gr_reader {c c2 : Addr} {r : List (Addr × Itm)} {ls : List Nat} {to : Tok} (G : Gr w mg mb h₀) (H : EF env grScope (grCells L) L) (ho : m (Str.ofString "octets") = some (rv 1 ls to)) (hls : ∀ x ∈ ls, x < 128) (hz : ls.length ≤ 1000) (hn : ls ≠ [])
    (D : Led h₀ s.heap ((L, nsI m) :: l)) (hp : l.Perm (tabE (some (c, c2)) ++ r)) (hA : A.depth + 2 < recursionLimit)
    (K : ∀ h' tk' X, X.c = c → Led h₀ h' ((L, nsI fun z => if z = Str.ofString "reader" then some (.ref X.o) else m z) :: (lexE X ⟨ls.toArray⟩ 0 1 [] ++ l)) → QF .next { s with heap := h', toks := tk' }) :
    wpAny (model prog w) A (exec (grTurn.getD 6 noStmt) env) QF E s := by
  have hL := H.lo
  subst hL
  have hkk : keepIn (Mine.hd.heap_39 w.params) (.ref 111) = true := by kernel_rfl
  refine wpAny_Assign_Name ?_
  refine wpAny_Call_NameR ?_
  refine nG H G D (v := .ref 111) (by kernel_rfl) ?_
  with_reducible refine callD1 G hkk ?_ back_call
  refine MethodCall_ ?_
  refine nL H D (.head _) ho ?_
  with_reducible refine gm_bytes (x := byt ls) (t := to) rfl slot_dec' type_dec ?_
  refine callB1 ?_
  refine wpAny_Constant_str ?_
  refine dec_ct (t := to) hls (by omega) hn fun tk tt => ?_
  refine ⟨⟨_, D⟩, ?_⟩
  refine lexer_any (x := ⟨ls.toArray⟩) (tx := tk) rfl G D ((List.Perm.cons _ hp).trans (List.perm_middle (l₁ := tabE (some (c, c2)))).symm) hA fun h' tk' X hX D2 => ?_
  exact sL H (D2.perm List.perm_middle) fun h'' D3 => K _ _ X hX D3
/-- fresh = _law_lexer('') -/
theorem gr_fresh {c c2 : Addr} {r : List (Addr × Itm)} (G : Gr w mg mb h₀) (H : EF env grScope (grCells L) L)
    (D : Led h₀ s.heap ((L, nsI m) :: l)) (hp : l.Perm (tabE (some (c, c2)) ++ r)) (hA : A.depth + 2 < recursionLimit)
    (K : ∀ h' tk' X, X.c = c → Led h₀ h' ((L, nsI fun z => if z = Str.ofString "fresh" then some (.ref X.o) else m z) :: (lexE X Str.empty 0 1 [] ++ l)) → QF .next { s with heap := h', toks := tk' }) :
    wpAny (model prog w) A (exec (grTurn.getD 7 noStmt) env) QF E s := by
  have hL := H.lo
  subst hL
  have hkk : keepIn (Mine.hd.heap_39 w.params) (.ref 111) = true := by kernel_rfl
  refine wpAny_Assign_Name ?_
  refine wpAny_Call_NameR ?_
  refine nG H G D (v := .ref 111) (by kernel_rfl) ?_
  refine callD1 G hkk (wpAny_Constant_str ⟨⟨_, D⟩, ?_⟩)
  refine lexer_any (x := Str.empty) rfl G D ((List.Perm.cons _ hp).trans (List.perm_middle (l₁ := tabE (some (c, c2)))).symm) hA fun h' tk' X hX D2 => ?_
  exact sL H (D2.perm List.perm_middle) fun h'' D3 => K _ _ X hX D3
end
end Mine
end
-- Gn6
section
open PySem PySem.W PyProof.Rows PySem.Calls
set_option Elab.async false
set_option maxRecDepth 100000
namespace Mine
def told1 (d : Desk) (v : Value) : Desk := (d.1, d.2 ++ [v])
theorem zip_snoc {α β γ : Type} (g : α → β → γ) : ∀ (ds : List α) (fs : List β) (v : β) (h : fs.length < ds.length), List.zipWith g ds (fs ++ [v]) = List.zipWith g ds fs ++ [g ds[fs.length] v]
  | d :: ds, [], v, _ => by simp
  | d :: ds, f :: fs, v, h => by
    have := zip_snoc g ds fs v (by simpa using h)
    simp only [List.cons_append, List.zipWith_cons_cons, List.length_cons, List.getElem_cons_succ, this]
/-- what is left of a mail when i words are read -/
def tailM (ns : List Nat) (i : Nat) : List Nat := if i = 0 then mail [13, 10] ns else 10 :: mail [13, 10] (ns.drop i)
theorem tailM_at {ns : List Nat} {i : Nat} (h : i < ns.length) : ∃ W, isWs W ∧ tailM ns i = W ++ (List.replicate ns[i] 46 ++ 13 :: tailM ns (i + 1)) ∧ (1 + ((i - 1 : Nat) : Int)) + nl W + nl [13] = 1 + ((i + 1 - 1 : Nat) : Int) := by
  have e : mail [13, 10] (ns.drop i) = List.replicate ns[i] 46 ++ 13 :: (10 :: mail [13, 10] (ns.drop (i + 1))) := by
    unfold mail
    rw [List.drop_eq_getElem_cons h, List.flatMap_cons, List.append_assoc]
    rfl
  have e2 : tailM ns (i + 1) = 10 :: mail [13, 10] (ns.drop (i + 1)) := by unfold tailM; rw [if_neg (by omega)]
  rcases Nat.eq_zero_or_pos i with rfl | hi
  · refine ⟨[], by intro a ha; simp at ha, ?_, by decide⟩
    rw [e2]; unfold tailM; rw [if_pos rfl]
    rw [List.drop_zero] at e; exact e
  · refine ⟨[10], by intro a ha; simp at ha; exact .inl ha, ?_, ?_⟩
    · rw [e2]; unfold tailM; rw [if_neg (by omega), e]; rfl
    · have : nl [10] = 1 := by decide
      have : nl [13] = 0 := by decide
      omega
section
variable {w : World} {mg mb : Str → Option Value} {h₀ : Heap} {A : Around} {E : Value → Shared → Prop} {s : Shared} {Q : Value → Shared → Prop} {QF : Flow → Shared → Prop} {l r : List (Addr × Itm)} {env : Env} {L : Addr} {m : Str → Option Value}
/-- reader.get_token() where the reader lies behind some entries -/
theorem read_d {P B : List (Addr × Itm)} {X : LX} {x : Str} {i : Nat} {line : Int} (G : Gr w mg mb h₀) (D : Led h₀ s.heap (P ++ (lexE X x i line [] ++ B))) (hcd : (X.c, codI rdQual) ∈ P ++ B) (hA : A.depth + 2 < recursionLimit) (hh : A.handled = none) (hx : x.length ≤ 1000)
    (W U R' : List Nat) (c : Nat) (hW : isWs W) (hU : ∀ a ∈ U, a = 46) (hU0 : U ≠ []) (hc : c = 10 ∨ c = 13) (hT : x.cps.toList.drop i = W ++ (U ++ c :: R'))
    (h : ∀ h' tk tk' j, x.cps.toList.drop j = R' → Led h₀ h' (P ++ (lexE X x j (line + nl W + nl [c]) [] ++ B)) → Q (.str ⟨U.toArray⟩ tk) { s with heap := h', toks := tk' }) :
    wpAny (model prog w) A (call (.ref 90) [.ref X.o]) Q E s := by
  refine gt_word G (D.perm (List.perm_append_comm_assoc P (lexE X x i line []) B)) hcd hA hh hx W U R' c hW hU hU0 hc hT fun h' tk tk' D2 => ?_
  refine h h' tk tk' _ ?_ (D2.perm (List.perm_append_comm_assoc P _ B).symm)
  rw [Nat.add_assoc, Nat.add_assoc, ← List.drop_drop, hT, ← Nat.add_assoc, ← List.drop_drop, ← List.drop_drop, List.drop_left' rfl, List.drop_left' rfl]
  rfl
/-- for desk in desks: word = reader.get_token(); desk.push_token(word); fresh.push_token(word) -/
theorem gr_desks {c : Addr} {B R : List (Addr × Itm)} {X F : LX} {ds : List Desk} {ns : List Nat} {dl : Addr} {x : Str} (G : Gr w mg mb h₀) (H : EF env grScope (grCells L) L) (hr : m (Str.ofString "reader") = some (.ref X.o)) (hf : m (Str.ofString "fresh") = some (.ref F.o)) (hd : m (Str.ofString "desks") = some (.ref dl))
    (hx : x = ⟨(mail [13, 10] ns).toArray⟩) (hz : (mail [13, 10] ns).length ≤ 1000) (hns : ∀ k ∈ ns, 1 ≤ k) (hlen : ds.length = ns.length) (hk1 : 1 ≤ ns.length) (hk : ns.length ≤ 10) (hws : ∀ d ∈ ds, d.2.length ≤ 100) (hc : X.c = c) (hcd : (c, codI rdQual) ∈ R) (hdl : (dl, lstI (ds.map fun d => .ref d.1.o)) ∈ B)
    (D : Led h₀ s.heap ((L, nsI m) :: (lexE X x 0 1 [] ++ (B ++ (desksE (ds ++ [(F, [])]) ++ R))))) (hA : A.depth + 2 < recursionLimit) (hh : A.handled = none)
    (K : ∀ h' m' fs j tk', (∀ z, z ≠ Str.ofString "word" → z ≠ Str.ofString "desk" → m' z = m z) → StrsAre fs (ns.map dotS) → x.cps.toList.drop j = [10] →
      Led h₀ h' ((L, nsI m') :: (lexE X x j (ns.length : Nat) [] ++ (B ++ (desksE (List.zipWith told1 ds fs ++ [(F, fs)]) ++ R)))) → QF .next { s with heap := h', toks := tk' }) :
    wpAny (model prog w) A (exec (grTurn.getD 8 noStmt) env) QF E s := by
  have hL := H.lo
  subst hL
  refine wpAny_For (nL H D (.head _) hd (lit0 (ax := dl) (its := ds.map fun d => .ref d.1.o) D (.tail _ (List.mem_append_right _ (List.mem_append_left _ hdl))) fun h1 tk1 it D1 => ?_))
  refine for_src (x := Str.ofString "desk") (src_list (ax := dl) (its := ds.map fun d => .ref d.1.o) hh) (fun i m' r => (∀ z, z ≠ Str.ofString "word" → z ≠ Str.ofString "desk" → m' z = m z) ∧ ∃ fs j, r = lexE X x j (1 + ((i - 1 : Nat) : Int)) [] ++ (B ++ (desksE (List.zipWith told1 ds fs ++ (ds.drop i ++ [(F, fs)])) ++ R)) ∧
      StrsAre fs ((ns.take i).map dotS) ∧ x.cps.toList.drop j = tailM ns i) (H.k rfl) H.e4
    (D1.perm (.swap _ _ _)) ⟨fun _ _ _ => rfl, [], 0, by simp, .nil, by subst hx; rfl⟩ ?_ ?_ ?_
  · rintro i m' _ p q _ ⟨_, fs, j, rfl, _⟩
    exact ⟨lstI _, .tail _ (.tail _ (List.mem_append_right _ (List.mem_append_left _ hdl))), fun o ⟨n, e⟩ => by subst e; exact ⟨rfl, n, rfl⟩⟩
  · rintro i m' _ h2 tk2 v E' hi hv ⟨hm', fs, j, rfl, hfs, hT⟩ D2
    have hi' : i < ds.length := by simpa using hi
    have hin : i < ns.length := by omega
    have hv' : v = .ref ds[i].1.o := by simpa [hi'] using hv.symm
    subst hv'
    have hfl : fs.length = i := by have := hfs.length; simp at this; omega
    obtain ⟨W, hW, hT2, hln⟩ := tailM_at hin
    have hni := hns ns[i] (List.getElem_mem hin)
    have hxl : x.length ≤ 1000 := by subst hx; simpa [Str.length] using hz
    have hdm : m' (Str.ofString "reader") = some (.ref X.o) := (hm' _ (by decide) (by decide)).trans hr
    have hfm : m' (Str.ofString "fresh") = some (.ref F.o) := (hm' _ (by decide) (by decide)).trans hf
    refine wpAny_execs_cons (wpAny_Assign_Name (MethodCall_ (nL H D2 (.head _) ((if_neg (by decide)).trans hdm) ?_)))
    refine m_get (X := X) (line := 1 + ((i - 1 : Nat) : Int)) G D2 (.tail _ (.tail _ (List.mem_append_left _ (List.mem_of_getElem? (i := 0) rfl)))) (.tail _ (.tail _ (List.mem_append_left _ (List.mem_of_getElem? (i := 1) rfl)))) ?_
    refine callD0 G D2 (by kernel_rfl) ?_
    refine read_d (P := [_, _]) G D2 (by simp [hc, hcd]) hA hh hxl W (List.replicate ns[i] 46) (tailM ns (i + 1)) 13 hW (fun a ha => (List.mem_replicate.mp ha).2) (by intro q; have := congrArg List.length q; simp at this; omega) (.inr rfl) (by rw [hT, hT2]) fun h3 tk3 tk4 j3 hT3 D3 => ?_
    rw [hln] at D3
    generalize hu : Value.str _ tk3 = u
    refine sL H D3 fun h4 D4 => ?_
    have hi4 : interactive env = false := by unfold interactive; rw [H.k0]; rfl
    have e1 : ds.drop i ++ [(F, fs)] = ds[i] :: (ds.drop (i + 1) ++ [(F, fs)]) := by rw [List.drop_eq_getElem_cons hi']; rfl
    rw [e1] at D4
    -- desk.push_token(word)
    refine wpAny_execs_cons (wpAny_Expr (MethodCall_ (nL H D4 (.head _) (v := .ref ds[i].1.o) ((if_neg (by decide)).trans (if_pos rfl)) ?_)) hi4)
    refine m_push (X := ds[i].1) (line := 1) G D4 (.tail _ (.tail _ (List.mem_append_right (lexE X x j3 (1 + ((i + 1 - 1 : Nat) : Int)) []) (desk_mem (desk_x ds[i]))))) (.tail _ (.tail _ (List.mem_append_right (lexE X x j3 (1 + ((i + 1 - 1 : Nat) : Int)) []) (desk_mem (desk_d ds[i]))))) ?_
    refine callD1 G (by kernel_rfl) (nL H D4 (.head _) (if_pos rfl) ⟨⟨_, D4⟩, ?_⟩)
    refine push_d (B := _ :: _ :: (lexE X x j3 (1 + ((i + 1 - 1 : Nat) : Int)) [] ++ B)) (l₁ := List.zipWith told1 ds fs) (l₂ := ds.drop (i + 1) ++ [(F, fs)]) (X := ds[i].1) (ws := ds[i].2) G D4 (by omega) (by have := hws ds[i] (List.getElem_mem hi'); omega) fun h5 tk5 D5 => ?_
    -- fresh.push_token(word)
    have e2 : ∀ v : Value, List.zipWith told1 ds fs ++ (ds[i].1, ds[i].2 ++ [v]) :: (ds.drop (i + 1) ++ [(F, fs)]) = (List.zipWith told1 ds (fs ++ [v]) ++ ds.drop (i + 1)) ++ (F, fs) :: [] := by
      intro v
      rw [zip_snoc _ _ _ _ (by omega)]
      simp [told1, hfl]
    rw [e2] at D5
    refine wpAny_execs_cons (wpAny_Expr (MethodCall_ (nL H D5 (.head _) (v := .ref F.o) ((if_neg (by decide)).trans ((if_neg (by decide)).trans hfm)) ?_)) hi4)
    refine m_push (X := F) (line := 1) G D5 (.tail _ (.tail _ (List.mem_append_right (lexE X x j3 (1 + ((i + 1 - 1 : Nat) : Int)) []) (desk_mem (desk_x (F, fs)))))) (.tail _ (.tail _ (List.mem_append_right (lexE X x j3 (1 + ((i + 1 - 1 : Nat) : Int)) []) (desk_mem (desk_d (F, fs)))))) ?_
    refine callD1 G (by kernel_rfl) (nL H D5 (.head _) (if_pos rfl) ⟨⟨_, D5⟩, ?_⟩)
    refine push_d (B := _ :: _ :: (lexE X x j3 (1 + ((i + 1 - 1 : Nat) : Int)) [] ++ B)) (l₁ := List.zipWith told1 ds (fs ++ [u]) ++ ds.drop (i + 1)) (l₂ := []) (X := F) (ws := fs) G D5 (by omega) (by omega) fun h6 tk6 D6 => ?_
    refine wpAny_execs_nil ⟨rfl, h6, _, (fun z => if z = Str.ofString "word" then some u else if z = Str.ofString "desk" then some (.ref ds[i].1.o) else m' z), _, rfl, ⟨fun z h1 h2 => (if_neg h1).trans ((if_neg h2).trans (hm' z h1 h2)), fs ++ [u], j3, rfl, ?_, hT3⟩, ?_⟩
    · rw [List.take_succ_eq_append_getElem hin, List.map_append]
      rw [← hu]
      exact strs_snoc (y := dotS ns[i]) hfs
    · rw [List.append_assoc] at D6
      exact D6
  · rintro m' _ hh tk ⟨hm', fs, j, rfl, hfs, hT⟩ D2
    rw [List.length_map, hlen] at hfs hT D2
    rw [List.take_length] at hfs
    have hT' : x.cps.toList.drop j = [10] := by rw [hT]; unfold tailM; rw [if_neg (by omega), List.drop_length]; rfl
    have e3 : (1 + ((ns.length - 1 : Nat) : Int)) = (ns.length : Nat) := by omega
    have e4 : ds.drop ns.length = [] := by rw [← hlen]; exact List.drop_length
    rw [e3, e4] at D2
    exact K hh m' fs j tk hm' hfs hT' (D2.sub (.cons_cons _ (.cons _ (List.Sublist.refl _))))
end
end Mine
end
-- Gn7
section
open PySem PySem.W PyProof.Rows PySem.Calls
set_option Elab.async false
set_option maxRecDepth 100000
namespace Mine
def tupI (vs : List Value) : Itm := fun o => ∃ n, o = { cls := .type "tuple", data := .seq vs.toArray n }
section
variable {w : World} {mg mb : Str → Option Value} {h₀ : Heap} {A : Around} {E : Value → Shared → Prop} {s : Shared} {Q : Value → Shared → Prop} {QF : Flow → Shared → Prop} {l r : List (Addr × Itm)} {env : Env} {L : Addr} {m : Str → Option Value}
theorem gm_list {v : Value} {a : Addr} {its : List Value} {name : Str} {id : String} {pl : Sem Bool} {Q : Value × List Value → Shared → Prop} (hv : v = .ref a) (D : Led h₀ s.heap l) (hm : (a, lstI its) ∈ l) (slot : Slot "list" name id) (hty : typeOf (.builtin id) = pure (.type "method_descriptor"))
    (h : Q (.builtin id, [v]) s) : wpAny (model prog w) A (getMethod v name pl) Q E s := by
  obtain ⟨n, hl⟩ := (D.getM hm).lst
  exact getMethod_builtin (by rw [hv]; exact ⟨_, hl, rfl⟩) PySem.F.plainAttrs_list slot hty (fun b q => by rw [hv] at q; cases q; exact ⟨_, hl, rfl⟩) h
theorem slot_app' : Slot "list" (Str.ofString "append") "list.append" := PySem.F.slot_list_append
/-- xs.append(v) of a list of the ledger -/
theorem app_l {a : Addr} {its : List Value} {v : Value} {i : Nat} (D : Led h₀ s.heap l) (hi : l[i]? = some (a, lstI its)) (hz : its.length ≤ 1000) (h : ∀ h', Led h₀ h' (l.set i (a, lstI (its ++ [v]))) → Q .none { s with heap := h' }) :
    wpAny (model prog w) A (call (.builtin "list.append") [.ref a, v]) Q E s := by
  obtain ⟨n, hl⟩ := (D.get i hi).lst
  refine wpAny_list_append_plain (hsz := by rw [List.size_toArray, sizeLine_eq]; omega) ⟨n, hl⟩ fun h5 hl5 hs5 => ?_
  obtain ⟨n5, hl5⟩ := hl5
  exact h h5 (D.same i hi hs5 (At.of_lst (n := n5) (by rw [show (its ++ [v]).toArray = its.toArray.push v by simp]; exact hl5)))
theorem tuple2 {M : Model} {e e₂ : Expr} {k : Nat} {pos : Pos} (h : wpAny M A (eval e env) (fun v s₁ => wpAny M A (eval e₂ env) (fun v₂ s₂ => Q (.ref s₂.heap.objs.size) { s₂ with heap := s₂.heap.push { cls := .type "tuple", data := .seq [v, v₂].toArray } }) E s₁) E s)
    (he : backTo pos (starEach [e, e₂] env) = [(false, eval e env), (false, eval e₂ env)] := by rfl) : wpAny M A (eval (.Tuple [e, e₂] k pos) env) Q E s := by
  refine wpAny_Tuple ?_
  rw [he]
  exact spliced_cons (wpAny_mono h (fun v s₁ q => spliced_cons (wpAny_mono q (fun v₂ s₂ q => spliced_nil ⟨by show 2 ≤ sizeLine; rw [sizeLine_eq]; decide, q⟩) fun _ _ x => x)) fun _ _ x => x)
/-- fresh.push_token('.'); desks.append(fresh); ends.append((reader.get_token(), reader.lineno)) -/
theorem gr_tail {c : Addr} {B R : List (Addr × Itm)} {X F : LX} {ds : List Desk} {dl el : Addr} {dv ev fs : List Value} {x : Str} {j n : Nat} (G : Gr w mg mb h₀) (H : EF env grScope (grCells L) L) (hr : m (Str.ofString "reader") = some (.ref X.o)) (hf : m (Str.ofString "fresh") = some (.ref F.o)) (hd : m (Str.ofString "desks") = some (.ref dl)) (he : m (Str.ofString "ends") = some (.ref el))
    (hx : x.length ≤ 1000) (hj : x.cps.toList.drop j = [10]) (hc : X.c = c) (hcd : (c, codI rdQual) ∈ R) (hfs : fs.length ≤ 100) (hdv : dv.length ≤ 100) (hev : ev.length ≤ 100)
    (D : Led h₀ s.heap ((L, nsI m) :: (lexE X x j (n : Nat) [] ++ ((dl, lstI dv) :: (el, lstI ev) :: B ++ (desksE (ds ++ [(F, fs)]) ++ R))))) (hA : A.depth + 2 < recursionLimit) (hh : A.handled = none)
    (K : ∀ h' te t1 t2 t3 tk', Led h₀ h' ((L, nsI m) :: (dl, lstI (dv ++ [.ref F.o])) :: (el, lstI (ev ++ [.ref te])) :: (te, tupI [.str Str.empty t1, .int ((n + 1 : Nat) : Int) t2]) :: B ++ (desksE (ds ++ [(F, fs ++ [.str (dotS 1) t3])]) ++ R)) → QF .next { s with heap := h', toks := tk' }) :
    wpAny (model prog w) A (execs (grTurn.drop 9) env) QF E s := by
  have hL := H.lo
  subst hL
  have hi4 : interactive env = false := by unfold interactive; rw [H.k0]; rfl
  refine wpAny_execs_cons (wpAny_Expr (MethodCall_ (nL H D (.head _) (v := .ref F.o) hf ?_)) hi4)
  refine m_push (X := F) (line := 1) G D (.tail _ (List.mem_append_right (lexE X x j (n : Nat) []) (desk_mem (A := _ :: _ :: B) (desk_x (F, fs))))) (.tail _ (List.mem_append_right (lexE X x j (n : Nat) []) (desk_mem (A := _ :: _ :: B) (desk_d (F, fs))))) ?_
  refine callD1 G (by kernel_rfl) (wpAny_Constant_str ⟨⟨_, D⟩, ?_⟩)
  generalize htd : s.toks = td
  refine push_d (B := _ :: (lexE X x j (n : Nat) [] ++ (_ :: _ :: B))) (l₁ := ds) (l₂ := []) (X := F) (ws := fs) G D (by omega) (by omega) fun h1 tk1 D1 => ?_
  dsimp only
  refine wpAny_execs_cons (wpAny_Expr (MethodCall_ (nL H D1 (.head _) (v := .ref dl) hd ?_)) hi4)
  with_reducible refine gm_list rfl D1 (its := dv) (List.mem_of_getElem? (i := 10) rfl) slot_app' PySem.F.type_list_append ?_
  refine callB1 ?_
  refine nL H D1 (.head _) (v := .ref F.o) hf ?_
  refine app_l (i := 10) D1 rfl (by omega) fun h2 D2 => ?_
  replace D2 : Led h₀ h2 ((env.locals, nsI m) :: (lexE X x j (n : Nat) [] ++ ((dl, lstI (dv ++ [.ref F.o])) :: (el, lstI ev) :: B ++ (desksE (ds ++ [(F, fs ++ [.str (dotS 1) td])]) ++ R)))) := D2
  dsimp only
  refine wpAny_execs_cons (wpAny_Expr (MethodCall_ (nL H D2 (.head _) (v := .ref el) he ?_)) hi4)
  with_reducible refine gm_list rfl D2 (its := ev) (List.mem_of_getElem? (i := 11) rfl) slot_app' PySem.F.type_list_append ?_
  refine callB1 ?_
  refine tuple2 ?_
  refine MethodCall_ (nL H D2 (.head _) (v := .ref X.o) hr ?_)
  refine m_get (X := X) (line := (n : Nat)) G D2 (List.mem_of_getElem? (i := 1) rfl) (List.mem_of_getElem? (i := 2) rfl) ?_
  refine callD0 G D2 (by kernel_rfl) ?_
  have D2p : Led h₀ h2 (lexE X x j (n : Nat) [] ++ ((env.locals, nsI m) :: ((dl, lstI (dv ++ [.ref F.o])) :: (el, lstI ev) :: B ++ (desksE (ds ++ [(F, fs ++ [.str (dotS 1) td])]) ++ R)))) := D2.perm List.perm_middle.symm
  have hcc : (X.c, codI rdQual) ∈ (env.locals, nsI m) :: ((dl, lstI (dv ++ [.ref F.o])) :: (el, lstI ev) :: B ++ (desksE (ds ++ [(F, fs ++ [.str (dotS 1) td])]) ++ R)) := by
    rw [hc]; exact .tail _ (.tail _ (.tail _ (List.mem_append_right B (List.mem_append_right _ hcd))))
  refine gt_eof G D2p hcc hA hh hx [10] (by intro a ha; simp at ha; exact .inl ha) hj fun h3 tk3 tk4 D3 => ?_
  have e1 : ((n : Nat) : Int) + nl [10] = ((n + 1 : Nat) : Int) := by have : nl [10] = 1 := by decide
                                                                      omega
  rw [e1] at D3
  replace D3 := D3.perm (List.perm_middle (l₁ := lexE X x (j + [10].length) ((n + 1 : Nat) : Int) []))
  refine Attribute_Name_ (nL H D3 (.head _) (v := .ref X.o) hr ?_)
  refine lex_attr G D3 (D3.ob 1 rfl) (D3.get 2 rfl) (by kernel_rfl) fun k1 k2 k3 k4 t1 t2 t3 t4 t5 t6 nn => ⟨_, rfl, rfl, fun tk => ?_⟩
  have D4 := D3.push (o := { cls := .type "tuple", data := .seq [.str Str.empty tk3, .int ((n + 1 : Nat) : Int) t5].toArray }) (P := tupI [.str Str.empty tk3, .int ((n + 1 : Nat) : Int) t5]) rfl ⟨_, rfl⟩
  refine app_l (i := 12) D4 rfl (by omega) fun h5 D5 => ?_
  refine wpAny_execs_nil (K h5 h3.objs.size tk3 t5 td _ ?_)
  have D6 : Led h₀ h5 (_ :: (env.locals, nsI m) :: (lexE X x (j + [10].length) ((n + 1 : Nat) : Int) [] ++ ((dl, lstI (dv ++ [.ref F.o])) :: (el, lstI (ev ++ [.ref h3.objs.size])) :: B ++ (desksE (ds ++ [(F, fs ++ [.str (dotS 1) td])]) ++ R)))) := D5
  have D7 := D6.sub (.cons_cons _ (.cons_cons _ (List.sublist_append_right (lexE X x (j + [10].length) ((n + 1 : Nat) : Int) []) _)))
  exact D7.perm (List.perm_middle (l₁ := [_, _, _])).symm
end
end Mine
end
-- Gn8
section
open PySem PySem.W PyProof.Rows PySem.Calls
set_option Elab.async false
set_option maxRecDepth 100000
namespace Mine
structure Tree where
  P : Nat → Nat
  H : Nat → Nat
  wy : Nat → Nat → Nat
structure Tree.Ok (T : Tree) : Prop where
  p : ∀ k, 1 ≤ k → k < 5 → T.P k < k
  h1 : ∀ k, 1 ≤ k → k < 5 → 1 ≤ T.H k
  h3 : ∀ k, 1 ≤ k → k < 5 → T.H k ≤ 3
  w1 : ∀ k j, j < k → k < 5 → T.wy j k = T.wy (T.P k) j + T.H k
  w2 : ∀ k j, j < k → k < 5 → T.wy k j = T.wy (T.P k) j + T.H k
  w3 : ∀ k, k < 5 → T.wy k k = 0
  wb : ∀ a b, a < 5 → b < 5 → T.wy a b ≤ 30
def wordsOf (T : Tree) (j k : Nat) : List Nat := (List.range k).map fun b => 1 + T.wy j b
def DeskOk (T : Tree) (c : Addr) (k j : Nat) (d : Desk) : Prop := StrsAre d.2 ((wordsOf T j k).map dotS) ∧ d.1.c = c
def DesksOk (T : Tree) (c : Addr) (k : Nat) (ds : List Desk) : Prop := ds.length = k ∧ ∀ j d, ds[j]? = some d → DeskOk T c k j d
abbrev Tp := Addr × Nat × Tok × Tok
def tpE (t : Tp) : Addr × Itm := (t.1, tupI [.str Str.empty t.2.2.1, .int (t.2.1 : Nat) t.2.2.2])
theorem wordsOf_succ (T : Tree) (j k : Nat) : wordsOf T j (k + 1) = wordsOf T j k ++ [1 + T.wy j k] := by
  unfold wordsOf; rw [List.range_succ, List.map_append]; rfl
theorem sum_le {M : Nat} : ∀ {ns : List Nat}, (∀ x ∈ ns, x ≤ M) → ns.sum ≤ M * ns.length
  | [], _ => by simp
  | n :: ns, h => by
    have h1 := sum_le (ns := ns) (fun x hx => h x (List.mem_cons_of_mem _ hx))
    have h2 := h n (List.mem_cons_self ..)
    rw [List.sum_cons, List.length_cons, Nat.mul_succ]; omega
theorem strs_app {vs : List Value} {ys : List Str} {v : Value} {y : Str} (h : StrsAre vs ys) (hv : ∃ t, v = .str y t) : StrsAre (vs ++ [v]) (ys ++ [y]) := by
  obtain ⟨t, rfl⟩ := hv; exact strs_snoc h
/-- the desks when a node is new -/
theorem desks_grow {T : Tree} {c : Addr} {k : Nat} {ds : List Desk} {fs : List Value} {F : LX} {t : Tok} (hT : T.Ok) (hk : k < 5) (h1 : 1 ≤ k) (h : DesksOk T c k ds) (hfs : StrsAre fs (((wordsOf T (T.P k) k).map (· + T.H k)).map dotS)) (hF : F.c = c) :
    DesksOk T c (k + 1) (List.zipWith told1 ds fs ++ [(F, fs ++ [.str (dotS 1) t])]) := by
  have hfl : fs.length = k := by have := hfs.length; simpa [wordsOf] using this
  have hzl : (List.zipWith told1 ds fs).length = k := by rw [List.length_zipWith, h.1, hfl, Nat.min_self]
  refine ⟨by rw [List.length_append, hzl]; rfl, fun j d hd => ?_⟩
  rcases Nat.lt_trichotomy j k with hj | hj | hj
  · rw [List.getElem?_append_left (by omega)] at hd
    have hjd : j < ds.length := by rw [h.1]; exact hj
    have hjf : j < fs.length := by omega
    have e : (List.zipWith told1 ds fs)[j]? = some (told1 ds[j] fs[j]) := by
      rw [List.getElem?_zipWith, List.getElem?_eq_getElem hjd, List.getElem?_eq_getElem hjf]
    rw [e] at hd
    cases hd
    obtain ⟨hw, hc⟩ := h.2 j ds[j] (List.getElem?_eq_getElem hjd)
    refine ⟨?_, hc⟩
    rw [wordsOf_succ, List.map_append]
    refine strs_app hw ?_
    have e2 : (((wordsOf T (T.P k) k).map (· + T.H k)).map dotS)[j]? = some (dotS (1 + T.wy (T.P k) j + T.H k)) := by
      simp [wordsOf, hj]
    obtain ⟨t', ht'⟩ := hfs.get j _ e2
    rw [List.getElem?_eq_getElem hjf] at ht'
    refine ⟨t', ?_⟩
    rw [hT.w1 k j hj hk, ← Nat.add_assoc]
    exact Option.some.inj ht'
  · subst hj
    rw [List.getElem?_append_right (by omega), hzl, Nat.sub_self] at hd
    cases hd
    refine ⟨?_, hF⟩
    rw [wordsOf_succ, List.map_append]
    refine strs_app ?_ ⟨t, by show _ = Value.str (dotS (1 + T.wy j j)) t; rw [hT.w3 j hk]⟩
    have e3 : wordsOf T j j = (wordsOf T (T.P j) j).map (· + T.H j) := by
      unfold wordsOf
      rw [List.map_map]
      apply List.map_congr_left
      intro b hb
      have hb' := List.mem_range.mp hb
      show 1 + T.wy j b = 1 + T.wy (T.P j) b + T.H j
      rw [hT.w2 j b hb' hk]; omega
    rw [e3]; exact hfs
  · rw [List.getElem?_eq_none (by rw [List.length_append, hzl]; show k + 1 ≤ j; omega)] at hd; cases hd
theorem split_at {α : Type} {l : List α} {p : Nat} {d : α} (h : l[p]? = some d) : l = l.take p ++ d :: l.drop (p + 1) := by
  obtain ⟨hp, rfl⟩ := List.getElem?_eq_some_iff.mp h
  rw [← List.drop_eq_getElem_cons hp, List.take_append_drop]
end Mine
end
-- Gn9
section
open PySem PySem.W PyProof.Rows PySem.Calls
set_option Elab.async false
set_option maxRecDepth 100000
namespace Mine
theorem turn_list : grTurn = grTurn.getD 0 noStmt :: grTurn.getD 1 noStmt :: grTurn.getD 2 noStmt :: grTurn.getD 3 noStmt :: grTurn.getD 4 noStmt :: grTurn.getD 5 noStmt :: grTurn.getD 6 noStmt :: grTurn.getD 7 noStmt :: grTurn.getD 8 noStmt :: grTurn.drop 9 := rfl
/-- the ledger of the loop's head behind the frame -/
def grL (L T ax dl el c c2 : Addr) (e : List Nat) (te : Tok) (ov : Option Value) (its : List Value) (R0 : List (Addr × Itm)) (i : Nat) (ds : List Desk) (tps : List Tp) : List (Addr × Itm) :=
  (T, litI ax (2 * i)) :: (L + 2, cellI ov) :: (L + 1, cellI (some (.str ⟨e.toArray⟩ te))) :: (dl, lstI (ds.map fun d => .ref d.1.o)) :: (el, lstI (tps.map fun t => .ref t.1).reverse) ::
    (tps.map tpE ++ (desksE ds ++ ((ax, lstI its) :: (tabE (some (c, c2)) ++ R0))))
theorem tab_perm {P R0 : List (Addr × Itm)} {ds : List Desk} {a : Addr × Itm} {c : Addr × Addr} : (P ++ (desksE ds ++ (a :: (tabE (some c) ++ R0)))).Perm (tabE (some c) ++ (P ++ (desksE ds ++ (a :: R0)))) := by
  have e1 : P ++ (desksE ds ++ (a :: (tabE (some c) ++ R0))) = (P ++ desksE ds ++ [a]) ++ (tabE (some c) ++ R0) := by simp
  have e2 : tabE (some c) ++ (P ++ (desksE ds ++ (a :: R0))) = tabE (some c) ++ ((P ++ desksE ds ++ [a]) ++ R0) := by simp
  rw [e1, e2]
  exact List.perm_append_comm_assoc _ _ _
theorem fresh_perm {F : LX} {P Q R : List (Addr × Itm)} {ds : List Desk} : (lexE F Str.empty 0 1 [] ++ (P ++ (Q ++ (desksE ds ++ R)))).Perm (P ++ (Q ++ (desksE (ds ++ [(F, [])]) ++ R))) := by
  have e1 : desksE (ds ++ [(F, [])]) = desksE ds ++ lexE F Str.empty 0 1 [] := by simp [desksE, dkE]
  rw [e1]
  have e2 : P ++ (Q ++ (desksE ds ++ R)) = (P ++ Q ++ desksE ds) ++ R := by simp
  have e3 : P ++ (Q ++ (desksE ds ++ lexE F Str.empty 0 1 [] ++ R)) = (P ++ Q ++ desksE ds) ++ (lexE F Str.empty 0 1 [] ++ R) := by simp
  rw [e2, e3]
  exact List.perm_append_comm_assoc _ _ _
theorem perm7 {α : Type _} (a b c d e f g : α) : [a, b, c, d, e, f, g].Perm [g, f, e, d, a, b, c] :=
  List.Perm.map (fun i => [a, b, c, d, e, f, g].getD i a) (show [0, 1, 2, 3, 4, 5, 6].Perm [6, 5, 4, 3, 0, 1, 2] by decide)
section
variable {w : World} {mg mb : Str → Option Value} {h₀ : Heap} {A : Around} {E : Value → Shared → Prop} {s : Shared} {Q : Value → Shared → Prop} {QF : Flow → Shared → Prop} {l r : List (Addr × Itm)} {env : Env} {L : Addr} {m : Str → Option Value}
theorem gr_turn {T ax dl el c c2 : Addr} {e : List Nat} {te tp : Tok} {ov : Option Value} {its : List Value} {R0 : List (Addr × Itm)} {i : Nat} {ds : List Desk} {tps : List Tp} {S : Addr × Itm} {Tr : Tree}
    (G : Gr w mg mb h₀) (H : EF env grScope (grCells L) L) (hT : Tr.Ok) (hi : i < 4) (he : isEnd e) (hds : DesksOk Tr c (i + 1) ds) (htl : tps.length = i)
    (h1 : IntAt its (2 * i) (64 + (Tr.H (i + 1) : Int))) (h2 : IntAt its (2 * i + 1) (128 + (Tr.P (i + 1) : Int)))
    (mt : m (Str.ofString "tape") = some (.ref T)) (md : m (Str.ofString "desks") = some (.ref dl)) (me : m (Str.ofString "ends") = some (.ref el)) (mp : m (Str.ofString "place") = some (.int ((i + 1 : Nat) : Int) tp))
    (D : Led h₀ s.heap ((L, nsI m) :: S :: grL L T ax dl el c c2 e te ov its R0 i ds tps)) (hA : A.depth + 2 < recursionLimit) (hh : A.handled = none)
    (K : ∀ h' tk' m' ov' ds' tn t1 t2, m' (Str.ofString "tape") = some (.ref T) → m' (Str.ofString "desks") = some (.ref dl) → m' (Str.ofString "ends") = some (.ref el) → DesksOk Tr c (i + 2) ds' →
      Led h₀ h' ((L, nsI m') :: S :: grL L T ax dl el c c2 e te ov' its R0 (i + 1) ds' ((tn, i + 2, t1, t2) :: tps)) → QF .next { s with heap := h', toks := tk' }) :
    wpAny (model prog w) A (execs grTurn env) QF E s := by
  obtain ⟨t1, h1⟩ := h1
  obtain ⟨t2, h2⟩ := h2
  have hk5 : i + 1 < 5 := by omega
  have hp1 := hT.p (i + 1) (by omega) hk5
  have hh3 := hT.h3 (i + 1) (by omega) hk5
  have hdl : ds.length = i + 1 := hds.1
  generalize hpe : Tr.P (i + 1) = p at *
  generalize hhe : Tr.H (i + 1) = hr at *
  obtain ⟨d, hd⟩ : ∃ d, ds[p]? = some d := ⟨ds[p], List.getElem?_eq_getElem (by omega)⟩
  obtain ⟨X, ws⟩ := d
  obtain ⟨hws, hXc⟩ := hds.2 p (X, ws) hd
  have hsp := split_at hd
  have hwl : ws.length = i + 1 := by have := hws.length; simpa [wordsOf] using this
  have hdw : ∀ d ∈ ds, d.2.length ≤ 100 := by
    intro d hd
    obtain ⟨j, hj⟩ := List.mem_iff_getElem?.mp hd
    have := (hds.2 j d hj).1.length
    simp [wordsOf] at this; omega
  have hwn : ∀ k ∈ wordsOf Tr p (i + 1), 1 ≤ k ∧ k ≤ 31 := by
    intro k hk
    obtain ⟨b, hb, rfl⟩ := List.mem_map.mp hk
    have := hT.wb p b (by omega) (by have := List.mem_range.mp hb; omega)
    omega
  have hwnl : (wordsOf Tr p (i + 1)).length = i + 1 := by simp [wordsOf]
  have hsum : (wordsOf Tr p (i + 1)).sum ≤ 31 * (i + 1) := by have := sum_le (M := 31) (fun x hx => (hwn x hx).2); rwa [hwnl] at this
  have hmlen : (mail [13, 10] ((wordsOf Tr p (i + 1)).map (· + hr))).length ≤ 1000 := by
    rw [mail_len, sum_map_add, List.length_map, hwnl]
    have : hr * (i + 1) ≤ 3 * (i + 1) := Nat.mul_le_mul_right _ hh3
    show _ + 2 * (i + 1) ≤ _
    omega
  have esp : desksE ds = desksE (ds.take p ++ (X, ws) :: ds.drop (p + 1)) := congrArg desksE hsp
  have hvp : (ds.map fun d => Value.ref d.1.o)[p]? = some (.ref X.o) := by simp [hd]
  rw [turn_list]
  unfold grL at D
  replace D := D.perm (.cons _ (List.perm_middle (l₁ := [_, _, _, _, _])).symm)
  -- hung
  refine wpAny_execs_cons (gr_hung (ax := ax) (its := its) (i := 2 * i) (h := hr) (p := p) G H mt D (.tail _ (.tail _ (.tail _ (.tail _ (.tail _ (List.mem_append_right _ (List.mem_append_right _ (.head _)))))))) h1 h2 hh3 (by omega) (by omega) fun ha tk tka D => ?_)
  dsimp only
  -- below
  refine wpAny_execs_cons (gr_below (h := hr) (p := p) (v := .ref X.o) (dl := dl) (vs := ds.map fun d => .ref d.1.o) H (if_pos rfl) ((if_neg (by decide)).trans md) (D.perm (.cons _ (.swap _ _ _))) (.tail _ (.tail _ (.head _))) (by omega) hvp fun hb tkb D => ?_)
  dsimp only
  -- words
  rw [esp] at D
  refine wpAny_execs_cons (gr_words (B := _ :: _ :: _ :: _ :: S :: tps.map tpE) (l₁ := ds.take p) (l₂ := ds.drop (p + 1)) (X := X) (ws := ws) (tk := tp) G H ((if_neg (by decide)).trans (by rw [mp, hwl])) D (by omega) (by omega) hh fun hc tkc Y D => ?_)
  dsimp only
  replace D := D.perm (.swap _ _ _)
  -- the words go back
  refine wpAny_execs_cons (gr_back (B := _ :: _ :: _ :: _ :: S :: tps.map tpE) (l₁ := ds.take p) (l₂ := ds.drop (p + 1)) (X := X) (ws := ws) G H (if_pos rfl) D (by omega) (by omega) hh fun hd' tkd m1 hm1 D => ?_)
  dsimp only
  replace D := D.perm (.cons _ (.cons _ (List.perm_middle (l₁ := [_, _]))))
  -- octets
  refine wpAny_execs_cons (gr_octets (ws := ws) (ns := wordsOf Tr p (i + 1)) (e := e) (te := te) G H ((hm1 _ (by decide)).trans (if_pos rfl)) D hws (fun k hk => (hwn k hk).1) (by omega) he (by omega) (by omega) hh fun he' tke tkf D => ?_)
  dsimp only
  -- hours
  refine wpAny_execs_cons (gr_hours (ns := wordsOf Tr p (i + 1)) (h := hr) (p := p) (t := tk) G H ((if_neg (by decide)).trans ((hm1 _ (by decide)).trans ((if_neg (by decide)).trans (if_pos rfl)))) (if_pos rfl) D (fun k hk => (hwn k hk).1) (by omega) (by omega) hh3 (by omega) (by omega) hh fun hf m2 tkg tkh hm2 hmo D => ?_)
  dsimp only
  have mt2 : m2 (Str.ofString "tape") = some (.ref T) := (hm2 _ (by decide) (by decide)).trans ((if_neg (by decide)).trans ((hm1 _ (by decide)).trans ((if_neg (by decide)).trans ((if_neg (by decide)).trans mt))))
  have md2 : m2 (Str.ofString "desks") = some (.ref dl) := (hm2 _ (by decide) (by decide)).trans ((if_neg (by decide)).trans ((hm1 _ (by decide)).trans ((if_neg (by decide)).trans ((if_neg (by decide)).trans md))))
  have me2 : m2 (Str.ofString "ends") = some (.ref el) := (hm2 _ (by decide) (by decide)).trans ((if_neg (by decide)).trans ((hm1 _ (by decide)).trans ((if_neg (by decide)).trans ((if_neg (by decide)).trans me))))
  clear hm1 hm2
  rw [← esp] at D
  replace D := D.sub (.cons_cons _ (.cons _ (List.Sublist.refl _)))
  generalize hns : (wordsOf Tr p (i + 1)).map (· + hr) = ns at hmo hmlen
  have hnsl : ns.length = i + 1 := by rw [← hns, List.length_map, hwnl]
  have hns1 : ∀ k ∈ ns, 1 ≤ k := by
    intro k hk
    rw [← hns] at hk
    obtain ⟨b, hb, rfl⟩ := List.mem_map.mp hk
    have := (hwn b hb).1; omega
  -- reader
  refine wpAny_execs_cons (gr_reader (c := c) (c2 := c2) G H hmo (fun x hx => ?_) hmlen ?_ D (tab_perm (P := _ :: _ :: _ :: _ :: _ :: S :: tps.map tpE)) hA fun hg tki RX hRX D => ?_)
  · rcases mail_mem hx with rfl | hx'
    · decide
    · simp at hx'; omega
  · intro q
    have := congrArg List.length q
    rw [mail_len, hnsl] at this
    simp at this
  dsimp only
  -- fresh
  refine wpAny_execs_cons (gr_fresh (c := c) (c2 := c2) G H D ((List.Perm.append_left (lexE RX ⟨(mail [13, 10] ns).toArray⟩ 0 1 []) (tab_perm (P := _ :: _ :: _ :: _ :: _ :: S :: tps.map tpE))).trans (List.perm_append_comm_assoc _ _ _)) hA fun hh' tkj F hF D => ?_)
  dsimp only
  replace D := D.perm (.cons _ (fresh_perm (P := lexE RX ⟨(mail [13, 10] ns).toArray⟩ 0 1 []) (Q := _ :: _ :: _ :: _ :: _ :: S :: tps.map tpE)))
  -- desks
  refine wpAny_execs_cons (gr_desks (c := c) (B := _ :: _ :: _ :: _ :: _ :: S :: tps.map tpE) (X := RX) (F := F) (ds := ds) (ns := ns) (dl := dl) G H ((if_neg (by decide)).trans (if_pos rfl)) (if_pos rfl) ((if_neg (by decide)).trans ((if_neg (by decide)).trans md2)) rfl hmlen hns1 (by omega) (by omega) (by omega) hdw hRX
    (.tail _ (List.mem_append_left _ (.tail _ (.head _)))) (.tail _ (.tail _ (.tail _ (.head _)))) D hA hh fun hi' m3 fs j tkk hm3 hfs hj D => ?_)
  dsimp only
  have hfl : fs.length = i + 1 := by have := hfs.length; simpa [hnsl] using this
  rw [hnsl] at D
  replace D := D.perm (.cons _ (List.Perm.append_left (lexE RX ⟨(mail [13, 10] ns).toArray⟩ j ((i + 1 : Nat) : Int) []) (List.perm_append_comm_assoc [_, _, _] [_, _] _)))
  refine gr_tail (c := c) (B := _ :: _ :: _ :: S :: tps.map tpE) (X := RX) (F := F) (ds := List.zipWith told1 ds fs) (fs := fs) (n := i + 1) G H ((hm3 _ (by decide) (by decide)).trans ((if_neg (by decide)).trans (if_pos rfl))) ((hm3 _ (by decide) (by decide)).trans (if_pos rfl))
    ((hm3 _ (by decide) (by decide)).trans ((if_neg (by decide)).trans ((if_neg (by decide)).trans md2))) ((hm3 _ (by decide) (by decide)).trans ((if_neg (by decide)).trans ((if_neg (by decide)).trans me2))) (by simpa [Str.length] using hmlen) hj hRX
    (.tail _ (List.mem_append_left _ (.tail _ (.head _)))) (by omega) (by simp; omega) (by simp; omega) D hA hh fun hj' tn t1 t2 t3 tkl D => ?_
  refine K hj' tkl m3 (some (.ref X.o)) (List.zipWith told1 ds fs ++ [(F, fs ++ [.str (dotS 1) t3])]) tn t1 t2 ((hm3 _ (by decide) (by decide)).trans ((if_neg (by decide)).trans ((if_neg (by decide)).trans mt2)))
    ((hm3 _ (by decide) (by decide)).trans ((if_neg (by decide)).trans ((if_neg (by decide)).trans md2))) ((hm3 _ (by decide) (by decide)).trans ((if_neg (by decide)).trans ((if_neg (by decide)).trans me2))) ?_ ?_
  · refine desks_grow hT hk5 (by omega) hds ?_ hF
    rw [hpe, hhe, hns]
    exact hfs
  · have e1 : (ds.map fun d : Desk => Value.ref d.1.o) ++ [.ref F.o] = (List.zipWith told1 ds fs ++ [(F, fs ++ [Value.str (dotS 1) t3])]).map fun d => Value.ref d.1.o := by
      rw [List.map_append, List.map_zipWith]
      congr 1
      apply List.ext_getElem?
      intro k
      rw [List.getElem?_zipWith, List.getElem?_map]
      by_cases hk : k < ds.length
      · rw [List.getElem?_eq_getElem hk, List.getElem?_eq_getElem (show k < fs.length by omega)]; rfl
      · rw [List.getElem?_eq_none (by omega)]; rfl
    have e2 : (tps.map fun t => Value.ref t.1).reverse ++ [.ref tn] = (((tn, i + 2, t1, t2) :: tps).map fun t : Tp => Value.ref t.1).reverse := by simp
    rw [e1, e2] at D
    unfold grL
    exact D.perm (.cons _ ((perm7 _ _ _ _ _ _ _).append_right (tps.map tpE ++ (desksE (List.zipWith told1 ds fs ++ [(F, fs ++ [Value.str (dotS 1) t3])]) ++ ((ax, lstI its) :: (tabE (some (c, c2)) ++ R0))))))
end
end Mine
end
-- GnA
section
open PySem PySem.W PyProof.Rows PySem.Calls
set_option Elab.async false
set_option maxRecDepth 100000
namespace Mine
def TpsOk (i : Nat) (tps : List Tp) : Prop := (tps.map (·.2.1)).reverse = (List.range i).map (· + 2)
theorem TpsOk.len {i : Nat} {tps : List Tp} (h : TpsOk i tps) : tps.length = i := by have := congrArg List.length h; simpa using this
theorem TpsOk.succ {i : Nat} {tps : List Tp} {a : Addr} {t : Tok × Tok} (h : TpsOk i tps) : TpsOk (i + 1) ((a, i + 2, t) :: tps) := by
  unfold TpsOk at h ⊢
  rw [List.map_cons, List.reverse_cons, h, List.range_succ, List.map_append]; rfl
theorem start_perm {α : Type _} (el dl L1 L2 T ax : α) (DE TB R0 : List α) : (el :: dl :: (DE ++ (TB ++ (L1 :: L2 :: T :: ax :: R0)))).Perm (T :: L2 :: L1 :: dl :: el :: (DE ++ (ax :: (TB ++ R0)))) := by
  have p1 : (DE ++ (TB ++ ([L1, L2, T, ax] ++ R0))).Perm ([L1, L2, T, ax] ++ (DE ++ (TB ++ R0))) :=
    (List.Perm.append_left DE (List.perm_append_comm_assoc TB [L1, L2, T, ax] R0)).trans (List.perm_append_comm_assoc DE [L1, L2, T, ax] (TB ++ R0))
  have p2 : [el, dl, L1, L2, T, ax].Perm [T, L2, L1, dl, el, ax] := List.Perm.map (fun i => [el, dl, L1, L2, T, ax].getD i el) (show [0, 1, 2, 3, 4, 5].Perm [4, 3, 2, 1, 0, 5] by decide)
  have p3 := p2.append_right (DE ++ (TB ++ R0))
  have p4 : ([ax] ++ (DE ++ (TB ++ R0))).Perm (DE ++ ([ax] ++ (TB ++ R0))) := List.perm_append_comm_assoc [ax] DE (TB ++ R0)
  exact ((List.Perm.append_left [el, dl] p1).trans p3).trans (List.Perm.append_left [T, L2, L1, dl, el] p4)
section
variable {w : World} {mg mb : Str → Option Value} {h₀ : Heap} {A : Around} {E : Value → Shared → Prop} {s : Shared} {Q : Value → Shared → Prop} {l r : List (Addr × Itm)}
theorem mkL0 {M : Model} {env : Env} {pos : Pos} (D : Led h₀ s.heap l) (h : ∀ h' a, Led h₀ h' ((a, lstI []) :: l) → Q (.ref a) { s with heap := h' }) : wpAny M A (eval (.List [] pos) env) Q E s :=
  wpAny_List (spliced_nil ⟨by decide, h _ _ (D.push (o := { cls := .type "list", data := .seq [].toArray }) (P := lstI []) rfl ⟨_, rfl⟩)⟩)
theorem mkL1 {M : Model} {env : Env} {e : Expr} {pos : Pos} (h : wpAny M A (eval e env) (fun v s₁ => ∃ l, Led h₀ s₁.heap l ∧ ∀ h' a, Led h₀ h' ((a, lstI [v]) :: l) → Q (.ref a) { s₁ with heap := h' }) E s)
    (he : backTo pos (starEach [e] env) = [(false, eval e env)] := by rfl) : wpAny M A (eval (.List [e] pos) env) Q E s := by
  refine list1 (wpAny_mono h (fun v s₁ q => ?_) fun _ _ x => x) he
  obtain ⟨l, D, q⟩ := q
  exact q _ _ (D.push (o := { cls := .type "list", data := .seq [v].toArray }) (P := lstI [v]) rfl ⟨_, rfl⟩)
theorem mkT2 {M : Model} {env : Env} {e e₂ : Expr} {k : Nat} {pos : Pos} (h : wpAny M A (eval e env) (fun v s₁ => wpAny M A (eval e₂ env) (fun v₂ s₂ => ∃ l, Led h₀ s₂.heap l ∧ ∀ h' a, Led h₀ h' ((a, tupI [v, v₂]) :: l) → Q (.ref a) { s₂ with heap := h' }) E s₁) E s)
    (he : backTo pos (starEach [e, e₂] env) = [(false, eval e env), (false, eval e₂ env)] := by rfl) : wpAny M A (eval (.Tuple [e, e₂] k pos) env) Q E s := by
  refine tuple2 (wpAny_mono h (fun v s₁ q => wpAny_mono q (fun v₂ s₂ q => ?_) fun _ _ x => x) fun _ _ x => x) he
  obtain ⟨l, D, q⟩ := q
  exact q _ _ (D.push (o := { cls := .type "tuple", data := .seq [v, v₂].toArray }) (P := tupI [v, v₂]) rfl ⟨_, rfl⟩)
theorem gr_enter {T : Addr} {e : Str} {te : Tok} (G : Gr w mg mb h₀) (D : Led h₀ s.heap l) (hA : A.depth < recursionLimit)
    (h : ∀ env h₁ tk L m, EF env grScope (grCells L) L → m (Str.ofString "tape") = some (.ref T) → Led h₀ h₁ ((L, nsI m) :: (L + 1, cellI (some (.str e te))) :: (L + 2, cellI none) :: l) →
      wpAny (model prog w) (A.deeper env) (execs grBody env) (fun f s' => Q (match f with | .ret v => v | _ => .none) s') (fun _ _ => False) { s with heap := h₁, toks := tk }) :
    wpAny (model prog w) A (call (.ref 116) [.ref T, .str e te]) Q E s := by
  refine call_of (code_cells (binds := [(Str.ofString "tape", .ref T), (Str.ofString "end", .str e te)]) (D.keep _ _ (G.X 116 _ rfl)) rfl rfl (Heap.CodeRec.keeps ⟨_, _, _, _, rfl, G.X 115 _ rfl, rfl, rfl⟩ D.keep) (G.lim.keeps D.keep) rfl rfl (fun y hy => ?_) hA ?_)
  · rcases List.mem_cons.mp hy with rfl | hy
    · exact .inl rfl
    · rw [List.mem_singleton.mp hy]; exact .inr ⟨rfl, rfl⟩
  intro h₁ tk hns hk hc
  have t1 := hc (Str.ofString "end") (s.heap.objs.size + 1) rfl
  have t2 := hc (Str.ofString "below") (s.heap.objs.size + 2) rfl
  obtain ⟨m, hns, mt⟩ : ∃ m, h₁.Ns s.heap.objs.size m ∧ m (Str.ofString "tape") = some (.ref T) := ⟨_, hns, rfl⟩
  refine h _ h₁ tk s.heap.objs.size m ⟨rfl, rfl, rfl, rfl, rfl, rfl⟩ mt (D.app hk (Nat.le_of_lt hns.lt) [(s.heap.objs.size, nsI m), (s.heap.objs.size + 1, cellI (some (.str e te))), (s.heap.objs.size + 2, cellI none)] ?_ ?_)
  · intro p hp
    simp only [List.mem_cons, List.not_mem_nil, or_false] at hp
    rcases hp with rfl | rfl | rfl
    · exact ⟨Nat.le_refl _, At.of_ns hns⟩
    · exact ⟨Nat.le_succ _, t1⟩
    · exact ⟨Nat.le_add_right .., t2⟩
  · simp
theorem gr_ct {T ax : Addr} {e : List Nat} {te : Tok} {its : List Value} {R0 : List (Addr × Itm)} {Tr : Tree} (G : Gr w mg mb h₀) (hT : Tr.Ok) (he : isEnd e)
    (hits : ∀ i, i < 4 → IntAt its (2 * i) (64 + (Tr.H (i + 1) : Int)) ∧ IntAt its (2 * i + 1) (128 + (Tr.P (i + 1) : Int)))
    (D : Led h₀ s.heap ((T, litI ax 0) :: (ax, lstI its) :: (tabE none ++ R0))) (hA : A.depth + 3 < recursionLimit) (hh : A.handled = none)
    (K : ∀ h' tk' tt dl el ds tps c c2, DesksOk Tr c 5 ds → TpsOk 4 tps → Led h₀ h' ((tt, tupI [.ref dl, .ref el]) :: (T, litI ax 8) :: (dl, lstI (ds.map fun d => .ref d.1.o)) :: (el, lstI (tps.map fun t => .ref t.1).reverse) ::
      (tps.map tpE ++ (desksE ds ++ ((ax, lstI its) :: (tabE (some (c, c2)) ++ R0))))) → Q (.ref tt) { s with heap := h', toks := tk' }) :
    wpAny (model prog w) A (call (.ref 116) [.ref T, .str ⟨e.toArray⟩ te]) Q E s := by
  refine gr_enter G D (by omega) fun env h₁ tk L m H mt D => ?_
  have hA1 : (A.deeper env).depth + 2 < recursionLimit := by show A.depth + 1 + 2 < _; omega
  have hh1 : (A.deeper env).handled = none := hh
  generalize A.deeper env = A1 at hA1 hh1 ⊢
  have hkk : keepIn (Mine.hd.heap_39 w.params) (.ref 111) = true := by kernel_rfl
  have hL := H.lo
  have hi4 : interactive env = false := by unfold interactive; rw [H.k0]; rfl
  -- first = _law_lexer('')
  refine wpAny_execs_cons ?_
  refine wpAny_Assign_Name ?_
  refine wpAny_Call_NameR ?_
  refine nG H G D (v := .ref 111) (by kernel_rfl) ?_
  refine callD1 G hkk (wpAny_Constant_str ⟨⟨_, D⟩, ?_⟩)
  refine lexer_first (x := Str.empty) (r := _ :: _ :: _ :: _ :: _ :: R0) G (D.perm (List.perm_middle (l₁ := [_, _, _, _, _]))) hA1 fun h' tk' X c2 D => ?_
  refine sL (l := lexE X Str.empty 0 1 [] ++ (tabE (some (X.c, c2)) ++ (_ :: _ :: _ :: _ :: R0))) H (D.perm (List.perm_middle (l₁ := lexE X Str.empty 0 1 [] ++ tabE (some (X.c, c2))))) fun h' D => ?_
  dsimp only
  -- first.push_token('.')
  refine wpAny_execs_cons (wpAny_Expr (MethodCall_ (nL H D (.head _) (v := .ref X.o) (if_pos rfl) ?_)) hi4)
  refine m_push (X := X) (line := 1) G D (List.mem_of_getElem? (i := 1) rfl) (List.mem_of_getElem? (i := 2) rfl) ?_
  refine callD1 G (by kernel_rfl) (wpAny_Constant_str ⟨⟨_, D⟩, ?_⟩)
  refine push_d (B := [_]) (l₁ := []) (l₂ := []) (X := X) (ws := []) (R := tabE (some (X.c, c2)) ++ (_ :: _ :: _ :: _ :: R0)) G D (by omega) (by decide) fun h' tk' D => ?_
  dsimp only
  generalize hv : Value.str (Str.ofString ".") _ = v at D
  -- desks = [first]
  refine wpAny_execs_cons ?_
  refine wpAny_Assign_Name ?_
  refine mkL1 (nL H D (.head _) (v := .ref X.o) (if_pos rfl) ⟨_, D, fun h' dl D => ?_⟩)
  refine sL H (D.perm (.swap _ _ _)) fun h' D => ?_
  dsimp only
  -- ends = []
  refine wpAny_execs_cons ?_
  refine wpAny_Assign_Name ?_
  refine mkL0 D fun h' el D => ?_
  refine sL H (D.perm (.swap _ _ _)) fun h' D => ?_
  dsimp only
  replace D := D.perm (.cons _ (start_perm _ _ _ _ _ _ (desksE ([] ++ (X, [] ++ [v]) :: [])) (tabE (some (X.c, c2))) R0))
  subst hL
  -- the loop
  refine wpAny_execs_cons ?_
  refine wpAny_For ?_
  refine wpAny_Call_NameR ?_
  refine nB H G D (by kernel_rfl) (v := .type "range") (by kernel_rfl) ?_
  refine callT2 (wpAny_Constant_int (wpAny_Constant_int ?_))
  refine rng2 (a := 1) (n := 4) (b := 5) D rfl (by decide) fun h1 tk1 it D1 => ?_
  refine for_src (x := Str.ofString "place") (src_range hh1) (fun i m' r => (m' (Str.ofString "tape") = some (.ref T) ∧ m' (Str.ofString "desks") = some (.ref dl) ∧ m' (Str.ofString "ends") = some (.ref el)) ∧
      ∃ ov ds tps, r = grL env.locals T ax dl el X.c c2 e te ov its R0 i ds tps ∧ DesksOk Tr X.c (i + 1) ds ∧ TpsOk i tps) (H.k rfl) H.e4
    (D1.perm (.swap _ _ _)) ⟨⟨?_, ?_, ?_⟩, none, [(X, [v])], [], rfl, ⟨rfl, fun j d hd => ?_⟩, rfl⟩ (fun i m' r p q _ hJ => trivial) ?_ ?_
  · exact (if_neg (by decide)).trans ((if_neg (by decide)).trans ((if_neg (by decide)).trans mt))
  · exact (if_neg (by decide)).trans (if_pos rfl)
  · exact if_pos rfl
  · match j, hd with
    | 0, hd =>
      cases hd
      refine ⟨?_, rfl⟩
      have e1 : wordsOf Tr 0 1 = [1] := by simp [wordsOf, hT.w3 0 (by decide)]
      rw [e1]
      show StrsAre [v] _
      rw [← hv]
      exact .cons (dotS 1) _ .nil
  · rintro i m' _ h2 tk2 v2 E' hi ⟨tv, rfl⟩ ⟨⟨m1, m2, m3⟩, ov, ds, tps, rfl, hds, htps⟩ D2
    refine gr_turn (i := i) (Tr := Tr) (tp := tv) G H hT hi he hds htps.len (hits i hi).1 (hits i hi).2 ((if_neg (by decide)).trans m1) ((if_neg (by decide)).trans m2) ((if_neg (by decide)).trans m3) ((if_pos rfl).trans ?_) D2 hA1 hh1
      fun h3 tk3 m' ov' ds' tn t1 t2 m1 m2 m3 hds' D3 => ⟨rfl, h3, tk3, m', _, rfl, ⟨⟨m1, m2, m3⟩, ov', ds', _, rfl, hds', htps.succ⟩, D3⟩
    congr 2
    show ((1 : Nat) : Int) + (i : Int) * 1 = ((i + 1 : Nat) : Int)
    omega
  · rintro m' _ hf tk ⟨⟨m1, m2, m3⟩, ov, ds, tps, rfl, hds, htps⟩ D2
    dsimp only
    refine wpAny_execs_cons ?_
    refine wpAny_Return_some ?_
    refine mkT2 (nL H D2 (.head _) m2 (nL H D2 (.head _) m3 ⟨_, D2, fun h' tt D3 => ?_⟩))
    refine K _ _ tt dl el ds tps X.c c2 hds htps ?_
    unfold grL at D3
    exact D3.sub (.cons_cons _ (.cons _ (.cons _ (.cons_cons _ (.cons _ (.cons _ (List.Sublist.refl _)))))))
end
end Mine
end
-- Mi1
section
open PySem PySem.W PyProof.Rows PySem.Calls
set_option Elab.async false
set_option maxRecDepth 100000
namespace Mine
/-- the signs of a number below 32 -/
def pcN (n : Nat) : Nat := n % 2 + n / 2 % 2 + n / 4 % 2 + n / 8 % 2 + n / 16 % 2
/-- a row's sum, its columns from the last on -/
def colSt (T : Nat → Nat → Int) (mask : Nat) (ms : List Int) : Nat → Int × Int
  | 0 => (0, 1)
  | i + 1 => if mask / 2 ^ (4 - i) % 2 = 1 then ((colSt T mask ms i).1 + (colSt T mask ms i).2 * T (pcN mask - 1) (4 - i) * ms.getD (mask - 2 ^ (4 - i)) 0, -(colSt T mask ms i).2) else colSt T mask ms i
def minL (T : Nat → Nat → Int) : Nat → List Int
  | 0 => [1]
  | n + 1 => minL T n ++ [(colSt T (n + 1) (minL T n) 5).1]
theorem colSt_sign (T : Nat → Nat → Int) (mask : Nat) (ms : List Int) : ∀ i, (colSt T mask ms i).2 = 1 ∨ (colSt T mask ms i).2 = -1
  | 0 => .inl rfl
  | i + 1 => by
    unfold colSt
    split
    · rcases colSt_sign T mask ms i with h | h
      · exact .inr (by dsimp only; rw [h])
      · exact .inl (by dsimp only; rw [h]; rfl)
    · exact colSt_sign T mask ms i
theorem minL_len (T : Nat → Nat → Int) : ∀ n, (minL T n).length = n + 1
  | 0 => rfl
  | n + 1 => by unfold minL; rw [List.length_append, minL_len T n]; rfl
theorem pc_half : ∀ n, n < 32 → pcN (n / 2) + n % 2 = pcN n := by decide
theorem pc_pos : ∀ n, n < 32 → 1 ≤ n → 1 ≤ pcN n ∧ pcN n ≤ 5 := by decide
theorem bit_le {mask c : Nat} (h : mask / 2 ^ c % 2 = 1) : 2 ^ c ≤ mask := by
  rcases Nat.lt_or_ge mask (2 ^ c) with hl | hl
  · rw [Nat.div_eq_of_lt hl] at h; cases h
  · exact hl
theorem bits64 {a : Int} (h : a.natAbs < 2 ^ 60) : Builtin.Int.intBits a ≤ 64 := by
  unfold Builtin.Int.intBits
  split
  · omega
  · rename_i hz
    have : a.natAbs.log2 < 60 := (Nat.log2_lt (by intro q; simp at hz; omega)).mpr h
    omega
theorem mulOk {a b : Int} (h : a.natAbs < 2 ^ 60) : IntMulOk a b := IntMulOk.of_left (bits64 h)
theorem and_one (a : Nat) : Builtin.bitAnd (a : Int) 1 = (a % 2 : Nat) := by
  show ((a &&& 1 : Nat) : Int) = _
  rw [Nat.and_one_is_mod]
theorem ints_at : ∀ {vs : List Value} {ns : List Int} {i : Nat}, IntsAre vs ns → i < ns.length → ∃ t, vs[i]? = some (.int (ns.getD i 0) t)
  | _, _, 0, .cons n t h, _ => ⟨t, rfl⟩
  | _, _, i + 1, .cons n t h, hi => by
    obtain ⟨t', e⟩ := ints_at h (i := i) (by simpa using hi)
    exact ⟨t', by simpa using e⟩
theorem ints_snoc : ∀ {vs : List Value} {ns : List Int} {n : Int} {t : Tok}, IntsAre vs ns → IntsAre (vs ++ [.int n t]) (ns ++ [n])
  | _, _, _, _, .nil => .cons _ _ .nil
  | _, _, _, _, .cons n t h => .cons n t (ints_snoc h)
def miScope : Scope := fScope (topStmt 15)
def miBody : List Stmt := fBody (topStmt 15)
def miTurn : List Stmt := forBody (miBody.getD 2 noStmt)
def miCol : List Stmt := forBody (miTurn.getD 4 noStmt)
def miCells (L : Addr) : List (Str × Addr) := [(Str.ofString "minors", L + 1)]
section
variable {w : World} {mg mb : Str → Option Value} {h₀ : Heap} {A : Around} {E : Value → Shared → Prop} {s : Shared} {Q : Value → Shared → Prop} {QF : Flow → Shared → Prop} {l r : List (Addr × Itm)} {env : Env} {L : Addr} {m : Str → Option Value}
/-- an item of a list of the ledger -/
theorem itemL {a : Addr} {its : List Value} {k : Int} {n : Nat} {u : Tok} {v : Value} {value slice : Expr} (D : Led h₀ s.heap l) (hm : (a, lstI its) ∈ l) (hk : k = (n : Nat)) (hn : n ≤ 1000) (hv : its[n]? = some v) (h : Q v s)
    (h1 : subscripted slice false (.ref a) (.int k u) = operate [.ref a, .int k u] (getItem (.ref a) (.int k u)) := by with_unfolding_all rfl) :
    wpAny (model prog w) A (subscriptTail value slice (.ref a) (.int k u)) Q E s := by
  subst hk
  obtain ⟨nn, hl⟩ := (D.getM hm).lst
  refine kba_turn (value' := PySem.Expr.Name (PySem.Str.ofString "_") ⟨0, 0, 0, 0⟩) (fun _ => rfl) ?_
  exact item_list hl.isList (by omega) (by omega) (x := v) (by simpa using hv) h h1 (fun _ => rfl)
set_option maxHeartbeats 1000000 in
theorem mi_col {T : Nat → Nat → Int} {mask i : Nat} {ta ml ra : Addr} {tl ms vs : List Value} {ns : List Int} {tm tr tc : Tok} (H : EF env miScope (miCells L) L) (hmask : 1 ≤ mask ∧ mask < 32) (hi : i < 5)
    (m1 : m (Str.ofString "table") = some (.ref ta)) (m2 : m (Str.ofString "mask") = some (.int (mask : Nat) tm)) (m3 : m (Str.ofString "row") = some (.int ((pcN mask - 1 : Nat) : Int) tr)) (m4 : m (Str.ofString "column") = some (.int ((4 - i : Nat) : Int) tc))
    (m5 : ∃ t, m (Str.ofString "total") = some (.int (colSt T mask ns i).1 t)) (m6 : ∃ t, m (Str.ofString "sign") = some (.int (colSt T mask ns i).2 t))
    (D : Led h₀ s.heap ((L, nsI m) :: l)) (hml : (L + 1, cellI (some (.ref ml))) ∈ l) (hms : (ml, lstI ms) ∈ l) (hns : IntsAre ms ns) (hnl : ns.length = mask) (hta : (ta, lstI tl) ∈ l) (hra : tl[pcN mask - 1]? = some (.ref ra)) (hrl : (ra, lstI vs) ∈ l)
    (hvs : ∀ j, j < 5 → IntAt vs j (T (pcN mask - 1) j)) (hTb : ∀ a b, a < 5 → b < 5 → (T a b).natAbs < 2 ^ 30)
    (K : ∀ h' tk' m', (∀ z, z ≠ Str.ofString "total" → z ≠ Str.ofString "sign" → m' z = m z) → (∃ t, m' (Str.ofString "total") = some (.int (colSt T mask ns (i + 1)).1 t)) → (∃ t, m' (Str.ofString "sign") = some (.int (colSt T mask ns (i + 1)).2 t)) →
      Led h₀ h' ((L, nsI m') :: l) → QF .next { s with heap := h', toks := tk' }) :
    wpAny (model prog w) A (execs miCol env) QF E s := by
  have hp := pc_pos mask hmask.2 hmask.1
  refine wpAny_execs_cons (wpAny_If ?_)
  refine wpAny_isTrue_Compare1 ?_
  refine wpAny_BinOp (wpAny_BinOp (nL H D (.head _) m2 (nL H D (.head _) m4 (rshift_int (by omega) ?_))))
  refine wpAny_Constant_int (and_int (wpAny_Constant_int (eq_int (wpAny_truthy_bool ?_))))
  have e1 : ((mask : Int)).fdiv (2 ^ ((4 - i : Nat) : Int).toNat) = (mask / 2 ^ (4 - i) : Nat) := by
    rw [Int.fdiv_eq_ediv_of_nonneg _ (by exact Int.le_of_lt (Int.pow_pos (by decide))), Int.toNat_natCast]
    push_cast; rfl
  rw [e1, and_one]
  by_cases hb : mask / 2 ^ (4 - i) % 2 = 1
  · rw [hb, if_pos (by decide)]
    obtain ⟨t5, m5⟩ := m5
    obtain ⟨t6, m6⟩ := m6
    obtain ⟨tv, hv⟩ := hvs (4 - i) (by omega)
    have hle := bit_le hb
    have hidx : mask - 2 ^ (4 - i) < ns.length := by have : 0 < 2 ^ (4 - i) := Nat.two_pow_pos _; omega
    obtain ⟨tq, hq⟩ : ∃ t, ms[mask - 2 ^ (4 - i)]? = some (.int (ns.getD (mask - 2 ^ (4 - i)) 0) t) := by
      exact ints_at hns hidx
    refine wpAny_execs_cons (wpAny_AugAssign_Name (wpAny_loadName_local H.k0 (H.k rfl) (by rw [H.lo]; exact D.ns 0 rfl) m5 ?_))
    refine wpAny_BinOp (wpAny_BinOp (nL H D (.head _) m6 ?_))
    refine Subscript_ (Subscript_ (nL H D (.head _) m1 (nL H D (.head _) m3 (itemL D (.tail _ hta) rfl (by omega) hra ?_))))
    refine nL H D (.head _) m4 (itemL D (.tail _ hrl) rfl (by omega) hv (mul_int ?_ (mulOk ?_)))
    · have hsg := colSt_sign T mask ns i
      have hTs := hTb (pcN mask - 1) (4 - i) (by omega) (by omega)
      refine Subscript_ (nC H D (c := L + 1) (v := .ref ml) (.tail _ hml) ?_)
      refine wpAny_BinOp (nL H D (.head _) m2 (wpAny_BinOp (wpAny_Constant_int (nL H D (.head _) m4 (lshift_int (by omega) ?_ (sub_int ?_))))))
      · have : (Builtin.Int.intBits 1 : Int) = 1 := by decide
        rw [this]; omega
      have e2 : (mask : Int) - 1 * 2 ^ ((4 - i : Nat) : Int).toNat = (mask - 2 ^ (4 - i) : Nat) := by
        rw [Int.toNat_natCast, Int.one_mul, Int.ofNat_sub hle]; push_cast; rfl
      refine itemL D (.tail _ hms) e2 (by omega) hq (mul_int ?_ (mulOk ?_))
      · refine iadd_int (sL H D fun h1 D => ?_)
        dsimp only
        refine wpAny_execs_cons (wpAny_Assign_Name (wpAny_UnaryOp (nL H D (.head _) ((if_neg (by decide)).trans m6) (neg_int (sL H D fun h2 D => ?_)))))
        refine wpAny_execs_nil (wpAny_execs_nil ?_)
        have ec : colSt T mask ns (i + 1) = ((colSt T mask ns i).1 + (colSt T mask ns i).2 * T (pcN mask - 1) (4 - i) * ns.getD (mask - 2 ^ (4 - i)) 0, -(colSt T mask ns i).2) := by
          conv => lhs; unfold colSt
          rw [if_pos hb]
        refine K h2 _ _ ?_ ?_ ?_ D
        · exact fun z h1 h2 => (if_neg h2).trans (if_neg h1)
        · rw [ec]; exact ⟨_, (if_neg (by decide)).trans (if_pos rfl)⟩
        · rw [ec]; exact ⟨_, if_pos rfl⟩
      · rcases hsg with h | h
        · rw [h, Int.one_mul]; omega
        · rw [h, Int.neg_mul, Int.one_mul, Int.natAbs_neg]; omega
    · have hsg := colSt_sign T mask ns i
      rcases hsg with h | h
      · rw [h]; decide
      · rw [h]; decide
  · rw [if_neg (by intro q; have := eq_of_beq q; exact hb (by exact_mod_cast this))]
    refine wpAny_execs_nil (wpAny_execs_nil ?_)
    have ec : colSt T mask ns (i + 1) = colSt T mask ns i := by
      conv => lhs; unfold colSt
      rw [if_neg hb]
    exact K _ _ _ (fun _ _ _ => rfl) (by rw [ec]; exact m5) (by rw [ec]; exact m6) D
end
end Mine
end
-- Mi2
section
open PySem PySem.W PyProof.Rows PySem.Calls
set_option Elab.async false
set_option maxRecDepth 100000
namespace Mine
section
variable {w : World} {mg mb : Str → Option Value} {h₀ : Heap} {A : Around} {E : Value → Shared → Prop} {s : Shared} {Q : Value → Shared → Prop} {QF : Flow → Shared → Prop} {l r : List (Addr × Itm)} {env : Env} {L : Addr} {m : Str → Option Value}
/-- range(4, -1, -1) -/
theorem rng_down {t u v : Tok} (D : Led h₀ s.heap l) (h : ∀ h' tk it, Led h₀ h' ((it, ritI (4 + ((0 : Nat) : Int) * (-1)) (((5 : Nat) : Int) - ((0 : Nat) : Int)) (-1)) :: l) → Q (.ref it) { s with heap := h', toks := tk }) :
    wpAny (model prog w) A (call (.type "range") [.int 4 t, .int (-1) u, .int (-1) v]) (fun xv s₁ => wpAny (model prog w) A (pyIter xv) Q E s₁) E s := by
  refine call_range_3 (by decide) ?_ (.inl (by decide +kernel))
  have D2 := D.push (o := { cls := .type "range", data := .fields #[.int 4 t, .int (-1) u, .int (-1) v] }) (P := anyI) rfl trivial
  refine wpAny_pyIter_range (IsRange.new ..) (by decide) ?_
  have D3 := D2.push (o := { cls := .type "range_iterator", data := .fields #[rawInt 4, rawInt (Builtin.Range.rangeSize 4 (-1) (-1)), rawInt (-1)] }) (P := ritI (4 + ((0 : Nat) : Int) * (-1)) (((5 : Nat) : Int) - ((0 : Nat) : Int)) (-1)) rfl (by
    show _ = _
    have e : Builtin.Range.rangeSize 4 (-1) (-1) = ((5 : Nat) : Int) - ((0 : Nat) : Int) := by decide
    rw [e]; rfl)
  exact h _ _ _ (D3.perm (List.Perm.swap ..)).drop
theorem mi_turn {T : Nat → Nat → Int} {i : Nat} {ta ml cl : Addr} {tl ms cs : List Value} {tm : Tok} {S : Addr × Itm} (G : Gr w mg mb h₀) (H : EF env miScope (miCells L) L) (hi : i < 31)
    (m1 : m (Str.ofString "table") = some (.ref ta)) (m2 : m (Str.ofString "mask") = some (.int ((i + 1 : Nat) : Int) tm)) (m3 : m (Str.ofString "counts") = some (.ref cl))
    (D : Led h₀ s.heap ((L, nsI m) :: S :: (L + 1, cellI (some (.ref ml))) :: (cl, lstI cs) :: (ml, lstI ms) :: l)) (hcs : IntsAre cs ((List.range (i + 1)).map fun n => (pcN n : Int))) (hms : IntsAre ms (minL T i))
    (hta : (ta, lstI tl) ∈ l) (hrow : ∀ a, a < 5 → ∃ ra vs, tl[a]? = some (.ref ra) ∧ (ra, lstI vs) ∈ l ∧ ∀ j, j < 5 → IntAt vs j (T a j)) (hTb : ∀ a b, a < 5 → b < 5 → (T a b).natAbs < 2 ^ 30) (hh : A.handled = none)
    (K : ∀ h' tk' m' cs' ms', m' (Str.ofString "table") = some (.ref ta) → m' (Str.ofString "counts") = some (.ref cl) → IntsAre cs' ((List.range (i + 2)).map fun n => (pcN n : Int)) → IntsAre ms' (minL T (i + 1)) →
      Led h₀ h' ((L, nsI m') :: S :: (L + 1, cellI (some (.ref ml))) :: (cl, lstI cs') :: (ml, lstI ms') :: l) → QF .next { s with heap := h', toks := tk' }) :
    wpAny (model prog w) A (execs miTurn env) QF E s := by
  have hL := H.lo
  subst hL
  have hi4 : interactive env = false := by unfold interactive; rw [H.k0]; rfl
  have hcl : cs.length = i + 1 := by have := hcs.length; simpa using this
  have hml : ms.length = i + 1 := by have := hms.length; rw [minL_len] at this; exact this
  have hp := pc_pos (i + 1) (by omega) (by omega)
  obtain ⟨t1, e1⟩ : ∃ t, cs[(i + 1) / 2]? = some (.int (pcN ((i + 1) / 2) : Nat) t) := by
    obtain ⟨t, e⟩ := ints_at hcs (i := (i + 1) / 2) (by rw [List.length_map, List.length_range]; omega)
    refine ⟨t, ?_⟩
    rw [e]
    have : (i + 1) / 2 < i + 1 := by omega
    simp [List.getD_eq_getElem?_getD, this]
  -- counts.append(..)
  refine wpAny_execs_cons (wpAny_Expr (MethodCall_ (nL H D (.head _) (v := .ref cl) m3 ?_)) hi4)
  with_reducible refine gm_list rfl D (its := cs) (List.mem_of_getElem? (i := 3) rfl) slot_app' PySem.F.type_list_append ?_
  refine callB1 ?_
  refine wpAny_BinOp (Subscript_ (nL H D (.head _) m3 (wpAny_BinOp (nL H D (.head _) m2 (wpAny_Constant_int (floordiv_int (by decide) ?_ (.inl (PyProof.noPylong_small (by omega)))))))))
  have e2 : (((i + 1 : Nat) : Int)).fdiv 2 = ((i + 1) / 2 : Nat) := by rw [Int.fdiv_eq_ediv_of_nonneg _ (by decide)]; omega
  refine itemL D (List.mem_of_getElem? (i := 3) rfl) e2 (by omega) e1 ?_
  refine wpAny_BinOp (nL H D (.head _) m2 (wpAny_Constant_int (mod_int' (by decide) (add_int ?_))))
  have e3 : ((pcN ((i + 1) / 2) : Nat) : Int) + (((i + 1 : Nat) : Int)).fmod 2 = (pcN (i + 1) : Nat) := by
    rw [Int.fmod_eq_emod_of_nonneg _ (by decide), ← pc_half (i + 1) (by omega)]; push_cast; rfl
  rw [e3]
  refine app_l (i := 3) D rfl (by omega) fun h1 D => ?_
  dsimp only
  have hcs2 : ∀ t, IntsAre (cs ++ [.int (pcN (i + 1) : Nat) t]) ((List.range (i + 2)).map fun n => (pcN n : Int)) := by
    intro t; rw [List.range_succ, List.map_append]; exact ints_snoc hcs
  generalize hcsv : cs ++ [Value.int (pcN (i + 1) : Nat) _] = cs2 at D
  replace hcs2 : IntsAre cs2 ((List.range (i + 2)).map fun n => (pcN n : Int)) := by rw [← hcsv]; exact hcs2 _
  replace D : Led h₀ h1 ((env.locals, nsI m) :: S :: (env.locals + 1, cellI (some (.ref ml))) :: (cl, lstI cs2) :: (ml, lstI ms) :: l) := D
  obtain ⟨t2, e4⟩ : ∃ t, cs2[i + 1]? = some (.int (pcN (i + 1) : Nat) t) := by
    obtain ⟨t, e⟩ := ints_at hcs2 (i := i + 1) (by rw [List.length_map, List.length_range]; omega)
    refine ⟨t, ?_⟩
    rw [e]
    simp [List.getD_eq_getElem?_getD]
  -- row, total, sign
  refine wpAny_execs_cons (wpAny_Assign_Name (wpAny_BinOp (Subscript_ (nL H D (.head _) m3 (nL H D (.head _) m2 (itemL D (List.mem_of_getElem? (i := 3) rfl) rfl (by omega) e4 (wpAny_Constant_int (sub_int ?_))))))))
  have e5 : ((pcN (i + 1) : Nat) : Int) - 1 = ((pcN (i + 1) - 1 : Nat) : Int) := by omega
  rw [e5]
  refine sL H D fun h2 D => ?_
  dsimp only
  refine wpAny_execs_cons (wpAny_Assign_Name (wpAny_Constant_int (sL H D fun h3 D => ?_)))
  dsimp only
  refine wpAny_execs_cons (wpAny_Assign_Name (wpAny_Constant_int (sL H D fun h4 D => ?_)))
  dsimp only
  -- the columns
  obtain ⟨ra, vs, r1, r2, r3⟩ := hrow (pcN (i + 1) - 1) (by omega)
  refine wpAny_execs_cons ?_
  refine wpAny_For ?_
  refine wpAny_Call_NameR ?_
  refine nB H G D (by kernel_rfl) (v := .type "range") (by kernel_rfl) ?_
  refine callT3 (wpAny_Constant_int (wpAny_UnaryOp (wpAny_Constant_int (neg_int (wpAny_UnaryOp (wpAny_Constant_int (neg_int ?_)))))))
  refine rng_down D fun h5 tk5 it D5 => ?_
  refine for_src (x := Str.ofString "column") (src_range hh) (fun j m' r => (m' (Str.ofString "table") = some (.ref ta) ∧ m' (Str.ofString "counts") = some (.ref cl) ∧ m' (Str.ofString "mask") = some (.int ((i + 1 : Nat) : Int) tm) ∧ ∃ t, m' (Str.ofString "row") = some (.int ((pcN (i + 1) - 1 : Nat) : Int) t)) ∧
      (∃ t, m' (Str.ofString "total") = some (.int (colSt T (i + 1) (minL T i) j).1 t)) ∧ (∃ t, m' (Str.ofString "sign") = some (.int (colSt T (i + 1) (minL T i) j).2 t)) ∧
      r = S :: (env.locals + 1, cellI (some (.ref ml))) :: (cl, lstI cs2) :: (ml, lstI ms) :: l) (H.k rfl) H.e4
    (D5.perm (.swap _ _ _)) ⟨⟨?_, ?_, ?_, ?_⟩, ⟨_, (if_neg (by decide)).trans (if_pos rfl)⟩, ⟨_, if_pos rfl⟩, rfl⟩ (fun i m' r p q _ hJ => trivial) ?_ ?_
  · exact (if_neg (by decide)).trans ((if_neg (by decide)).trans ((if_neg (by decide)).trans m1))
  · exact (if_neg (by decide)).trans ((if_neg (by decide)).trans ((if_neg (by decide)).trans m3))
  · exact (if_neg (by decide)).trans ((if_neg (by decide)).trans ((if_neg (by decide)).trans m2))
  · exact ⟨_, (if_neg (by decide)).trans ((if_neg (by decide)).trans (if_pos rfl))⟩
  · rintro j m' _ h6 tk6 v E' hj ⟨tv, rfl⟩ ⟨⟨n1, n2, n3, t4, n4⟩, ⟨t5, n5⟩, ⟨t6, n6⟩, rfl⟩ D6
    have e6 : (4 : Int) + (j : Int) * -1 = ((4 - j : Nat) : Int) := by omega
    rw [e6] at D6
    refine mi_col (T := T) (mask := i + 1) (i := j) (ns := minL T i) (vs := vs) (tl := tl) (ms := ms) (ml := ml) (tc := tv) H (by omega) hj ((if_neg (by decide)).trans n1) ((if_neg (by decide)).trans n3) ((if_neg (by decide)).trans n4) (if_pos rfl) ⟨t5, (if_neg (by decide)).trans n5⟩ ⟨t6, (if_neg (by decide)).trans n6⟩ D6
      (.tail _ (.tail _ (.head _))) (.tail _ (.tail _ (.tail _ (.tail _ (.head _))))) hms (minL_len T i) (.tail _ (.tail _ (.tail _ (.tail _ (.tail _ hta))))) r1 (.tail _ (.tail _ (.tail _ (.tail _ (.tail _ r2))))) r3 hTb fun h7 tk7 m7 hm7 k5 k6 D7 => ?_
    refine ⟨rfl, h7, tk7, m7, _, rfl, ⟨⟨?_, ?_, ?_, t4, ?_⟩, k5, k6, rfl⟩, D7⟩
    · exact (hm7 _ (by decide) (by decide)).trans ((if_neg (by decide)).trans n1)
    · exact (hm7 _ (by decide) (by decide)).trans ((if_neg (by decide)).trans n2)
    · exact (hm7 _ (by decide) (by decide)).trans ((if_neg (by decide)).trans n3)
    · exact (hm7 _ (by decide) (by decide)).trans ((if_neg (by decide)).trans n4)
  · rintro m' _ h6 tk6 ⟨⟨n1, n2, n3, t4, n4⟩, ⟨t5, n5⟩, _, rfl⟩ D6
    dsimp only
    replace D6 := D6.sub (.cons_cons _ (.cons _ (List.Sublist.refl _)))
    refine wpAny_execs_cons (wpAny_Expr (MethodCall_ (nC H D6 (c := env.locals + 1) (v := .ref ml) (.tail _ (.tail _ (.head _))) ?_)) hi4)
    with_reducible refine gm_list rfl D6 (its := ms) (List.mem_of_getElem? (i := 4) rfl) slot_app' PySem.F.type_list_append ?_
    refine callB1 (nL H D6 (.head _) n5 ?_)
    refine app_l (i := 4) D6 rfl (by omega) fun h7 D7 => ?_
    refine wpAny_execs_nil (K _ _ m' cs2 _ n1 n2 hcs2 ?_ D7)
    rw [show minL T (i + 1) = minL T i ++ [(colSt T (i + 1) (minL T i) 5).1] from rfl]
    exact ints_snoc hms
end
end Mine
end
-- Mi3
section
open PySem PySem.W PyProof.Rows PySem.Calls
set_option Elab.async false
set_option maxRecDepth 100000
namespace Mine
section
variable {w : World} {mg mb : Str → Option Value} {h₀ : Heap} {A : Around} {E : Value → Shared → Prop} {s : Shared} {Q : Value → Shared → Prop} {QF : Flow → Shared → Prop} {l r : List (Addr × Itm)} {env : Env} {L : Addr} {m : Str → Option Value}
theorem mi_enter {ta : Value} (G : Gr w mg mb h₀) (D : Led h₀ s.heap l) (hA : A.depth < recursionLimit)
    (h : ∀ env h₁ tk L m, EF env miScope (miCells L) L → m (Str.ofString "table") = some ta → Led h₀ h₁ ((L, nsI m) :: (L + 1, cellI none) :: l) →
      wpAny (model prog w) (A.deeper env) (execs miBody env) (fun f s' => Q (match f with | .ret v => v | _ => .none) s') (fun _ _ => False) { s with heap := h₁, toks := tk }) :
    wpAny (model prog w) A (call (.ref 128) [ta]) Q E s := by
  refine call_of (code_cells (binds := [(Str.ofString "table", ta)]) (D.keep _ _ (G.X 128 _ rfl)) rfl rfl (Heap.CodeRec.keeps ⟨_, _, _, _, rfl, G.X 127 _ rfl, rfl, rfl⟩ D.keep) (G.lim.keeps D.keep) rfl rfl (fun y hy => ?_) hA ?_)
  · rw [List.mem_singleton.mp hy]; exact .inl rfl
  intro h₁ tk hns hk hc
  have t1 := hc (Str.ofString "minors") (s.heap.objs.size + 1) rfl
  obtain ⟨m, hns, mt⟩ : ∃ m, h₁.Ns s.heap.objs.size m ∧ m (Str.ofString "table") = some ta := ⟨_, hns, rfl⟩
  refine h _ h₁ tk s.heap.objs.size m ⟨rfl, rfl, rfl, rfl, rfl, rfl⟩ mt (D.app hk (Nat.le_of_lt hns.lt) [(s.heap.objs.size, nsI m), (s.heap.objs.size + 1, cellI none)] ?_ ?_)
  · intro p hp
    simp only [List.mem_cons, List.not_mem_nil, or_false] at hp
    rcases hp with rfl | rfl
    · exact ⟨Nat.le_refl _, At.of_ns hns⟩
    · exact ⟨Nat.le_succ _, t1⟩
  · simp
theorem perm4 {α : Type _} (a b c d : α) : [a, b, c, d].Perm [b, d, c, a] := List.Perm.map (fun i => [a, b, c, d].getD i a) (show [0, 1, 2, 3].Perm [1, 3, 2, 0] by decide)
def minsOf (T : Nat → Nat → Int) : List Int := (List.range 5).map fun k => (minL T 31).getD (2 ^ (k + 1) - 1) 0
theorem mi_ct {T : Nat → Nat → Int} {ta : Addr} {tl : List Value} (G : Gr w mg mb h₀) (D : Led h₀ s.heap l)
    (hta : (ta, lstI tl) ∈ l) (hrow : ∀ a, a < 5 → ∃ ra vs, tl[a]? = some (.ref ra) ∧ (ra, lstI vs) ∈ l ∧ ∀ j, j < 5 → IntAt vs j (T a j)) (hTb : ∀ a b, a < 5 → b < 5 → (T a b).natAbs < 2 ^ 30) (hA : A.depth < recursionLimit) (hh : A.handled = none)
    (K : ∀ h' tk' a ys, IntsAre ys (minsOf T) → Led h₀ h' ((a, lstI ys) :: l) → Q (.ref a) { s with heap := h', toks := tk' }) :
    wpAny (model prog w) A (call (.ref 128) [.ref ta]) Q E s := by
  refine mi_enter G D hA fun env h₁ tk L m H mt D => ?_
  have hh1 : (A.deeper env).handled = none := hh
  generalize A.deeper env = A1 at hh1 ⊢
  have hL := H.lo
  subst hL
  refine wpAny_execs_cons (wpAny_Assign_Name (mkL1 (wpAny_Constant_int ⟨_, D, fun h' cl D => sL H (D.perm (.swap _ _ _)) fun h' D => ?_⟩)))
  dsimp only
  refine wpAny_execs_cons (wpAny_Assign_Name (mkL1 (wpAny_Constant_int ⟨_, D, fun h' ml D => sC H (i := 3) D rfl fun h' D => ?_⟩)))
  dsimp only
  generalize hcs : [Value.int 0 _] = cs at D
  generalize hms : [Value.int 1 _] = ms at D
  have hcs' : IntsAre cs [0] := by rw [← hcs]; exact .cons _ _ .nil
  have hms' : IntsAre ms [1] := by rw [← hms]; exact .cons _ _ .nil
  replace D : Led h₀ h' ((ml, lstI ms) :: (env.locals, nsI _) :: (cl, lstI cs) :: (env.locals + 1, cellI (some (.ref ml))) :: l) := D
  replace D := D.perm ((perm4 _ _ _ _).append_right l)
  -- the loop
  refine wpAny_execs_cons ?_
  refine wpAny_For ?_
  refine wpAny_Call_NameR ?_
  refine nB H G (D : Led h₀ h' ((env.locals, nsI _) :: (env.locals + 1, cellI (some (.ref ml))) :: (cl, lstI cs) :: (ml, lstI ms) :: l)) (by kernel_rfl) (v := .type "range") (by kernel_rfl) ?_
  refine callT2 (wpAny_Constant_int (wpAny_Constant_int ?_))
  refine rng2 (a := 1) (n := 31) (b := 32) D rfl (by decide) fun h1 tk1 it D1 => ?_
  refine for_src (x := Str.ofString "mask") (src_range hh1) (fun i m' r => (m' (Str.ofString "table") = some (.ref ta) ∧ m' (Str.ofString "counts") = some (.ref cl)) ∧
      ∃ cs ms, r = (env.locals + 1, cellI (some (.ref ml))) :: (cl, lstI cs) :: (ml, lstI ms) :: l ∧ IntsAre cs ((List.range (i + 1)).map fun n => (pcN n : Int)) ∧ IntsAre ms (minL T i)) (H.k rfl) H.e4
    (D1.perm (.swap _ _ _)) ⟨⟨?_, ?_⟩, cs, ms, rfl, hcs', hms'⟩ (fun i m' r p q _ hJ => trivial) ?_ ?_
  · exact (if_neg (by decide)).trans mt
  · exact if_pos rfl
  · rintro i m' _ h2 tk2 v2 E' hi ⟨tv, rfl⟩ ⟨⟨m1, m2⟩, cs, ms, rfl, hcs, hms⟩ D2
    refine mi_turn (i := i) (T := T) (tm := tv) G H hi ((if_neg (by decide)).trans m1) ((if_pos rfl).trans ?_) ((if_neg (by decide)).trans m2) D2 hcs hms hta hrow hTb hh1 fun h3 tk3 m' cs' ms' m1 m2 hcs' hms' D3 => ⟨rfl, h3, tk3, m', _, rfl, ⟨⟨m1, m2⟩, cs', ms', rfl, hcs', hms'⟩, D3⟩
    congr 2
    show ((1 : Nat) : Int) + (i : Int) * 1 = ((i + 1 : Nat) : Int)
    omega
  · rintro m' _ hf tk ⟨⟨m1, m2⟩, cs, ms, rfl, hcs, hms⟩ D2
    dsimp only
    replace D2 : Led h₀ hf ((env.locals, nsI m') :: (it, anyI) :: (env.locals + 1, cellI (some (.ref ml))) :: (cl, lstI cs) :: (ml, lstI ms) :: l) := D2
    refine wpAny_execs_cons ?_
    refine wpAny_Return_some ?_
    refine comp_eval (h₀ := h₀) [(Str.ofString "minors", env.locals + 1)] none (H.clos rfl) (fun _ _ => rfl) (fun _ => rfl) rfl (by decide) ?_
    refine wpAny_Call_NameR ?_
    refine nB H G D2 (by kernel_rfl) (v := .type "range") (by kernel_rfl) ?_
    refine callT2 (wpAny_Constant_int (wpAny_Constant_int ?_))
    refine rng2 (a := 1) (n := 5) (b := 6) D2 rfl (by decide) fun h3 tk3 it3 D3 => ?_
    refine ⟨_, _, _, _, CompAt.src0 (src_range hh1) (fun i ys r => IntsAre ys ((List.range i).map fun k => (minL T 31).getD (2 ^ (k + 1) - 1) 0) ∧ r = (env.locals, nsI m') :: (it, anyI) :: (env.locals + 1, cellI (some (.ref ml))) :: (cl, lstI cs) :: (ml, lstI ms) :: l) rfl rfl D3 ⟨.nil, rfl⟩
      (fun _ _ _ _ _ _ _ _ => trivial) (by decide) ?_, ?_⟩
    · rintro C Dd i ys _ h4 tk4 m4 v E' hi ⟨tv, rfl⟩ ⟨hys, rfl⟩ hl D4 HC
      replace HC := HC _ _ _ H
      have hb : 2 ^ (i + 1) ≤ 32 := by
        have := Nat.pow_le_pow_right (n := 2) (by decide) (show i + 1 ≤ 5 by omega)
        exact this
      have hb0 : 0 < 2 ^ (i + 1) := Nat.two_pow_pos _
      have hml : 2 ^ (i + 1) - 1 < (minL T 31).length := by rw [minL_len]; omega
      obtain ⟨tq, hq⟩ := ints_at hms hml
      refine Subscript_ (nC HC D4 (c := env.locals + 1) (v := .ref ml) (.tail _ (.tail _ (.tail _ (.tail _ (.tail _ (.head _)))))) ?_)
      refine wpAny_BinOp (wpAny_BinOp (wpAny_Constant_int (nL HC D4 (.head _) (if_pos rfl) (pow_int (by omega) ?_ (wpAny_Constant_int (sub_int ?_))))))
      · have : (Builtin.Int.intBits 2 : Int) = 2 := by decide
        rw [this]; omega
      have e1 : (2 : Int) ^ (((1 : Nat) : Int) + (i : Int) * 1).toNat - 1 = ((2 ^ (i + 1) - 1 : Nat) : Int) := by
        have : (((1 : Nat) : Int) + (i : Int) * 1).toNat = i + 1 := by omega
        rw [this, Int.ofNat_sub hb0]; push_cast; rfl
      refine itemL D4 (.tail _ (.tail _ (.tail _ (.tail _ (.tail _ (.tail _ (.tail _ (.head _)))))))) e1 (by omega) hq ?_
      refine ⟨_, _, _, _, rfl, ⟨?_, rfl⟩, D4⟩
      rw [List.range_succ, List.map_append]
      exact ints_snoc hys
    · rintro Y h4 tk4 ys _ D4 ⟨_, rfl, hl, hys, rfl⟩
      refine K _ _ Y ys hys ?_
      exact D4.sub (.cons_cons _ (.cons _ (.cons _ (.cons _ (.cons _ (.cons _ (.cons _ (List.Sublist.refl _))))))))
end
end Mine
end
-- Eu1
section
open PySem PySem.W PyProof.Rows PySem.Calls
set_option Elab.async false
set_option maxRecDepth 100000
namespace Mine
def itI (T : String) (ax : Addr) (i : Nat) : Itm := fun o => o.cls = .type T ∧ o.data = .fields #[.ref ax, .int i 0]
def enI (it : Addr) (i : Nat) : Itm := fun o => ∃ old, o = { cls := .type "enumerate", dict := none, data := .fields #[.none, .bool false, .ref it, rawInt i, .none, old], slots := #[] }
section
variable {w : World} {h₀ : Heap} {A : Around} {E : Value → Shared → Prop} {s : Shared} {Q : Value → Shared → Prop} {l : List (Addr × Itm)}
theorem nxo_list {it ax : Addr} {i j : Nat} {its : List Value} {x : Value} {PP : Itm} (D : Led h₀ s.heap l) (hj : l[j]? = some (it, itI "list_iterator" ax i)) (hm : (ax, PP) ∈ l) (hP : ∀ o, PP o → ∃ n, o.data = .seq its.toArray n) (hx : its[i]? = some x)
    (h : ∀ h', Led h₀ h' (l.set j (it, itI "list_iterator" ax (i + 1))) → Q x { s with heap := h' }) : wpAny (model prog w) A (Builtin.SmallTypes.nextOf (.ref it)) Q E s := by
  obtain ⟨ol, hol, hpl⟩ := D.getM hm
  obtain ⟨nl, hdl⟩ := hP ol hpl
  obtain ⟨o, ho, hc, hd⟩ := D.get j hj
  have hT : s.TypeIs (.ref it) "list_iterator" := ⟨o, ho, hc⟩
  unfold Builtin.SmallTypes.nextOf
  refine wpAny_bind (wpAny_callSpecial?_slot (name := Str.ofString "__next__") hT slot_listiter_next
    (wpAny_call_entry slot_listiter_next hT entry_listiter_next ?_ (args_listiter_next _)))
  show wpAny _ _ (field (.ref it) 0 >>= _) _ _ s
  refine wpAny_bind (wpAny_field ho hd (x := .ref ax) rfl ?_)
  show wpAny _ _ (if (Value.ref ax == Value.none) = true then _ else _) _ _ s
  rw [if_neg (show ¬ ((Value.ref ax == Value.none) = true) from Bool.false_ne_true)]
  show wpAny _ _ (field (.ref it) 1 >>= _) _ _ s
  refine wpAny_bind (wpAny_field ho hd (x := .int i 0) rfl ?_)
  show wpAny _ _ (seqItems? (.ref ax) >>= _) _ _ s
  refine wpAny_bind (wpAny_seqItems hol hdl ?_)
  simp only [Int.toNat_natCast, show its.toArray[i]? = some x by simpa using hx]
  refine wpAny_bind (wpAny_setField ho hd (by simp) (wpAny_pure ⟨x, rfl, wpAny_pure (h _ (D.same j hj (Heap.SameBut.update ..) ?_))⟩))
  exact ⟨_, Heap.get?_update_self _ ho (Obj.isFreed_of_fields (Obj.data_mapFields hd _)), (Obj.cls_mapFields ..).trans hc, by
    rw [Obj.data_mapFields hd]; simp [rawInt]⟩
theorem nxe_list {it ax : Addr} {j : Nat} {its : List Value} {PP : Itm} (hh : A.handled = none) (D : Led h₀ s.heap l) (hj : l[j]? = some (it, itI "list_iterator" ax its.length)) (hm : (ax, PP) ∈ l) (hP : ∀ o, PP o → ∃ n, o.data = .seq its.toArray n)
    (h : ∀ h' e, Led h₀ h' (l.set j (it, anyI)) → (∃ o, h'.get? e = some o ∧ o.cls = .type "StopIteration") → E (.ref e) { s with heap := h' }) : wpAny (model prog w) A (Builtin.SmallTypes.nextOf (.ref it)) Q E s := by
  obtain ⟨ol, hol, hpl⟩ := D.getM hm
  obtain ⟨nl, hdl⟩ := hP ol hpl
  obtain ⟨o, ho, hc, hd⟩ := D.get j hj
  have hT : s.TypeIs (.ref it) "list_iterator" := ⟨o, ho, hc⟩
  unfold Builtin.SmallTypes.nextOf
  refine wpAny_bind (wpAny_callSpecial?_slot (name := Str.ofString "__next__") hT slot_listiter_next
    (wpAny_call_entry slot_listiter_next hT entry_listiter_next ?_ (args_listiter_next _)))
  show wpAny _ _ (field (.ref it) 0 >>= _) _ _ s
  refine wpAny_bind (wpAny_field ho hd (x := .ref ax) rfl ?_)
  show wpAny _ _ (if (Value.ref ax == Value.none) = true then _ else _) _ _ s
  rw [if_neg (show ¬ ((Value.ref ax == Value.none) = true) from Bool.false_ne_true)]
  show wpAny _ _ (field (.ref it) 1 >>= _) _ _ s
  refine wpAny_bind (wpAny_field ho hd (x := .int its.length 0) rfl ?_)
  show wpAny _ _ (seqItems? (.ref ax) >>= _) _ _ s
  refine wpAny_bind (wpAny_seqItems hol hdl ?_)
  simp only [Int.toNat_natCast, show its.toArray[its.length]? = none by simp]
  refine wpAny_bind (wpAny_rule (wpAny_bind (wpAny_setField ho hd (by simp) ?_)))
  show wpAny _ _ (newExc (.type "StopIteration") [] >>= _) _ _ _
  refine wpAny_bind ?_
  simp only [newExc, newTuple]
  refine wpAny_bind (wpAny_newObj_type ?_ (by size_fits))
  refine wpAny_bind (m := firstArgMember _ _) (wpAny_of_eq (a := Value.none) (by first | rfl | (simp only [firstArgMember]; rfl)) ?_)
  refine wpAny_newObj_type ?_ (by size_fits)
  simp only [raiseNew]
  refine wpAny_bind (wpAny_handled ?_)
  first | rw [show A.in1.handled = none from hh] | rw [hh]
  refine wpAny_bind (wpAny_pure (wpAny_throw ?_))
  have D1 := D.upd (P' := anyI) j hj ho (f := Obj.mapFields (fun vs => vs.setIfInBounds 0 .none)) (Obj.isFreed_of_fields (Obj.data_mapFields hd _)) trivial
  exact h _ _ (D1.grow2 _ _) ⟨_, Heap.get?_push_size _ rfl, rfl⟩
theorem nxo_tuple {it ax : Addr} {i j : Nat} {its : List Value} {x : Value} {PP : Itm} (D : Led h₀ s.heap l) (hj : l[j]? = some (it, itI "tuple_iterator" ax i)) (hm : (ax, PP) ∈ l) (hP : ∀ o, PP o → ∃ n, o.data = .seq its.toArray n) (hx : its[i]? = some x)
    (h : ∀ h', Led h₀ h' (l.set j (it, itI "tuple_iterator" ax (i + 1))) → Q x { s with heap := h' }) : wpAny (model prog w) A (Builtin.SmallTypes.nextOf (.ref it)) Q E s := by
  obtain ⟨ol, hol, hpl⟩ := D.getM hm
  obtain ⟨nl, hdl⟩ := hP ol hpl
  obtain ⟨o, ho, hc, hd⟩ := D.get j hj
  have hT : s.TypeIs (.ref it) "tuple_iterator" := ⟨o, ho, hc⟩
  unfold Builtin.SmallTypes.nextOf
  refine wpAny_bind (wpAny_callSpecial?_slot (name := Str.ofString "__next__") hT PySem.F.slot_tuple_iterator_next
    (wpAny_call_entry PySem.F.slot_tuple_iterator_next hT PySem.F.entry_tuple_iterator_next ?_ (PySem.F.args_tuple_iterator_next_1 _)))
  show wpAny _ _ (field (.ref it) 0 >>= _) _ _ s
  refine wpAny_bind (wpAny_field ho hd (x := .ref ax) rfl ?_)
  show wpAny _ _ (if (Value.ref ax == Value.none) = true then _ else _) _ _ s
  rw [if_neg (show ¬ ((Value.ref ax == Value.none) = true) from Bool.false_ne_true)]
  show wpAny _ _ (field (.ref it) 1 >>= _) _ _ s
  refine wpAny_bind (wpAny_field ho hd (x := .int i 0) rfl ?_)
  show wpAny _ _ (seqItems? (.ref ax) >>= _) _ _ s
  refine wpAny_bind (wpAny_seqItems hol hdl ?_)
  simp only [Int.toNat_natCast, show its.toArray[i]? = some x by simpa using hx]
  refine wpAny_bind (wpAny_setField ho hd (by simp) (wpAny_pure ⟨x, rfl, wpAny_pure (h _ (D.same j hj (Heap.SameBut.update ..) ?_))⟩))
  exact ⟨_, Heap.get?_update_self _ ho (Obj.isFreed_of_fields (Obj.data_mapFields hd _)), (Obj.cls_mapFields ..).trans hc, by
    rw [Obj.data_mapFields hd]; simp [rawInt]⟩
theorem nxe_tuple {it ax : Addr} {j : Nat} {its : List Value} {PP : Itm} (hh : A.handled = none) (D : Led h₀ s.heap l) (hj : l[j]? = some (it, itI "tuple_iterator" ax its.length)) (hm : (ax, PP) ∈ l) (hP : ∀ o, PP o → ∃ n, o.data = .seq its.toArray n)
    (h : ∀ h' e, Led h₀ h' (l.set j (it, anyI)) → (∃ o, h'.get? e = some o ∧ o.cls = .type "StopIteration") → E (.ref e) { s with heap := h' }) : wpAny (model prog w) A (Builtin.SmallTypes.nextOf (.ref it)) Q E s := by
  obtain ⟨ol, hol, hpl⟩ := D.getM hm
  obtain ⟨nl, hdl⟩ := hP ol hpl
  obtain ⟨o, ho, hc, hd⟩ := D.get j hj
  have hT : s.TypeIs (.ref it) "tuple_iterator" := ⟨o, ho, hc⟩
  unfold Builtin.SmallTypes.nextOf
  refine wpAny_bind (wpAny_callSpecial?_slot (name := Str.ofString "__next__") hT PySem.F.slot_tuple_iterator_next
    (wpAny_call_entry PySem.F.slot_tuple_iterator_next hT PySem.F.entry_tuple_iterator_next ?_ (PySem.F.args_tuple_iterator_next_1 _)))
  show wpAny _ _ (field (.ref it) 0 >>= _) _ _ s
  refine wpAny_bind (wpAny_field ho hd (x := .ref ax) rfl ?_)
  show wpAny _ _ (if (Value.ref ax == Value.none) = true then _ else _) _ _ s
  rw [if_neg (show ¬ ((Value.ref ax == Value.none) = true) from Bool.false_ne_true)]
  show wpAny _ _ (field (.ref it) 1 >>= _) _ _ s
  refine wpAny_bind (wpAny_field ho hd (x := .int its.length 0) rfl ?_)
  show wpAny _ _ (seqItems? (.ref ax) >>= _) _ _ s
  refine wpAny_bind (wpAny_seqItems hol hdl ?_)
  simp only [Int.toNat_natCast, show its.toArray[its.length]? = none by simp]
  refine wpAny_bind (wpAny_rule (wpAny_bind (wpAny_setField ho hd (by simp) ?_)))
  show wpAny _ _ (newExc (.type "StopIteration") [] >>= _) _ _ _
  refine wpAny_bind ?_
  simp only [newExc, newTuple]
  refine wpAny_bind (wpAny_newObj_type ?_ (by size_fits))
  refine wpAny_bind (m := firstArgMember _ _) (wpAny_of_eq (a := Value.none) (by first | rfl | (simp only [firstArgMember]; rfl)) ?_)
  refine wpAny_newObj_type ?_ (by size_fits)
  simp only [raiseNew]
  refine wpAny_bind (wpAny_handled ?_)
  first | rw [show A.in1.handled = none from hh] | rw [hh]
  refine wpAny_bind (wpAny_pure (wpAny_throw ?_))
  have D1 := D.upd (P' := anyI) j hj ho (f := Obj.mapFields (fun vs => vs.setIfInBounds 0 .none)) (Obj.isFreed_of_fields (Obj.data_mapFields hd _)) trivial
  exact h _ _ (D1.grow2 _ _) ⟨_, Heap.get?_push_size _ rfl, rfl⟩
end
end Mine
end
-- Eu2
section
open PySem PySem.W PyProof.Rows PySem.Calls
set_option Elab.async false
set_option maxRecDepth 100000
set_option linter.unusedVariables false
namespace Mine
def enO (it : Addr) (i : Nat) (ta : Addr) : Itm := fun o => ∃ item, o = { cls := .type "enumerate", dict := none, data := .fields #[rawInt ta, .bool false, .ref it, rawInt i, .none, item], slots := #[] }
structure NX (w : World) (h₀ : Heap) (it : Addr) (IT : Nat → Itm) (need : List (Addr × Itm) → Prop) (its : List Value) : Prop where
  nx : ∀ (A : Around) (Q : Value → Shared → Prop) (E : Value → Shared → Prop) (s : Shared) (l : List (Addr × Itm)) (j i : Nat) (x : Value), its[i]? = some x → need l → l[j]? = some (it, IT i) → Led h₀ s.heap l →
    (∀ h', Led h₀ h' (l.set j (it, IT (i + 1))) → Q x { s with heap := h' }) → wpAny (model prog w) A (Builtin.SmallTypes.nextOf (.ref it)) Q E s
  nd : ∀ (A : Around) (Q : Value → Shared → Prop) (E : Value → Shared → Prop) (s : Shared) (l : List (Addr × Itm)) (j : Nat), A.handled = none → need l → l[j]? = some (it, IT its.length) → Led h₀ s.heap l →
    (∀ h' e, Led h₀ h' (l.set j (it, anyI)) → (∃ o, h'.get? e = some o ∧ o.cls = .type "StopIteration") → E (.ref e) { s with heap := h' }) → wpAny (model prog w) A (Builtin.SmallTypes.nextOf (.ref it)) Q E s
section
variable {w : World} {h₀ : Heap} {A : Around} {E : Value → Shared → Prop} {s : Shared} {r : List (Addr × Itm)} {a b : Addr × Itm} {e it : Addr} {IT : Nat → Itm} {need : List (Addr × Itm) → Prop} {its : List Value}
theorem nx_list {ax : Addr} : NX w h₀ it (itI "list_iterator" ax) (fun l => ∃ PP, (ax, PP) ∈ l ∧ ∀ o, PP o → ∃ n, o.data = .seq its.toArray n) its :=
  ⟨fun A Q E s l j i x hx ⟨PP, hm, hP⟩ hj D h => nxo_list D hj hm hP hx h, fun A Q E s l j hh ⟨PP, hm, hP⟩ hj D h => nxe_list hh D hj hm hP h⟩
theorem nx_tuple {ax : Addr} : NX w h₀ it (itI "tuple_iterator" ax) (fun l => ∃ PP, (ax, PP) ∈ l ∧ ∀ o, PP o → ∃ n, o.data = .seq its.toArray n) its :=
  ⟨fun A Q E s l j i x hx ⟨PP, hm, hP⟩ hj D h => nxo_tuple D hj hm hP hx h, fun A Q E s l j hh ⟨PP, hm, hP⟩ hj D h => nxe_tuple hh D hj hm hP h⟩
theorem en_next {Q : Option Value → Shared → Prop} {i : Nat} {x : Value} (X : NX w h₀ it IT need its) (D : Led h₀ s.heap (a :: b :: (e, enI it i) :: (it, IT i) :: r)) (hx : its[i]? = some x) (hneed : need (a :: b :: (e, enI it i) :: (it, IT i) :: r))
    (K : ∀ h' tk ta t, Led h₀ h' ((ta, tupI [.int i t, x]) :: a :: b :: (e, enO it (i + 1) ta) :: (it, IT (i + 1)) :: r) → Q (some (.ref ta)) { s with heap := h', toks := tk }) :
    wpAny (model prog w) A (pyNext (.ref e)) Q E s := by
  obtain ⟨old, he⟩ : ∃ old, IsEnum s.heap e it i old := by obtain ⟨o, ho, old, rfl⟩ := D.get 2 rfl; exact ⟨old, ho⟩
  have hT : s.TypeIs (.ref e) "enumerate" := ⟨_, he, rfl⟩
  unfold pyNext
  refine wpAny_bind (wpAny_attempt (wpAny_callSpecial?_slot (name := Str.ofString "__next__") hT PySem.F.slot_enumerate_next
    (wpAny_call_entry PySem.F.slot_enumerate_next hT PySem.F.entry_enumerate_next ?_ (PySem.F.args_enumerate_next_1 _))))
  show wpAny _ _ (field (.ref e) 2 >>= _) _ _ _
  refine wpAny_bind (wpAny_field he rfl (x := .ref it) rfl ?_)
  refine wpAny_bind (X.nx _ _ _ s _ 3 i x hx hneed rfl D fun h₁ D1 => ?_)
  dsimp only [List.set_cons_succ, List.set_cons_zero] at D1 ⊢
  clear he
  obtain ⟨old, he₁⟩ : ∃ old, IsEnum h₁ e it i old := by obtain ⟨o, ho, old, rfl⟩ := D1.get 2 rfl; exact ⟨old, ho⟩
  obtain ⟨hp, g, d, tk, os⟩ := s
  show wpAny _ _ (field (.ref e) 3 >>= _) _ _ ⟨h₁, g, d, tk, os⟩
  refine wpAny_bind (wpAny_field he₁ rfl (x := rawInt i) rfl ?_)
  show wpAny _ _ (field (.ref e) 4 >>= _) _ _ ⟨h₁, g, d, tk, os⟩
  refine wpAny_bind (wpAny_field he₁ rfl (x := .none) rfl ?_)
  show wpAny _ _ (mkInt i >>= _) _ _ ⟨h₁, g, d, tk, os⟩
  refine wpAny_bind (wpAny_mkInt ?_)
  show wpAny _ _ (setField (.ref e) 3 (rawInt ((i : Int) + 1)) >>= _) _ _ ⟨h₁, g, d, tk + 1, os⟩
  refine wpAny_bind (wpAny_setField_rec he₁ (by simp) fun h₂ he₂ hs₂ => ?_)
  replace he₂ : IsEnum h₂ e it ((i : Int) + 1) old := he₂
  replace D1 := D1.same (P' := anyI) 2 rfl hs₂ ⟨_, he₂, trivial⟩
  show wpAny _ _ (setField (.ref e) 4 .none >>= _) _ _ ⟨h₂, g, d, tk + 1, os⟩
  refine wpAny_bind (wpAny_setField_rec he₂ (by simp) fun h₃ he₃ hs₃ => ?_)
  replace he₃ : IsEnum h₃ e it ((i : Int) + 1) old := he₃
  replace D1 := D1.same (P' := anyI) 2 rfl hs₃ ⟨_, he₃, trivial⟩
  show wpAny _ _ (newTuple [.int i tk, x] >>= _) _ _ ⟨h₃, g, d, tk + 1, os⟩
  refine wpAny_bind (wpAny_newTuple ?_)
  have D2 := D1.push (o := { cls := .type "tuple", data := .seq #[.int i tk, x] }) (P := tupI [.int i tk, x]) rfl ⟨_, rfl⟩
  have he₄ : IsEnum (h₃.push { cls := .type "tuple", data := .seq #[.int i tk, x] }) e it ((i : Int) + 1) old := Heap.get?_push_of_some _ he₃
  generalize hta : h₃.objs.size = ta at D2
  show wpAny _ _ (Builtin.SmallTypes.ownedTupleIsFree (.ref e) >>= _) _ _ ⟨h₃.push { cls := .type "tuple", data := .seq #[.int i tk, x] }, g, d, tk + 1, os⟩
  generalize h₃.push { cls := .type "tuple", data := .seq #[.int i tk, x] } = h₄ at he₄ D2 ⊢
  refine wpAny_bind ?_
  unfold Builtin.SmallTypes.ownedTupleIsFree
  refine wpAny_bind (wpAny_field he₄ rfl (x := .none) rfl (wpAny_pure ?_))
  simp only [if_true]
  refine wpAny_bind (wpAny_rule ?_)
  refine wpAny_bind (wpAny_field he₄ rfl (x := old) rfl ?_)
  refine wpAny_bind (wpAny_setField_rec he₄ (by simp) fun h₅ he₅ hs₅ => ?_)
  replace he₅ : IsEnum h₅ e it ((i : Int) + 1) x := he₅
  replace D2 := D2.same (P' := anyI) 3 rfl hs₅ ⟨_, he₅, trivial⟩
  show wpAny _ _ (Builtin.SmallTypes.ownedTupleHandOut (.ref e) (.ref ta) >>= _) _ _ ⟨h₅, g, d, tk + 1, os⟩
  refine wpAny_bind ?_
  unfold Builtin.SmallTypes.ownedTupleHandOut
  refine wpAny_bind (wpAny_setField_rec he₅ (by simp) fun h₆ he₆ hs₆ => ?_)
  replace he₆ : IsEnumOut h₆ e it ((i : Int) + 1) x ta := he₆
  replace D2 := D2.same (P' := anyI) 3 rfl hs₆ ⟨_, he₆, trivial⟩
  refine wpAny_setField_rec he₆ (by simp) fun h₇ he₇ hs₇ => ?_
  replace he₇ : IsEnumOut h₇ e it ((i : Int) + 1) x ta := he₇
  replace D2 := D2.same (P' := enO it (i + 1) ta) 3 rfl hs₇ ⟨_, he₇, x, rfl⟩
  exact wpAny_bind (wpAny_letGo (wpAny_pure ⟨_, rfl, wpAny_pure (K _ _ ta tk D2)⟩))
theorem en_end {Q : Option Value → Shared → Prop} (X : NX w h₀ it IT need its) (hh : A.handled = none) (D : Led h₀ s.heap (a :: b :: (e, enI it its.length) :: (it, IT its.length) :: r)) (hneed : need (a :: b :: (e, enI it its.length) :: (it, IT its.length) :: r))
    (K : ∀ h' tk, Led h₀ h' (a :: b :: (e, enI it its.length) :: (it, anyI) :: r) → Q none { s with heap := h', toks := tk }) :
    wpAny (model prog w) A (pyNext (.ref e)) Q E s := by
  obtain ⟨old, he⟩ : ∃ old, IsEnum s.heap e it its.length old := by obtain ⟨o, ho, old, rfl⟩ := D.get 2 rfl; exact ⟨old, ho⟩
  have hT : s.TypeIs (.ref e) "enumerate" := ⟨_, he, rfl⟩
  unfold pyNext
  refine wpAny_bind (wpAny_attempt (wpAny_callSpecial?_slot (name := Str.ofString "__next__") hT PySem.F.slot_enumerate_next
    (wpAny_call_entry PySem.F.slot_enumerate_next hT PySem.F.entry_enumerate_next ?_ (PySem.F.args_enumerate_next_1 _))))
  show wpAny _ _ (field (.ref e) 2 >>= _) _ _ _
  refine wpAny_bind (wpAny_field he rfl (x := .ref it) rfl ?_)
  refine wpAny_bind (X.nd _ _ _ s _ 3 hh hneed rfl D fun h₁ ex D1 hx => ?_)
  obtain ⟨o, ho, hc⟩ := hx
  refine wpAny_bind (wpAny_isInstance (T := "StopIteration") (b := true) ⟨o, ho, hc⟩ isSubtype_stop ?_)
  exact wpAny_pure (K _ _ D1)
end
end Mine
end
-- Eu3
section
open PySem PySem.W PyProof.Rows PySem.Calls
set_option Elab.async false
set_option maxRecDepth 100000
set_option linter.unusedVariables false
namespace Mine
section
variable {w : World} {mg mb : Str → Option Value} {h₀ : Heap} {A : Around} {E : Value → Shared → Prop} {s : Shared} {env : Env} {l : List (Addr × Itm)}
theorem wpAny_letOwned_en {elts : List Expr} {x1} {pos : Pos} {e it a : Addr} {i j : Nat} {Q : Unit → Shared → Prop} (D : Led h₀ s.heap l) (hj : l[j]? = some (e, enO it i a)) (h : ∀ h', Led h₀ h' (l.set j (e, enI it i)) → Q () { s with heap := h' }) :
    wpAny (model prog w) A (letOwnedTupleGo (.Tuple elts x1 pos) (.ref e) (.ref a)) Q E s := by
  obtain ⟨o, ho, item, rfl⟩ := D.get j hj
  exact wpAny_letOwnedTupleGo_enum (i := (i : Int)) (item := item) ho fun h' he hs => h h' (D.same j hj hs ⟨_, he, item, rfl⟩)
theorem CompAt.enum {scope : Scope} {cl : List (Str × Addr)} {x y : Str} {px py tp : Pos} {tk : Nat} {elt : Expr} {e it : Addr} {IT : Nat → Itm} {need : List (Addr × Itm) → Prop} {its : List Value} {r₀ : List (Addr × Itm)}
    (X : NX w h₀ it IT need its) (J : Nat → List Value → List (Addr × Itm) → Prop) (hh : A.handled = none) (hkind : scope.kind = .function) (hx : scope.names.lookup x = some .local) (hy : scope.names.lookup y = some .local) (D : Led h₀ s.heap ((e, enI it 0) :: (it, IT 0) :: r₀)) (h0 : J 0 [] r₀)
    (hneed : ∀ i ys r p q t u, i ≤ its.length → J i ys r → need (p :: q :: t :: u :: r)) (hn : its.length ≤ 1000)
    (turn : ∀ (C D : Addr) (i : Nat) (ys : List Value) (r : List (Addr × Itm)) (h : Heap) (tk : Nat) (m : Str → Option Value) (v : Value) (t : Tok) (E' : Value → Shared → Prop), its[i]? = some v → J i ys r → ys.length = i →
      Led h₀ h ((C, nsI fun z => if z = y then some v else if z = x then some (.int i t) else m z) :: (D, lstI ys) :: (e, enI it (i + 1)) :: (it, IT (i + 1)) :: r) → (∀ sc cs L, EF env sc cs L → EF (compEnvC scope cl C env) (relabelS scope sc) cl C) →
      wpAny (model prog w) A (eval elt (compEnvC scope cl C env)) (fun z s₃ => ∃ h' tk' m' r', s₃ = { s with heap := h', toks := tk' } ∧ J (i + 1) (ys ++ [z]) r' ∧ Led h₀ h' ((C, nsI m') :: (D, lstI ys) :: (e, enI it (i + 1)) :: (it, IT (i + 1)) :: r'))
        E' { s with heap := h, toks := tk }) :
    CompAt w h₀ A env scope cl none (.Tuple [.Name x px, .Name y py] tk tp) elt (.ref e) s its.length ((e, enI it 0) :: (it, IT 0) :: r₀) (fun k ys r => ∃ i r', r = (e, enI it i) :: (it, IT i) :: r' ∧ i + k = its.length ∧ ys.length = i ∧ J i ys r')
      (fun ys r => ∃ r', r = (e, enI it its.length) :: (it, anyI) :: r' ∧ ys.length = its.length ∧ J its.length ys r') where
  led := D
  init := ⟨0, r₀, rfl, Nat.zero_add _, rfl, h0⟩
  self := fun s' Q E hk q => by
    obtain ⟨o, ho, old, rfl⟩ := (D.get 0 rfl).keeps hk
    exact wpAny_pyIter_enum (i := 0) ho q
  turn := by
    rintro C D k ys _ h tk m v E' ⟨i, r, rfl, hik, hl, hJ⟩ DD
    dsimp only [cmE, ccE, List.nil_append] at DD ⊢
    rcases Nat.lt_or_ge i its.length with hlt | hge
    · obtain ⟨xv, hxv⟩ : ∃ xv, its[i]? = some xv := ⟨its[i], List.getElem?_eq_getElem hlt⟩
      refine en_next X DD hxv (hneed i ys r _ _ _ _ (Nat.le_of_lt hlt) hJ) fun h1 tk1 ta t D1 => ?_
      dsimp only
      refine wpAny_letOwned_en D1 (j := 3) rfl fun h2 D2 => ?_
      dsimp only [List.set_cons_succ, List.set_cons_zero] at D2
      obtain ⟨o, ho, nn, rfl⟩ := D2.get 0 rfl
      refine assign_Tuple_tuple hh (items := [.int i t, xv].toArray) ⟨_, ho, rfl, nn, rfl⟩ rfl rfl fun h3 he => ?_
      replace D2 := (D2.kept (h' := h3) fun b o q => he b o (Nat.ne_of_lt (Heap.lt_size q)) q).drop
      refine assignInOrder_cons (wpAny_assign_Name (wpAny_storeName_local (lookup_relabel_local hx) (D2.ns 0 rfl) (fun h4 hn4 hs4 => ?_) (by simp [compEnvC, relabel, hkind])))
      replace D2 := D2.same 0 rfl hs4 (At.of_ns hn4)
      refine assignInOrder_cons (wpAny_assign_Name (wpAny_storeName_local (lookup_relabel_local hy) (D2.ns 0 rfl) (fun h5 hn5 hs5 => ?_) (by simp [compEnvC, relabel, hkind])))
      replace D2 := D2.same 0 rfl hs5 (At.of_ns hn5)
      refine assignInOrder_nil ?_
      refine wpAny_mono (turn C D i ys r h5 _ m xv t _ hxv hJ hl D2 fun _ _ _ H => H.comp _ C hkind) (fun z s₃ q => ?_) fun _ _ e => e
      obtain ⟨h6, tk6, m6, r6, rfl, hJ6, D6⟩ := q
      exact ⟨k - 1, h6, tk6, m6, none, _, by omega, rfl, ⟨i + 1, r6, rfl, by omega, by rw [List.length_append, hl]; rfl, hJ6⟩, by omega, D6⟩
    · obtain rfl : i = its.length := by omega
      refine en_end X hh DD (hneed _ ys r _ _ _ _ (Nat.le_refl _) hJ) fun h' tk' D2 => ?_
      exact ⟨h', tk', m, none, _, rfl, D2, r, rfl, hl, hJ⟩
end
end Mine
end
-- Eu4
section
open PySem PySem.W PyProof.Rows PySem.Calls
set_option Elab.async false
set_option maxRecDepth 100000
set_option linter.unusedVariables false
namespace Mine
open AutoSeq1 (wpAny_loadPart')
theorem meets_enumerate_newT (l : Addr) (items : Array Value) (n : Nat) :
    Meets (Builtin.«enumerate.__new__» ⟨[.type "enumerate", .ref l], []⟩) (fun _ R s => s.heap.get? l = some { cls := .type "tuple", dict := none, data := .seq items n, slots := #[] } ∧
      R (.ok (.ret (.ref (s.heap.push { cls := .type "tuple_iterator", data := .fields #[.ref l, .int 0 0] }).objs.size)))
        { s with heap := (s.heap.push { cls := .type "tuple_iterator", data := .fields #[.ref l, .int 0 0] }).push { cls := .type "enumerate", data := .fields #[.none, .bool false, .ref s.heap.objs.size, rawInt 0, .none, .none] } }) :=
  .of_wp fun prog w A R s h => by
    obtain ⟨hp, g, d, tk, os⟩ := s; obtain ⟨hl, h⟩ := h
    have hsub := sub_enumerate
    have hL : Heap.IsTuple (Shared.heap ⟨hp, g, d, tk, os⟩) l items := ⟨_, hl, rfl, n, rfl⟩
    wp_walk using wpAny_loadPart' hl
    refine wpAny_stack_any fun st => wpAny_pure ?_
    split
    · rename_i c _ _ _ _ _
      cases (c == Value.type "enumerate")
      · wp_walk using wpAny_loadPart' hl, wpAny_pyIter_tuple hL
        exact ⟨_, rfl, h⟩
      · wp_walk using wpAny_loadPart' hl, wpAny_pyIter_tuple hL
        exact ⟨_, rfl, h⟩
    · wp_walk using wpAny_loadPart' hl, wpAny_pyIter_tuple hL
      exact ⟨_, rfl, h⟩
section
variable {w : World} {mg mb : Str → Option Value} {h₀ : Heap} {A : Around} {E : Value → Shared → Prop} {s : Shared} {Q : Value → Shared → Prop} {l : List (Addr × Itm)} {ax : Addr} {its : List Value}
theorem en_list (D : Led h₀ s.heap l) (hm : (ax, lstI its) ∈ l) (h : ∀ h' tk e it, Led h₀ h' ((e, enI it 0) :: (it, itI "list_iterator" ax 0) :: l) → Q (.ref e) { s with heap := h', toks := tk }) :
    wpAny (model prog w) A (call (.type "enumerate") [.ref ax]) (fun xv s₁ => wpAny (model prog w) A (pyIter xv) Q E s₁) E s := by
  obtain ⟨n, hl⟩ := (D.getM hm).lst
  refine callType_new PySem.F.called_enumerate (by decide) (PySem.F.typeCall_enumerate_1 _) (PySem.F.newCall_enumerate_1 _) (fun obj => PySem.F.args_object_init_2 obj _) PySem.F.entry_enumerate_new
    (meets_enumerate_newL ax its.toArray n none #[]) ⟨hl, ?_⟩
  have D2 := (D.push (o := { cls := .type "list_iterator", data := .fields #[.ref ax, .int 0 0] }) (P := itI "list_iterator" ax 0) rfl ⟨rfl, rfl⟩).push
    (o := { cls := .type "enumerate", data := .fields #[.none, .bool false, .ref s.heap.objs.size, rawInt 0, .none, .none] }) (P := enI s.heap.objs.size 0) rfl ⟨_, rfl⟩
  refine ⟨⟨_, Heap.get?_push_size _ rfl, rfl⟩, ?_⟩
  obtain ⟨o, ho, old, rfl⟩ := D2.get 0 rfl
  exact wpAny_pyIter_enum (i := 0) ho (h _ _ _ _ D2)
theorem en_tuple (D : Led h₀ s.heap l) (hm : (ax, tupI its) ∈ l) (h : ∀ h' tk e it, Led h₀ h' ((e, enI it 0) :: (it, itI "tuple_iterator" ax 0) :: l) → Q (.ref e) { s with heap := h', toks := tk }) :
    wpAny (model prog w) A (call (.type "enumerate") [.ref ax]) (fun xv s₁ => wpAny (model prog w) A (pyIter xv) Q E s₁) E s := by
  obtain ⟨o, hl, n, rfl⟩ := D.getM hm
  refine callType_new PySem.F.called_enumerate (by decide) (PySem.F.typeCall_enumerate_1 _) (PySem.F.newCall_enumerate_1 _) (fun obj => PySem.F.args_object_init_2 obj _) PySem.F.entry_enumerate_new
    (meets_enumerate_newT ax its.toArray n) ⟨hl, ?_⟩
  have D2 := (D.push (o := { cls := .type "tuple_iterator", data := .fields #[.ref ax, .int 0 0] }) (P := itI "tuple_iterator" ax 0) rfl ⟨rfl, rfl⟩).push
    (o := { cls := .type "enumerate", data := .fields #[.none, .bool false, .ref s.heap.objs.size, rawInt 0, .none, .none] }) (P := enI s.heap.objs.size 0) rfl ⟨_, rfl⟩
  refine ⟨⟨_, Heap.get?_push_size _ rfl, rfl⟩, ?_⟩
  obtain ⟨o, ho, old, rfl⟩ := D2.get 0 rfl
  exact wpAny_pyIter_enum (i := 0) ho (h _ _ _ _ D2)
/-- sum of a list of ints -/
theorem sumL {vs : List Value} {ns : List Int} (hh : A.handled = none) (D : Led h₀ s.heap l) (hm : (ax, lstI vs) ∈ l) (hi : IntsAre vs ns) (h : ∀ h' tk t', Led h₀ h' l → Q (.int ns.sum t') { s with heap := h', toks := tk }) :
    wpAny (model prog w) A (call (.builtin "sum") [.ref ax]) Q E s := by
  obtain ⟨n, hl⟩ := (D.getM hm).lst
  obtain ⟨xs, hx⟩ := hi.allInts.items
  have hl' : s.heap.IsList ax (intItems xs) := hx ▸ hl.isList
  refine sum_intListG hh hl' fun h' tk t' hk => ?_
  have e1 : ns = xs.toList.map (·.1) := by
    rw [← nums_intItems, ← hx]
    exact (show numsOf vs.toArray.toList = ns from hi.numsOf).symm
  have e2 : preSum (numAt xs) xs.size = ns.sum := by
    rw [preSum_eq, List.take_of_length_le (by simp), e1]
  rw [e2]
  exact h _ _ _ (D.kept hk)
/-- the sum of two lists -/
theorem addL {bx : Addr} {vs us : List Value} (D : Led h₀ s.heap l) (hm : (ax, lstI vs) ∈ l) (hm2 : (bx, lstI us) ∈ l) (hz : vs.length + us.length ≤ 1000) (h : ∀ h' a, Led h₀ h' ((a, lstI (vs ++ us)) :: l) → Q (.ref a) { s with heap := h' }) :
    wpAny (model prog w) A (binaryOp .Add (.ref ax) (.ref bx)) Q E s := by
  obtain ⟨n, hl⟩ := (D.getM hm).lst
  obtain ⟨n2, hl2⟩ := (D.getM hm2).lst
  refine P.add_list hl hl2 ?_ (by rw [List.size_toArray, List.size_toArray, sizeLine_eq]; omega)
  have e : vs.toArray ++ us.toArray = (vs ++ us).toArray := by simp
  rw [e]
  exact h _ _ (D.push (o := { cls := .type "list", data := .seq (vs ++ us).toArray }) (P := lstI (vs ++ us)) rfl ⟨_, rfl⟩)
end
end Mine
end
-- La1
section
open PySem PySem.W PyProof.Rows PySem.Calls
set_option Elab.async false
set_option maxRecDepth 100000
set_option linter.unusedVariables false
namespace Mine
def laScope : Scope := fScope (topStmt 16)
def laBody : List Stmt := fBody (topStmt 16)
def laCells (L : Addr) : List (Str × Addr) := [(Str.ofString "tied", L + 4), (Str.ofString "hours", L + 3), (Str.ofString "parents", L + 2), (Str.ofString "script", L + 1)]
section
variable {w : World} {mg mb : Str → Option Value} {h₀ : Heap} {A : Around} {E : Value → Shared → Prop} {s : Shared} {Q : Value → Shared → Prop} {QF : Flow → Shared → Prop} {l r : List (Addr × Itm)} {env : Env} {L : Addr} {m : Str → Option Value}
/-- a slice of a list -/
theorem sliceL {a : Addr} {its : List Value} {value slice : Expr} {vl vu vk : Value} {lo hi st : Option Int} {ops : List Value} (D : Led h₀ s.heap l) (hl : s.heap.IsList a its.toArray) (hz : its.length ≤ 1000) (pl : IsPart vl lo) (pu : IsPart vu hi) (pk : IsPart vk st) (h0 : st ≠ some 0)
    (h : ∀ h' b, Led h₀ h' ((b, lstI (slicePick its.toArray lo hi st).toList) :: l) → Q (.ref b) { s with heap := h' })
    (hs : subscripted slice false (.ref a) (.ref s.heap.objs.size) = operate ops (getItem (.ref a) (.ref s.heap.objs.size)) := by with_unfolding_all rfl)
    (ht : ∀ r : Value, letTemporaryGo value (.ref a) r = pure () := by intro _; with_unfolding_all rfl) :
    wpAny (model prog w) A (subscriptTail value slice (.ref a) (.ref s.heap.objs.size)) Q E { s with heap := s.heap.push { cls := .type "slice", data := .fields #[vl, vu, vk] } } := by
  have D2 := (D.push (o := { cls := .type "slice", data := .fields #[vl, vu, vk] }) (P := anyI) rfl trivial)
  refine subscriptTail_ops (Heap.IsList.typeIs (s := { s with heap := s.heap.push { cls := .type "slice", data := .fields #[vl, vu, vk] } }) (hl.push _)) list_getitem_lookup
    (wpAny_getItem_list_slice (hl.push _) (Heap.IsSliceOf.new ..) pl pu pk h0 ?_ (by rw [List.size_toArray, sizeLine_eq]; omega)) hs ht
  have D3 := D2.push (o := { cls := .type "list", data := .seq (slicePick its.toArray lo hi st) }) (P := lstI (slicePick its.toArray lo hi st).toList) rfl ⟨_, rfl⟩
  exact h _ _ (D3.sub (.cons_cons _ (.cons _ (List.Sublist.refl _))))
theorem part_some {e : Expr} {M : Model} (h : wpAny M A (eval e env) Q E s) : wpAny M A (evalPart (some e) env) Q E s := h
theorem part_none {M : Model} (h : Q .none s) : wpAny M A (evalPart none env) Q E s := wpAny_pure h
theorem mkT4 {M : Model} {e1 e2 e3 e4 : Expr} {k : Nat} {pos : Pos} (h : wpAny M A (eval e1 env) (fun v1 s₁ => wpAny M A (eval e2 env) (fun v2 s₂ => wpAny M A (eval e3 env) (fun v3 s₃ => wpAny M A (eval e4 env) (fun v4 s₄ =>
      ∃ l, Led h₀ s₄.heap l ∧ ∀ h' a, Led h₀ h' ((a, tupI [v1, v2, v3, v4]) :: l) → Q (.ref a) { s₄ with heap := h' }) E s₃) E s₂) E s₁) E s)
    (he : backTo pos (starEach [e1, e2, e3, e4] env) = [(false, eval e1 env), (false, eval e2 env), (false, eval e3 env), (false, eval e4 env)] := by rfl) : wpAny M A (eval (.Tuple [e1, e2, e3, e4] k pos) env) Q E s := by
  refine wpAny_Tuple ?_
  rw [he]
  exact spliced_cons (wpAny_mono h (fun v1 s₁ q => spliced_cons (wpAny_mono q (fun v2 s₂ q => spliced_cons (wpAny_mono q (fun v3 s₃ q => spliced_cons (wpAny_mono q (fun v4 s₄ q => spliced_nil ⟨by show 4 ≤ sizeLine; rw [sizeLine_eq]; decide, by
    obtain ⟨l, D, q⟩ := q
    exact q _ _ (D.push (o := { cls := .type "tuple", data := .seq [v1, v2, v3, v4].toArray }) (P := tupI [v1, v2, v3, v4]) rfl ⟨_, rfl⟩)⟩) fun _ _ x => x)) fun _ _ x => x)) fun _ _ x => x)) fun _ _ x => x)
theorem mkT3 {M : Model} {e1 e2 e3 : Expr} {k : Nat} {pos : Pos} (h : wpAny M A (eval e1 env) (fun v1 s₁ => wpAny M A (eval e2 env) (fun v2 s₂ => wpAny M A (eval e3 env) (fun v3 s₃ =>
      ∃ l, Led h₀ s₃.heap l ∧ ∀ h' a, Led h₀ h' ((a, tupI [v1, v2, v3]) :: l) → Q (.ref a) { s₃ with heap := h' }) E s₂) E s₁) E s)
    (he : backTo pos (starEach [e1, e2, e3] env) = [(false, eval e1 env), (false, eval e2 env), (false, eval e3 env)] := by rfl) : wpAny M A (eval (.Tuple [e1, e2, e3] k pos) env) Q E s := by
  refine wpAny_Tuple ?_
  rw [he]
  exact spliced_cons (wpAny_mono h (fun v1 s₁ q => spliced_cons (wpAny_mono q (fun v2 s₂ q => spliced_cons (wpAny_mono q (fun v3 s₃ q => spliced_nil ⟨by show 3 ≤ sizeLine; rw [sizeLine_eq]; decide, by
    obtain ⟨l, D, q⟩ := q
    exact q _ _ (D.push (o := { cls := .type "tuple", data := .seq [v1, v2, v3].toArray }) (P := tupI [v1, v2, v3]) rfl ⟨_, rfl⟩)⟩) fun _ _ x => x)) fun _ _ x => x)) fun _ _ x => x)
end
end Mine
end
-- La2
section
open PySem PySem.W PyProof.Rows PySem.Calls
set_option Elab.async false
set_option maxRecDepth 100000
set_option linter.unusedVariables false
namespace Mine
/-- the four heaps: ints within bounds -/
def HeapsOk (n : Nat) (ys : List Value) (hs : List Nat) : Prop := IntsAre ys (hs.map fun k : Nat => (k : Int)) ∧ hs.length = n ∧ ∀ x ∈ hs, x ≤ 100000
section
variable {w : World} {mg mb : Str → Option Value} {h₀ : Heap} {A : Around} {E : Value → Shared → Prop} {s : Shared} {Q : Value → Shared → Prop} {QF : Flow → Shared → Prop} {l r : List (Addr × Itm)} {env : Env} {L : Addr} {m : Str → Option Value}
theorem sum_mods : ∀ {ns : List Int}, (∀ x ∈ ns, 0 ≤ x ∧ x ≤ 999) → 0 ≤ ns.sum ∧ ns.sum ≤ 999 * ns.length
  | [], _ => by simp
  | n :: ns, h => by
    have h1 := sum_mods (ns := ns) (fun x hx => h x (List.mem_cons_of_mem _ hx))
    have h2 := h n (List.mem_cons_self ..)
    rw [List.sum_cons, List.length_cons]; push_cast; omega
def cmpElt : Stmt → Expr
  | .Assign _ (.ListComp e _ _ _) _ => e
  | _ => .Constant .none 0 ⟨0, 0, 0, 0⟩
def binR : Expr → Expr
  | .BinOp _ _ r _ => r
  | _ => .Constant .none 0 ⟨0, 0, 0, 0⟩
def cmpScope : Stmt → Scope
  | .Assign _ (.ListComp _ _ c _) _ => c
  | _ => default
/-- sum([x % 1000 for x in script[k:20:4]]) -/
theorem la_modsum {sa : Addr} {vs : List Value} {ns : List Int} {C : Addr} {cs : List (Str × Addr)} {i : Nat} {t : Tok} (G : Gr w mg mb h₀) (HC : EF env (relabelS (cmpScope (laBody.getD 0 noStmt)) laScope) cs C) (hcs : cs.lookup (Str.ofString "script") = some (L + 1)) (hk : m (Str.ofString "k") = some (.int (i : Nat) t))
    (hsl : h₀.IsList sa vs.toArray) (hns : IntsAre vs ns) (hnl : ns.length ≤ 63) (D : Led h₀ s.heap ((C, nsI m) :: l)) (hsc : (L + 1, cellI (some (.ref sa))) ∈ l) (hh : A.handled = none)
    (K : ∀ h' tk' (n : Nat) t, n ≤ 62937 → Led h₀ h' ((C, nsI m) :: l) → Q (.int n t) { s with heap := h', toks := tk' }) :
    wpAny (model prog w) A (eval (binR (cmpElt (laBody.getD 0 noStmt))) env) Q E s := by
  have hvl : vs.length ≤ 63 := by have := hns.length; omega
  refine wpAny_Call_NameR (nB HC G D (by kernel_rfl) (v := .builtin "sum") (by kernel_rfl) ?_)
  refine callB1 ?_
  refine comp_eval (h₀ := h₀) [] none (HC.clos rfl) (fun _ _ => rfl) (fun _ => rfl) rfl (by decide) ?_
  refine Subscript_ (nC HC D (c := L + 1) (v := .ref sa) (.tail _ hsc) ?_ rfl hcs)
  refine wpAny_Slice (part_some (nL HC D (.head _) hk (part_some (wpAny_Constant_int (part_some (wpAny_Constant_int ?_))))))
  refine sliceL (its := vs) D (lo := some (i : Int)) (hi := some 20) (st := some 4) ⟨_, D.keep _ _ hsl.choose_spec.1, hsl.choose_spec.2⟩ (by omega) (.int _ _) (.int _ _) (.int _ _) (by decide) fun h4 b D4 => ?_
  have hpk := hns.pick (some (i : Int)) (some 20) (some 4)
  have hpl := length_pickNums_le hns (some (i : Int)) (some 20) (some 4)
  generalize (slicePick vs.toArray (some (i : Int)) (some 20) (some 4)).toList = us at D4 hpk
  generalize pickNums ns (some (i : Int)) (some 20) (some 4) = ps at hpk hpl
  have hul : us.length = ps.length := hpk.length
  refine lit0 D4 (.head _) fun h5 tk5 it5 D5 => ?_
  refine ⟨_, _, _, _, CompAt.src0 (src_list (ax := b) (its := us) hh) (fun j zs r => (∃ qs : List Int, IntsAre zs qs ∧ qs.length = j ∧ ∀ x ∈ qs, 0 ≤ x ∧ x ≤ 999) ∧ r = (b, lstI us) :: (C, nsI m) :: l) rfl rfl D5 ⟨⟨[], .nil, rfl, by intro x hx; simp at hx⟩, rfl⟩
    ?_ (by omega) ?_, ?_⟩
  · rintro j zs _ p q t _ ⟨_, rfl⟩
    exact ⟨lstI us, .tail _ (.tail _ (.tail _ (.head _))), fun o ⟨n, e⟩ => by subst e; exact ⟨rfl, n, rfl⟩⟩
  · rintro C2 Dd2 j zs _ h6 tk6 m6 v E'' hj hv2 ⟨⟨qs, q1, q2, q3⟩, rfl⟩ hl2 D6 HC2
    replace HC2 := HC2 _ _ _ HC
    obtain ⟨tq, hq⟩ := ints_at hpk (i := j) (by omega)
    have : v = .int (ps.getD j 0) tq := by rw [hv2] at hq; exact Option.some.inj hq
    subst this
    refine wpAny_BinOp (nL HC2 D6 (.head _) (if_pos rfl) (wpAny_Constant_int (mod_int' (by decide) ?_)))
    refine ⟨_, _, _, _, rfl, ⟨⟨qs ++ [(ps.getD j 0).fmod 1000], ints_snoc q1, by simp [q2], fun x hx => ?_⟩, rfl⟩, D6⟩
    rcases List.mem_append.mp hx with hx | hx
    · exact q3 x hx
    · rw [List.mem_singleton.mp hx, Int.fmod_eq_emod_of_nonneg _ (by decide)]
      omega
  · rintro Y h6 tk6 zs _ D6 ⟨_, rfl, hl2, ⟨qs, q1, q2, q3⟩, rfl⟩
    refine sumL hh D6 (.head _) q1 fun h7 tk7 t7 D7 => ?_
    obtain ⟨s1, s2⟩ := sum_mods q3
    obtain ⟨sm, hsm⟩ : ∃ sm : Nat, qs.sum = sm := ⟨qs.sum.toNat, by omega⟩
    rw [hsm] at s2 ⊢
    exact K _ _ sm t7 (by omega) (D7.sub (.cons _ (.cons _ (.cons _ (List.Sublist.refl _)))))
set_option maxHeartbeats 1000000 in
theorem la_heaps {sa : Addr} {vs : List Value} {ns : List Int} (G : Gr w mg mb h₀) (H : EF env laScope (laCells L) L) (hsl : h₀.IsList sa vs.toArray) (hns : IntsAre vs ns) (hnl : ns.length ≤ 63)
    (D : Led h₀ s.heap ((L, nsI m) :: (L + 1, cellI (some (.ref sa))) :: l)) (hh : A.handled = none)
    (K : ∀ h' tk' a ys hs, HeapsOk 4 ys hs → Led h₀ h' ((L, nsI fun z => if z = Str.ofString "heaps" then some (.ref a) else m z) :: (a, lstI ys) :: (L + 1, cellI (some (.ref sa))) :: l) → QF .next { s with heap := h', toks := tk' }) :
    wpAny (model prog w) A (exec (laBody.getD 0 noStmt) env) QF E s := by
  have hL := H.lo
  subst hL
  refine comp_assign (h₀ := h₀) [(Str.ofString "script", env.locals + 1)] none (by simp only [swapsWith, Env.blockKind]; rw [H.k0, H.k (x := Str.ofString "heaps") (k := .local) rfl]; rfl) (H.clos rfl) (fun _ _ => rfl) (fun _ => rfl) rfl (by decide) (H.k rfl) H.e4 ?_
  refine wpAny_Call_NameR (nB H G D (by kernel_rfl) (v := .type "enumerate") (by kernel_rfl) ?_)
  refine callT1 (mkT4 (wpAny_Constant_int (wpAny_Constant_int (wpAny_Constant_int (wpAny_Constant_int ⟨_, D, fun h1 ta D1 => ?_⟩)))))
  refine en_tuple D1 (.head _) fun h2 tk2 e it D2 => ?_
  generalize hits : [Value.int 1 _, Value.int 1 _, Value.int 6 _, Value.int 5 _] = its at D1 D2 ⊢
  have hitl : its.length = 4 := by rw [← hits]; rfl
  have hit6 : ∀ (i : Nat) (v : Value), its[i]? = some v → ∃ (n : Nat) (t : Tok), v = Value.int (n : Int) t ∧ n ≤ 6 := by
    intro i v hv
    rw [← hits] at hv
    match i, hv with
    | 0, hv => cases hv; exact ⟨1, _, rfl, by decide⟩
    | 1, hv => cases hv; exact ⟨1, _, rfl, by decide⟩
    | 2, hv => cases hv; exact ⟨6, _, rfl, by decide⟩
    | 3, hv => cases hv; exact ⟨5, _, rfl, by decide⟩
  refine ⟨_, _, _, _, CompAt.enum (nx_tuple (ax := ta) (its := its)) (fun i ys r => (∃ hs, HeapsOk i ys hs) ∧ r = (ta, tupI its) :: (env.locals, nsI m) :: (env.locals + 1, cellI (some (.ref sa))) :: l) hh rfl rfl rfl D2 ⟨⟨[], .nil, rfl, by intro x hx; simp at hx⟩, rfl⟩ ?_ (by omega) ?_, ?_⟩
  · rintro i ys _ p q t u _ ⟨_, rfl⟩
    exact ⟨tupI its, .tail _ (.tail _ (.tail _ (.tail _ (.head _)))), fun o ⟨n, e⟩ => by subst e; exact ⟨n, rfl⟩⟩
  · rintro C Dd i ys _ h3 tk3 m3 v t E' hv ⟨⟨hs, h1, h2, h3'⟩, rfl⟩ hl D3 HC
    replace HC := HC _ _ _ H
    obtain ⟨st, tst, rfl, hst⟩ := hit6 i v hv
    refine wpAny_BinOp (nL HC D3 (.head _) (if_pos rfl) ?_)
    refine la_modsum (L := env.locals) (i := i) (t := t) G HC rfl ((if_neg (by decide)).trans (if_pos rfl)) hsl hns hnl D3 (.tail _ (.tail _ (.tail _ (.tail _ (.tail _ (.head _)))))) hh fun h7 tk7 sm t7 hsm D7 => ?_
    refine add_int ?_
    refine ⟨_, _, _, _, rfl, ⟨⟨hs ++ [st + sm], ?_, by simp [h2], fun x hx => ?_⟩, rfl⟩, D7⟩
    · rw [List.map_append]
      exact ints_snoc h1
    · rcases List.mem_append.mp hx with hx | hx
      · exact h3' x hx
      · rw [List.mem_singleton.mp hx]; omega
  · rintro ys _ ⟨_, rfl, hl, ⟨hs, hok⟩, rfl⟩
    rw [hitl] at hok
    refine ⟨m, 3, rfl, fun Y hf tk D3 => K hf tk Y ys hs hok ?_⟩
    have D4 := D3.perm (List.perm_middle (l₁ := [_, _, _, _]))
    exact D4.sub (.cons_cons _ (.cons_cons _ (.cons _ (.cons _ (.cons _ (List.Sublist.refl _))))))
end
end Mine
end
-- La3
section
open PySem PySem.W PyProof.Rows PySem.Calls
set_option Elab.async false
set_option maxRecDepth 100000
set_option linter.unusedVariables false
namespace Mine
def parL (hs : List Nat) (n : Nat) : List Int := (List.range n).map fun k => ((hs.getD k 0 % (k + 1) : Nat) : Int)
def hrsL (hs : List Nat) (n : Nat) : List Int := (List.range n).map fun k => ((1 + hs.getD k 0 / (k + 1) % 3 : Nat) : Int)
section
variable {w : World} {mg mb : Str → Option Value} {h₀ : Heap} {A : Around} {E : Value → Shared → Prop} {s : Shared} {Q : Value → Shared → Prop} {QF : Flow → Shared → Prop} {l r : List (Addr × Itm)} {env : Env} {L : Addr} {m : Str → Option Value}
theorem heap_at {n : Nat} {ys : List Value} {hs : List Nat} (h : HeapsOk n ys hs) {i : Nat} {v : Value} (hv : ys[i]? = some v) : ∃ t, v = .int (hs.getD i 0 : Nat) t ∧ hs.getD i 0 ≤ 100000 := by
  have hi : i < hs.length := by have := h.1.length; have := (List.getElem?_eq_some_iff.mp hv).1; simp at *; omega
  obtain ⟨t, e⟩ := ints_at h.1 (i := i) (by simpa using hi)
  rw [hv] at e
  refine ⟨t, ?_, ?_⟩
  · rw [Option.some.inj e]
    congr 1
    simp [List.getD_eq_getElem?_getD, hi]
  · have := h.2.2 hs[i] (List.getElem_mem hi)
    simpa [List.getD_eq_getElem?_getD, hi] using this
/-- parents = [-1] + [heap % (k + 1) for k, heap in enumerate(heaps)] -/
theorem la_parents {ha : Addr} {ys : List Value} {hs : List Nat} {v₀ : Option Value} (G : Gr w mg mb h₀) (H : EF env laScope (laCells L) L) (hok : HeapsOk 4 ys hs) (hm : m (Str.ofString "heaps") = some (.ref ha))
    (D : Led h₀ s.heap ((L, nsI m) :: (ha, lstI ys) :: (L + 2, cellI v₀) :: l)) (hh : A.handled = none)
    (K : ∀ h' tk' a ps, IntsAre ps (-1 :: parL hs 4) → Led h₀ h' ((L, nsI m) :: (ha, lstI ys) :: (L + 2, cellI (some (.ref a))) :: (a, lstI ps) :: l) → QF .next { s with heap := h', toks := tk' }) :
    wpAny (model prog w) A (exec (laBody.getD 1 noStmt) env) QF E s := by
  have hyl : ys.length = 4 := by have := hok.1.length; have := hok.2.1; simp at *; omega
  refine wpAny_Assign_Name (wpAny_BinOp (mkL1 (wpAny_UnaryOp (wpAny_Constant_int (neg_int ⟨_, D, fun h1 b D1 => ?_⟩)))))
  generalize hb : [Value.int (-1) _] = bs at D1
  have hb' : IntsAre bs [-1] := by rw [← hb]; exact .cons _ _ .nil
  refine comp_eval (h₀ := h₀) [] none (H.clos rfl) (fun _ _ => rfl) (fun _ => rfl) rfl (by decide) ?_
  refine wpAny_Call_NameR (nB H G D1 (by kernel_rfl) (v := .type "enumerate") (by kernel_rfl) ?_)
  refine callT1 (nL H D1 (.tail _ (.head _)) hm ?_)
  refine en_list D1 (.tail _ (.tail _ (.head _))) fun h2 tk2 e it D2 => ?_
  refine ⟨_, _, _, _, CompAt.enum (nx_list (ax := ha) (its := ys)) (fun i zs r => IntsAre zs (parL hs i) ∧ r = (b, lstI bs) :: (L, nsI m) :: (ha, lstI ys) :: (L + 2, cellI v₀) :: l) hh rfl rfl rfl D2 ⟨.nil, rfl⟩ ?_ (by omega) ?_, ?_⟩
  · rintro i zs _ p q t u _ ⟨_, rfl⟩
    exact ⟨lstI ys, .tail _ (.tail _ (.tail _ (.tail _ (.tail _ (.tail _ (.head _)))))), fun o ⟨n, e⟩ => by subst e; exact ⟨n, rfl⟩⟩
  · rintro C Dd i zs _ h3 tk3 m3 v t E' hv ⟨hz, rfl⟩ hl D3 HC
    replace HC := HC _ _ _ H
    obtain ⟨tv, rfl, hbd⟩ := heap_at hok hv
    refine wpAny_BinOp (nL HC D3 (.head _) (if_pos rfl) (wpAny_BinOp (nL HC D3 (.head _) ((if_neg (by decide)).trans (if_pos rfl)) (wpAny_Constant_int (add_int (mod_int' (by omega) ?_))))))
    refine ⟨_, _, _, _, rfl, ⟨?_, rfl⟩, D3⟩
    have e1 : ((hs.getD i 0 : Nat) : Int).fmod ((i : Int) + 1) = ((hs.getD i 0 % (i + 1) : Nat) : Int) := by
      rw [Int.fmod_eq_emod_of_nonneg _ (by omega)]; push_cast; rfl
    have e2 : parL hs (i + 1) = parL hs i ++ [((hs.getD i 0 : Nat) : Int).fmod ((i : Int) + 1)] := by
      unfold parL; rw [e1, List.range_succ, List.map_append]; rfl
    rw [e2]
    exact ints_snoc hz
  · rintro Y h3 tk3 zs _ D3 ⟨_, rfl, hl, hz, rfl⟩
    rw [hyl] at hz
    have hbl : bs.length = 1 := by rw [← hb]; rfl
    have hzl : zs.length = 4 := by have := hz.length; simpa [parL] using this
    refine addL D3 (ax := b) (bx := Y) (.tail _ (.tail _ (.tail _ (.head _)))) (.head _) (by omega) fun h4 a D4 => ?_
    refine sC H (i := 7) D4 rfl fun h5 D5 => ?_
    refine K _ _ a (bs ++ zs) ?_ ?_
    · exact IntsAre.append hb' hz
    · have D6 : Led h₀ h5 ((a, lstI (bs ++ zs)) :: (Y, lstI zs) :: _ :: _ :: (b, lstI bs) :: (L, nsI m) :: (ha, lstI ys) :: (L + 2, cellI (some (.ref a))) :: l) := D5
      have D7 := D6.sub (.cons_cons _ (.cons _ (.cons _ (.cons _ (.cons _ (List.Sublist.refl _))))))
      exact D7.perm (List.perm_middle (l₁ := [_, _, _])).symm
set_option maxHeartbeats 400000 in
/-- hours = [0] + [1 + heap // (k + 1) % 3 for k, heap in enumerate(heaps)] -/
theorem la_hours {ha : Addr} {ys : List Value} {hs : List Nat} {v₀ : Option Value} (G : Gr w mg mb h₀) (H : EF env laScope (laCells L) L) (hok : HeapsOk 4 ys hs) (hm : m (Str.ofString "heaps") = some (.ref ha))
    (D : Led h₀ s.heap ((L, nsI m) :: (ha, lstI ys) :: (L + 3, cellI v₀) :: l)) (hh : A.handled = none)
    (K : ∀ h' tk' a ps, IntsAre ps (0 :: hrsL hs 4) → Led h₀ h' ((L, nsI m) :: (ha, lstI ys) :: (L + 3, cellI (some (.ref a))) :: (a, lstI ps) :: l) → QF .next { s with heap := h', toks := tk' }) :
    wpAny (model prog w) A (exec (laBody.getD 2 noStmt) env) QF E s := by
  have hyl : ys.length = 4 := by have := hok.1.length; have := hok.2.1; simp at *; omega
  refine wpAny_Assign_Name (wpAny_BinOp (mkL1 (wpAny_Constant_int ⟨_, D, fun h1 b D1 => ?_⟩)))
  generalize hb : [Value.int 0 _] = bs at D1
  have hb' : IntsAre bs [0] := by rw [← hb]; exact .cons _ _ .nil
  refine comp_eval (h₀ := h₀) [] none (H.clos rfl) (fun _ _ => rfl) (fun _ => rfl) rfl (by decide) ?_
  refine wpAny_Call_NameR (nB H G D1 (by kernel_rfl) (v := .type "enumerate") (by kernel_rfl) ?_)
  refine callT1 (nL H D1 (.tail _ (.head _)) hm ?_)
  refine en_list D1 (.tail _ (.tail _ (.head _))) fun h2 tk2 e it D2 => ?_
  refine ⟨_, _, _, _, CompAt.enum (nx_list (ax := ha) (its := ys)) (fun i zs r => IntsAre zs (hrsL hs i) ∧ r = (b, lstI bs) :: (L, nsI m) :: (ha, lstI ys) :: (L + 3, cellI v₀) :: l) hh rfl rfl rfl D2 ⟨.nil, rfl⟩ ?_ (by omega) ?_, ?_⟩
  · rintro i zs _ p q t u _ ⟨_, rfl⟩
    exact ⟨lstI ys, .tail _ (.tail _ (.tail _ (.tail _ (.tail _ (.tail _ (.head _)))))), fun o ⟨n, e⟩ => by subst e; exact ⟨n, rfl⟩⟩
  · rintro C Dd i zs _ h3 tk3 m3 v t E' hv ⟨hz, rfl⟩ hl D3 HC
    replace HC := HC _ _ _ H
    obtain ⟨tv, rfl, hbd⟩ := heap_at hok hv
    have hi4 : i < 4 := by have := (List.getElem?_eq_some_iff.mp hv).1; omega
    refine wpAny_BinOp (wpAny_Constant_int (wpAny_BinOp (wpAny_BinOp (nL HC D3 (.head _) (if_pos rfl) (wpAny_BinOp (nL HC D3 (.head _) ((if_neg (by decide)).trans (if_pos rfl)) (wpAny_Constant_int (add_int (floordiv_int (by omega) ?_ (.inl (PyProof.noPylong_small (by omega)))))))))))) 
    refine wpAny_Constant_int (mod_int' (by decide) (add_int ?_))
    refine ⟨_, _, _, _, rfl, ⟨?_, rfl⟩, D3⟩
    have e1 : 1 + (((hs.getD i 0 : Nat) : Int).fdiv ((i : Int) + 1)).fmod 3 = ((1 + hs.getD i 0 / (i + 1) % 3 : Nat) : Int) := by
      rw [Int.fdiv_eq_ediv_of_nonneg _ (by omega), Int.fmod_eq_emod_of_nonneg _ (by decide)]; push_cast; rfl
    have e2 : hrsL hs (i + 1) = hrsL hs i ++ [1 + (((hs.getD i 0 : Nat) : Int).fdiv ((i : Int) + 1)).fmod 3] := by
      unfold hrsL; rw [e1, List.range_succ, List.map_append]; rfl
    rw [e2]
    exact ints_snoc hz
  · rintro Y h3 tk3 zs _ D3 ⟨_, rfl, hl, hz, rfl⟩
    rw [hyl] at hz
    have hbl : bs.length = 1 := by rw [← hb]; rfl
    have hzl : zs.length = 4 := by have := hz.length; simpa [hrsL] using this
    refine addL D3 (ax := b) (bx := Y) (.tail _ (.tail _ (.tail _ (.head _)))) (.head _) (by omega) fun h4 a D4 => ?_
    refine sC H (i := 7) D4 rfl fun h5 D5 => ?_
    refine K _ _ a (bs ++ zs) ?_ ?_
    · exact IntsAre.append hb' hz
    · have D6 : Led h₀ h5 ((a, lstI (bs ++ zs)) :: (Y, lstI zs) :: _ :: _ :: (b, lstI bs) :: (L, nsI m) :: (ha, lstI ys) :: (L + 3, cellI (some (.ref a))) :: l) := D5
      have D7 := D6.sub (.cons_cons _ (.cons _ (.cons _ (.cons _ (.cons _ (List.Sublist.refl _))))))
      exact D7.perm (List.perm_middle (l₁ := [_, _, _])).symm
end
end Mine
end
-- La4
section
open PySem PySem.W PyProof.Rows PySem.Calls
set_option Elab.async false
set_option maxRecDepth 100000
set_option linter.unusedVariables false
namespace Mine
theorem args_iter1 (a : Value) : argsOk "iter" ⟨[a], []⟩ := by unfold argsOk; kernel_rfl
theorem slot_ext' : Slot "list" (Str.ofString "extend") "list.extend" := PySem.F.slot_list_extend
/-- the tape: for each node 64 and the hours, 128 and the other node -/
def octL (hs : List Nat) (n : Nat) : List Int := (List.range n).flatMap fun k => [64 + (hrsL hs 4).getD k 0, 128 + (parL hs 4).getD k 0]
theorem octL_succ (hs : List Nat) (n : Nat) : octL hs (n + 1) = octL hs n ++ [64 + (hrsL hs 4).getD n 0, 128 + (parL hs 4).getD n 0] := by
  unfold octL; rw [List.range_succ, List.flatMap_append]; rfl
theorem octL_len (hs : List Nat) : ∀ n, (octL hs n).length = 2 * n
  | 0 => rfl
  | n + 1 => by rw [octL_succ, List.length_append, octL_len hs n]; simp; omega
section
variable {w : World} {mg mb : Str → Option Value} {h₀ : Heap} {A : Around} {E : Value → Shared → Prop} {s : Shared} {Q : Value → Shared → Prop} {QF : Flow → Shared → Prop} {l r : List (Addr × Itm)} {env : Env} {L : Addr} {m : Str → Option Value}
theorem ext_l {a b : Addr} {its us : List Value} {i : Nat} (D : Led h₀ s.heap l) (hi : l[i]? = some (a, lstI its)) (hb : (b, lstI us) ∈ l) (hz : its.length + us.length ≤ 1000) (h : ∀ h', Led h₀ h' (l.set i (a, lstI (its ++ us))) → Q .none { s with heap := h' }) :
    wpAny (model prog w) A (call (.builtin "list.extend") [.ref a, .ref b]) Q E s := by
  obtain ⟨n, hl⟩ := (D.get i hi).lst
  obtain ⟨n2, hl2⟩ := (D.getM hb).lst
  refine call_meets PySem.F.slot_list_extend ⟨_, hl, rfl⟩ PySem.F.entry_list_extend (PySem.F.args_list_extend_2 _ _) (AutoSeq1.list_extend_list_list_0 a its.toArray n b us.toArray n2 ?_ ?_ ?_) ⟨hl, hl2, ?_⟩
  · rw [List.size_toArray, List.size_toArray]
    have : Builtin.List.listTooLong (its.length + us.length) = false := by
      simp [Builtin.List.listTooLong, sizeLine]; omega
    rw [this, Bool.and_false]; decide
  · rw [List.size_toArray, sizeLine_eq]; omega
  · rw [List.size_toArray, List.size_toArray, sizeLine_eq]; omega
  · exact h _ (D.lmap (its' := its ++ us) i hi hl (by simp))
theorem iter_l {a : Addr} {its : List Value} (D : Led h₀ s.heap l) (hm : (a, lstI its) ∈ l) (h : ∀ h' tk it, Led h₀ h' ((it, litI a 0) :: l) → Q (.ref it) { s with heap := h', toks := tk }) :
    wpAny (model prog w) A (call (.builtin "iter") [.ref a]) Q E s := by
  refine call_function_entry (by decide +kernel) (by decide +kernel) entry_iter (args_iter1 _) ?_
  unfold Builtin.«iter»
  refine wpAny_bind (wpAny_of_eq (a := [.ref a]) rfl ?_)
  dsimp only
  refine wpAny_bind (lit0 D hm fun h' tk it D2 => wpAny_pure ⟨_, rfl, h h' tk it D2⟩)
theorem mkL2 {M : Model} {e e₂ : Expr} {pos : Pos} (h : wpAny M A (eval e env) (fun v s₁ => wpAny M A (eval e₂ env) (fun v₂ s₂ => ∃ l, Led h₀ s₂.heap l ∧ ∀ h' a, Led h₀ h' ((a, lstI [v, v₂]) :: l) → Q (.ref a) { s₂ with heap := h' }) E s₁) E s)
    (he : backTo pos (starEach [e, e₂] env) = [(false, eval e env), (false, eval e₂ env)] := by rfl) : wpAny M A (eval (.List [e, e₂] pos) env) Q E s := by
  refine wpAny_List ?_
  rw [he]
  exact spliced_cons (wpAny_mono h (fun v s₁ q => spliced_cons (wpAny_mono q (fun v₂ s₂ q => spliced_nil ⟨by show 2 ≤ sizeLine; rw [sizeLine_eq]; decide, by
    obtain ⟨l, D, q⟩ := q
    exact q _ _ (D.push (o := { cls := .type "list", data := .seq [v, v₂].toArray }) (P := lstI [v, v₂]) rfl ⟨_, rfl⟩)⟩) fun _ _ x => x)) fun _ _ x => x)
/-- octets, the loop that fills them, and the tape -/
theorem la_octets {pa ra : Addr} {ps rs : List Value} {hs : List Nat} (G : Gr w mg mb h₀) (H : EF env laScope (laCells L) L) (hp : IntsAre ps (-1 :: parL hs 4)) (hr : IntsAre rs (0 :: hrsL hs 4))
    (D : Led h₀ s.heap ((L, nsI m) :: l)) (hpc : (L + 2, cellI (some (.ref pa))) ∈ l) (hpl : (pa, lstI ps) ∈ l) (hrc : (L + 3, cellI (some (.ref ra))) ∈ l) (hrl : (ra, lstI rs) ∈ l) (hh : A.handled = none)
    (K : ∀ h' tk' m' T oa os, (∀ z, z ≠ Str.ofString "octets" → z ≠ Str.ofString "k" → z ≠ Str.ofString "tape" → m' z = m z) → m' (Str.ofString "tape") = some (.ref T) → IntsAre os (octL hs 4) →
      Led h₀ h' ((L, nsI m') :: (T, litI oa 0) :: (oa, lstI os) :: l) → wpAny (model prog w) A (execs (laBody.drop 6) env) QF E { s with heap := h', toks := tk' }) :
    wpAny (model prog w) A (execs (laBody.drop 3) env) QF E s := by
  have hL := H.lo
  subst hL
  have hi4 : interactive env = false := by unfold interactive; rw [H.k0]; rfl
  refine wpAny_execs_cons (wpAny_Assign_Name (mkL0 D fun h1 oa D1 => sL H (D1.perm (.swap _ _ _)) fun h2 D2 => ?_))
  dsimp only
  refine wpAny_execs_cons ?_
  refine wpAny_For ?_
  refine wpAny_Call_NameR (nB H G D2 (by kernel_rfl) (v := .type "range") (by kernel_rfl) ?_)
  refine callT2 (wpAny_Constant_int (wpAny_Constant_int ?_))
  refine rng2 (a := 1) (n := 4) (b := 5) D2 rfl (by decide) fun h3 tk3 it D3 => ?_
  refine for_src (x := Str.ofString "k") (src_range hh) (fun i m' r => (∀ z, z ≠ Str.ofString "octets" → z ≠ Str.ofString "k" → m' z = m z) ∧ m' (Str.ofString "octets") = some (.ref oa) ∧ ∃ os, IntsAre os (octL hs i) ∧ r = (oa, lstI os) :: l) (H.k rfl) H.e4
    (D3.perm (.swap _ _ _)) ⟨fun z h1 h2 => if_neg h1, if_pos rfl, [], .nil, rfl⟩ (fun i m' r p q _ hJ => trivial) ?_ ?_
  · rintro i m' _ h4 tk4 v2 E' hi ⟨tv, rfl⟩ ⟨m1, m2, os, hos, rfl⟩ D4
    have ek : ((1 : Nat) : Int) + (i : Int) * 1 = ((i + 1 : Nat) : Int) := by omega
    have hosl : os.length = 2 * i := by have := hos.length; rw [this, octL_len]
    obtain ⟨t1, e1⟩ := ints_at hr (i := i + 1) (by simp [hrsL]; omega)
    obtain ⟨t2, e2⟩ := ints_at hp (i := i + 1) (by simp [parL]; omega)
    refine wpAny_execs_cons (wpAny_Expr (MethodCall_ (nL H D4 (.head _) (v := .ref oa) ((if_neg (by decide)).trans m2) ?_)) hi4)
    with_reducible refine gm_list rfl D4 (its := os) (List.mem_of_getElem? (i := 2) rfl) slot_ext' PySem.F.type_list_extend ?_
    refine callB1 ?_
    refine mkL2 (h₀ := h₀) ?_
    refine wpAny_BinOp (wpAny_Constant_int (Subscript_ (nC H D4 (c := env.locals + 3) (v := .ref ra) (.tail _ (.tail _ (.tail _ hrc))) (nL H D4 (.head _) (if_pos rfl) (itemL D4 (.tail _ (.tail _ (.tail _ hrl))) ek (by omega) e1 (add_int ?_))))))
    refine wpAny_BinOp (wpAny_Constant_int (Subscript_ (nC H D4 (c := env.locals + 2) (v := .ref pa) (.tail _ (.tail _ (.tail _ hpc))) (nL H D4 (.head _) (if_pos rfl) (itemL D4 (.tail _ (.tail _ (.tail _ hpl))) ek (by omega) e2 (add_int ?_))))))
    refine ⟨_, D4, fun h5 b D5 => ?_⟩
    refine ext_l (i := 3) D5 rfl (.head _) (by simp; omega) fun h6 D6 => ?_
    refine wpAny_execs_nil ⟨rfl, h6, _, (fun z => if z = Str.ofString "k" then some (.int (((1 : Nat) : Int) + (i : Int) * 1) tv) else m' z), _, rfl, ⟨fun z h1 h2 => (if_neg h2).trans (m1 z h1 h2), (if_neg (by decide)).trans m2, _, ?_, rfl⟩, D6.drop⟩
    have e3 : octL hs (i + 1) = octL hs i ++ [64 + (0 :: hrsL hs 4).getD (i + 1) 0, 128 + (-1 :: parL hs 4).getD (i + 1) 0] := octL_succ hs i
    rw [e3]
    exact IntsAre.append hos (.cons _ _ (.cons _ _ .nil))
  · rintro m' _ hf tk ⟨m1, m2, os, hos, rfl⟩ D4
    dsimp only
    have D5 : Led h₀ hf ((env.locals, nsI m') :: (oa, lstI os) :: l) := D4.sub (.cons_cons _ (.cons _ (List.Sublist.refl _)))
    refine wpAny_execs_cons (wpAny_Assign_Name (wpAny_Call_NameR (nB H G D5 (by kernel_rfl) (v := .builtin "iter") (by kernel_rfl) ?_)))
    refine callB1 (nL H D5 (.head _) m2 ?_)
    refine iter_l D5 (.tail _ (.head _)) fun h6 tk6 T D6 => ?_
    refine sL H (D6.perm (.swap _ _ _)) fun h7 D7 => ?_
    exact K h7 _ _ T oa os (fun z h1 h2 h3 => (if_neg h3).trans (m1 z h1 h2)) (if_pos rfl) hos D7
end
end Mine
end
-- La5
section
open PySem PySem.W PyProof.Rows PySem.Calls
set_option Elab.async false
set_option maxRecDepth 100000
set_option linter.unusedVariables false
namespace Mine
def treeOf (hs : List Nat) : Tree where
  P := fun k => hs.getD (k - 1) 0 % k
  H := fun k => 1 + hs.getD (k - 1) 0 / k % 3
  wy := wayF (fun k => hs.getD (k - 1) 0 % k) (fun k => 1 + hs.getD (k - 1) 0 / k % 3) 8
theorem oct_at {hs : List Nat} {os : List Value} (h : IntsAre os (octL hs 4)) : ∀ i, i < 4 → IntAt os (2 * i) (64 + ((treeOf hs).H (i + 1) : Int)) ∧ IntAt os (2 * i + 1) (128 + ((treeOf hs).P (i + 1) : Int)) := by
  intro i hi
  obtain ⟨t1, e1⟩ := ints_at h (i := 2 * i) (by rw [octL_len]; omega)
  obtain ⟨t2, e2⟩ := ints_at h (i := 2 * i + 1) (by rw [octL_len]; omega)
  refine ⟨⟨t1, e1.trans ?_⟩, ⟨t2, e2.trans ?_⟩⟩
  · congr 2
    match i, hi with
    | 0, _ => rfl
    | 1, _ => rfl
    | 2, _ => rfl
    | 3, _ => rfl
  · congr 2
    match i, hi with
    | 0, _ => rfl
    | 1, _ => rfl
    | 2, _ => rfl
    | 3, _ => rfl
theorem frame_out {P Q l : List (Addr × Itm)} {a F : Addr × Itm} {c : Addr × Addr} : (P ++ (Q ++ (a :: (tabE (some c) ++ (F :: l))))).Perm (F :: (P ++ (Q ++ (a :: (tabE (some c) ++ l))))) := by
  have e1 : P ++ (Q ++ (a :: (tabE (some c) ++ (F :: l)))) = (P ++ Q ++ a :: tabE (some c)) ++ F :: l := by simp
  have e2 : P ++ (Q ++ (a :: (tabE (some c) ++ l))) = (P ++ Q ++ a :: tabE (some c)) ++ l := by simp
  rw [e1, e2]
  exact List.perm_middle
section
variable {w : World} {mg mb : Str → Option Value} {h₀ : Heap} {A : Around} {E : Value → Shared → Prop} {s : Shared} {Q : Value → Shared → Prop} {QF : Flow → Shared → Prop} {l r : List (Addr × Itm)} {env : Env} {L : Addr} {m : Str → Option Value}
/-- an item of a tuple of the ledger -/
theorem itemT {a : Addr} {its : List Value} {k : Int} {n : Nat} {u : Tok} {v : Value} {value slice : Expr} (D : Led h₀ s.heap l) (hm : (a, tupI its) ∈ l) (hk : k = (n : Nat)) (hn : n ≤ 1000) (hv : its[n]? = some v) (h : Q v s)
    (h1 : subscripted slice false (.ref a) (.int k u) = operate [.ref a, .int k u] (getItem (.ref a) (.int k u)) := by with_unfolding_all rfl) :
    wpAny (model prog w) A (subscriptTail value slice (.ref a) (.int k u)) Q E s := by
  subst hk
  obtain ⟨o, hl, nn, rfl⟩ := D.getM hm
  have hlt := (List.getElem?_eq_some_iff.mp hv).1
  refine kba_turn (value' := PySem.Expr.Name (PySem.Str.ofString "_") ⟨0, 0, 0, 0⟩) (fun _ => rfl) ?_
  refine item_tuple (items := its.toArray) (j := n) ⟨_, hl, rfl, nn, rfl⟩ (by omega) (by omega) ?_ (by simpa using hv) h h1 (fun _ => rfl)
  unfold seqIndex?
  rw [List.size_toArray]
  simp; omega
/-- desks, ends = _law_grown(tape, ('\n', '\r', '\r\n')[sum(heaps) % 3]) -/
theorem la_grown {T oa ha : Addr} {os ys : List Value} {hs : List Nat} (G : Gr w mg mb h₀) (H : EF env laScope (laCells L) L) (hok : HeapsOk 4 ys hs) (hT : (treeOf hs).Ok) (hos : IntsAre os (octL hs 4))
    (mt : m (Str.ofString "tape") = some (.ref T)) (mh : m (Str.ofString "heaps") = some (.ref ha)) (hha : (ha, lstI ys) ∈ l)
    (D : Led h₀ s.heap ((L, nsI m) :: (T, litI oa 0) :: (oa, lstI os) :: (tabE none ++ l))) (hA : A.depth + 3 < recursionLimit) (hh : A.handled = none)
    (K : ∀ h' tk' m' dl el ds tps c c2, DesksOk (treeOf hs) c 5 ds → TpsOk 4 tps → (∀ z, z ≠ Str.ofString "desks" → z ≠ Str.ofString "ends" → m' z = m z) → m' (Str.ofString "desks") = some (.ref dl) → m' (Str.ofString "ends") = some (.ref el) →
      Led h₀ h' ((L, nsI m') :: (T, litI oa 8) :: (dl, lstI (ds.map fun d => .ref d.1.o)) :: (el, lstI (tps.map fun t => .ref t.1).reverse) :: (tps.map tpE ++ (desksE ds ++ ((oa, lstI os) :: (tabE (some (c, c2)) ++ l))))) → QF .next { s with heap := h', toks := tk' }) :
    wpAny (model prog w) A (exec (laBody.getD 6 noStmt) env) QF E s := by
  have hL := H.lo
  subst hL
  have hkk : keepIn (Mine.hd.heap_39 w.params) (.ref 116) = true := by kernel_rfl
  have hhal : ∀ {x y z : Addr × Itm} , (ha, lstI ys) ∈ x :: y :: z :: (tabE none ++ l) := .tail _ (.tail _ (.tail _ (List.mem_append_right _ hha)))
  refine PyProof.Rows.Assign_Tuple ?_
  refine wpAny_Call_NameR (nG H G D (v := .ref 116) (by kernel_rfl) ?_)
  refine callD2 G hkk ?_
  refine nL H D (.head _) mt ?_
  refine Subscript_ (mkT3 (h₀ := h₀) (wpAny_Constant_str (wpAny_Constant_str (wpAny_Constant_str ⟨_, D, fun h1 ta D1 => ?_⟩))))
  generalize hits : [Value.str (Str.ofString "\n") _, Value.str (Str.ofString "\r") _, Value.str (Str.ofString "\r\n") _] = its at D1
  refine wpAny_BinOp (wpAny_Call_NameR (nB H G D1 (by kernel_rfl) (v := .builtin "sum") (by kernel_rfl) ?_))
  refine callB1 (nL H D1 (.tail _ (.head _)) mh ?_)
  refine sumL hh D1 (.tail _ hhal) hok.1 fun h2 tk2 t2 D2 => ?_
  refine wpAny_Constant_int (mod_int' (by decide) ?_)
  obtain ⟨sn, hsn⟩ : ∃ sn : Nat, (hs.map fun k : Nat => (k : Int)).sum = sn := by
    refine ⟨hs.sum, ?_⟩
    clear hok hT hos K
    induction hs with
    | nil => rfl
    | cons a hs ih => rw [List.map_cons, List.sum_cons, List.sum_cons, ih]; push_cast; rfl
  rw [hsn]
  have e1 : ((sn : Nat) : Int).fmod 3 = (sn % 3 : Nat) := by rw [Int.fmod_eq_emod_of_nonneg _ (by decide)]; push_cast; rfl
  obtain ⟨e, te, he, hv⟩ : ∃ e te, isEnd e ∧ its[sn % 3]? = some (.str ⟨e.toArray⟩ te) := by
    rw [← hits]
    have : sn % 3 = 0 ∨ sn % 3 = 1 ∨ sn % 3 = 2 := by omega
    rcases this with h | h | h
    · rw [h]; exact ⟨[10], _, .inl rfl, rfl⟩
    · rw [h]; exact ⟨[13], _, .inr (.inl rfl), rfl⟩
    · rw [h]; exact ⟨[13, 10], _, .inr (.inr rfl), rfl⟩
  refine itemT D2 (.head _) e1 (by omega) hv ⟨⟨_, D2⟩, ?_⟩
  refine gr_ct (T := T) (ax := oa) (e := e) (te := te) (its := os) (R0 := (env.locals, nsI m) :: l) (Tr := treeOf hs) G hT he (oct_at hos) (D2.drop.perm (List.perm_middle (l₁ := [_, _, _])).symm) hA hh fun h3 tk3 tt dl el ds tps c c2 hds htps D3 => ?_
  obtain ⟨o, ho, nn, rfl⟩ := D3.get 0 rfl
  refine assign_Tuple_tuple hh (items := [.ref dl, .ref el].toArray) ⟨_, ho, rfl, nn, rfl⟩ rfl rfl fun h4 he4 => ?_
  replace D3 := (D3.kept (h' := h4) fun b o q => he4 b o (Nat.ne_of_lt (Heap.lt_size q)) q).drop
  replace D3 := D3.perm (frame_out (P := _ :: _ :: _ :: tps.map tpE) (Q := desksE ds) (c := (c, c2)))
  refine assignInOrder_cons (wpAny_assign_Name (sL H D3 fun h5 D5 => ?_))
  refine assignInOrder_cons (wpAny_assign_Name (sL H D5 fun h6 D6 => ?_))
  refine assignInOrder_nil ?_
  exact K h6 _ _ dl el ds tps c c2 hds htps (fun z h1 h2 => (if_neg h2).trans (if_neg h1)) ((if_neg (by decide)).trans (if_pos rfl)) (if_pos rfl) D6
end
end Mine
end
-- Li1
section
open PySem PySem.W PyProof.Rows PySem.Calls
set_option Elab.async false
set_option maxRecDepth 100000
set_option linter.unusedVariables false
namespace Mine
section
variable {w : World} {mg mb : Str → Option Value} {h₀ : Heap} {A : Around} {E : Value → Shared → Prop} {s : Shared} {Q : Value → Shared → Prop} {l r : List (Addr × Itm)}
/-- list(it) of a list iterator at its end -/
theorem list_end {T ax : Addr} {its : List Value} {j : Nat} (hh : A.handled = none) (D : Led h₀ s.heap l) (hj : l[j]? = some (T, litI ax its.length)) (hax : (ax, lstI its) ∈ l)
    (K : ∀ h' tk a, Led h₀ h' ((a, lstI []) :: l.set j (T, anyI)) → Q (.ref a) { s with heap := h', toks := tk }) : wpAny (model prog w) A (call (.type "list") [.ref T]) Q E s := by
  refine callType_codes (Q₁ := fun obj s₁ => obj = .ref s.heap.objs.size ∧ s₁ = { s with heap := s.heap.push { cls := .type "list", data := .seq #[] } }) PySem.F.called_list (PySem.F.typeCall_list_1 _) PySem.F.entry_list_init
    (code_list_new _ ⟨rfl, rfl⟩) fun obj s₁ h₁ => ?_
  obtain ⟨rfl, rfl⟩ := h₁
  have D1 := D.push (o := { cls := .type "list", data := .seq [].toArray }) (P := lstI []) rfl ⟨_, rfl⟩
  have hne : s.heap.objs.size ≠ T := fun e => by
    have := (D.get j hj).lt
    rw [← e] at this; exact Nat.lt_irrefl _ this
  refine ⟨⟨_, (D1.get 0 rfl).choose_spec.1, by obtain ⟨n, e⟩ := (D1.get 0 rfl).choose_spec.2; rw [e]⟩, PySem.F.args_list_init_2 _ _, ?_⟩
  generalize hS : s.heap.objs.size = S at D1 hne ⊢
  show wpAny _ A.in1.in1 (do let old ← Builtin.List.listItems (.ref S); Builtin.List.listUpdate (.ref S) (fun _ => #[]); letGo old.toList.reverse; Builtin.List.listExtendWith (.ref S) (.ref T) .none) _ _ _
  obtain ⟨n1, hl1⟩ := (D1.get 0 rfl).lst
  refine wpAny_bind ?_
  unfold Builtin.List.listItems
  refine wpAny_bind (wpAny_seqItems hl1 rfl (wpAny_pure ?_))
  show wpAny _ A.in1.in1 (updateSeq S (fun _ => #[]) >>= fun _ => letGo ([].toArray : Array Value).toList.reverse >>= fun _ => Builtin.List.listExtendWith (.ref S) (.ref T) .none) _ _ _
  refine wpAny_bind (wpAny_updateSeq hl1 rfl ?_)
  have D2 := D1.lmap (g := fun _ => #[]) (its' := []) 0 rfl hl1 rfl
  refine wpAny_bind (wpAny_letGo ?_)
  generalize (s.heap.push { cls := .type "list", data := .seq #[] }).update S (Obj.mapSeq fun _ => #[]) = h2 at D2 ⊢
  have hit : h2.IsListIter T ax its.length := (D2.get (j + 1) hj).lit
  have h1 : Builtin.List.listSameRef (.ref S) (.ref T) = false := by simp [Builtin.List.listSameRef, hne]
  unfold Builtin.List.listExtendWith
  have hT : ∀ g d tk os, Shared.TypeIs ⟨h2, g, d, tk, os⟩ (.ref T) "list_iterator" := fun g d tk os => by obtain ⟨o, ho, hc, _⟩ := hit; exact ⟨o, ho, hc⟩
  refine wpAny_bind (wpAny_typeOf (hT ..) ?_)
  rw [if_neg (by rw [h1]; decide)]
  refine wpAny_bind (wpAny_pyIter_listiter hit ?_)
  refine wpAny_bind (wpAny_holding ?_)
  unfold Builtin.List.listLengthHint
  refine wpAny_bind (wpAny_specialOf (hT ..) PySem.F.nolen_li ?_)
  show wpAny _ A.in1.in1 (specialOf (Value.ref T) (Str.ofString "__length_hint__") >>= _) _ _ _
  refine wpAny_bind (wpAny_specialOf (hT ..) PySem.F.hint_li ?_)
  generalize hid : ("list_iterator.__length_hint__" : String) = id0
  wp_delta
  rw [show splitId id0 = some ("list_iterator", "__length_hint__") from by subst hid; decide +kernel]
  subst hid
  refine wpAny_bind (wpAny_isInstance (b := true) (hT ..) (by rw [isSubtype_type]; kernel_rfl) ?_)
  refine wpAny_pure ?_
  rw [if_neg (by decide)]
  refine wpAny_pure ⟨plainId_quiet PySem.F.plain_extend_loop _, ?_⟩
  refine codeAny_builtin PySem.F.entry_extend_loop ?_
  rw [Around.under_plainId PySem.F.plain_extend_loop _]
  unfold Builtin.«list.extend.loop»
  show wpAny _ _ (pyNext (.ref T) >>= _) _ _ _
  have S1 := src_list (w := w) (h₀ := h₀) (A := A.in1.in1) (it := T) (ax := ax) (its := its) hh
  refine wpAny_bind (S1.done _ _ (j + 1) _ _ ⟨lstI its, .tail _ hax, fun o ⟨n, e⟩ => by subst e; exact ⟨rfl, n, rfl⟩⟩ hj D2 fun h3 tk3 D3 => ?_)
  exact wpAny_pure ⟨rfl, K h3 tk3 S D3⟩
end
end Mine
end
-- La6
section
open PySem PySem.W PyProof.Rows PySem.Calls
set_option Elab.async false
set_option maxRecDepth 100000
set_option linter.unusedVariables false
namespace Mine
open PyProof.V PySem.SeqAt
def tpD (n : Nat) : PyData := .tuple [.str Str.empty, .int n]
section
variable {w : World} {mg mb : Str → Option Value} {h₀ : Heap} {A : Around} {E : Value → Shared → Prop} {s : Shared} {Q : Value → Shared → Prop} {QF : Flow → Shared → Prop} {l r : List (Addr × Itm)} {env : Env} {L : Addr} {m : Str → Option Value}
theorem ne_same {a b : Value} {d : PyData} {as bs : List Addr} (ra : Reads s.heap a d as) (rb : Reads s.heap b d bs) (hd : shaped d = true) (hm : noMix d d = true) (hu : A.units + 64 < cLine) (h : Q (.bool false) s) :
    wpAny (model prog w) A (compareOp .NotEq a b) Q E s := ne_dataH_same ra rb hd hd hu hm (by rw [PySem.Spec.same_self]; exact h)
theorem reads_tp {h : Heap} {t : Tp} (x : At h t.1 (tupI [.str Str.empty t.2.2.1, .int (t.2.1 : Nat) t.2.2.2])) : ∃ as, Reads h (.ref t.1) (tpD t.2.1) as := by
  obtain ⟨o, ho, n, rfl⟩ := x
  exact ⟨_, Reads.tuple (vs := [.str Str.empty t.2.2.1, .int (t.2.1 : Nat) t.2.2.2].toArray) ho rfl rfl (.cons (.str _ _) (.cons (.int _ _) .nil))⟩
theorem readsAll_tps {h : Heap} : ∀ {ts : List Tp}, (∀ t ∈ ts, At h t.1 (tupI [.str Str.empty t.2.2.1, .int (t.2.1 : Nat) t.2.2.2])) → ∃ as, ReadsAll h (ts.map fun t => .ref t.1) (ts.map fun t => tpD t.2.1) as
  | [], _ => ⟨_, .nil⟩
  | t :: ts, x => by
    obtain ⟨as, ra⟩ := reads_tp (x t (List.mem_cons_self ..))
    obtain ⟨bs, rb⟩ := readsAll_tps (ts := ts) (fun t ht => x t (List.mem_cons_of_mem _ ht))
    exact ⟨_, .cons ra rb⟩
/-- the list of the ends, read -/
theorem reads_ends {h : Heap} {a : Addr} {ts : List Tp} (ht : TpsOk 4 ts) (D : Led h₀ h l) (ha : (a, lstI (ts.map fun t => .ref t.1).reverse) ∈ l) (hm : ∀ t ∈ ts, tpE t ∈ l) : ∃ as, Reads h (.ref a) (.list [tpD 2, tpD 3, tpD 4, tpD 5]) as := by
  obtain ⟨as, ra⟩ := readsAll_tps (h := h) (ts := ts.reverse) fun t ht => D.getM (hm t (List.mem_reverse.mp ht))
  obtain ⟨n, hl⟩ := (D.getM ha).lst
  have e1 : (ts.map fun t : Tp => Value.ref t.1).reverse = ts.reverse.map fun t => .ref t.1 := List.map_reverse.symm
  have e2 : (ts.reverse.map fun t : Tp => tpD t.2.1) = [tpD 2, tpD 3, tpD 4, tpD 5] := by
    have := congrArg (List.map tpD) ht
    rw [← List.map_reverse, List.map_map] at this
    exact this
  rw [e1] at hl
  rw [e2] at ra
  exact ⟨_, Reads.list hl rfl rfl ra⟩
theorem la_ends {T dl el oa : Addr} {dv os : List Value} {tps : List Tp} {R : List (Addr × Itm)} (G : Gr w mg mb h₀) (H : EF env laScope (laCells L) L) (me : m (Str.ofString "ends") = some (.ref el)) (mt : m (Str.ofString "tape") = some (.ref T)) (htps : TpsOk 4 tps) (hos : os.length = 8)
    (D : Led h₀ s.heap ((L, nsI m) :: (T, litI oa 8) :: (dl, lstI dv) :: (el, lstI (tps.map fun t => .ref t.1).reverse) :: (tps.map tpE ++ ((oa, lstI os) :: R)))) (hh : A.handled = none) (hu : A.units + 64 < cLine)
    (K : ∀ h' tk', Led h₀ h' ((L, nsI m) :: (dl, lstI dv) :: R) → QF .next { s with heap := h', toks := tk' }) :
    wpAny (model prog w) A (exec (laBody.getD 7 noStmt) env) QF E s := by
  have hd : shaped (.list [tpD 2, tpD 3, tpD 4, tpD 5]) = true := by decide +kernel
  have hm : noMix (.list [tpD 2, tpD 3, tpD 4, tpD 5]) (.list [tpD 2, tpD 3, tpD 4, tpD 5]) = true := by decide +kernel
  refine wpAny_If ?_
  refine isTrue_or ?_
  refine wpAny_isTrue_Compare1 ?_
  refine nL H D (.head _) me ?_
  refine comp_eval (h₀ := h₀) [] none (H.clos rfl) (fun _ _ => rfl) (fun _ => rfl) rfl (by decide) ?_
  refine wpAny_Call_NameR (nB H G D (by kernel_rfl) (v := .type "range") (by kernel_rfl) ?_)
  refine callT2 (wpAny_Constant_int (wpAny_Constant_int ?_))
  refine rng2 (a := 1) (n := 4) (b := 5) D rfl (by decide) fun h3 tk3 it D3 => ?_
  generalize hR0 : ((L, nsI m) :: (T, litI oa 8) :: (dl, lstI dv) :: (el, lstI (tps.map fun t => .ref t.1).reverse) :: (tps.map tpE ++ ((oa, lstI os) :: R))) = R0 at D D3
  refine ⟨_, _, _, _, CompAt.src0 (src_range hh) (fun i ys r => ∃ q, TpsOk i q ∧ ys = (q.map fun t => .ref t.1).reverse ∧ r = q.map tpE ++ R0) rfl rfl D3 ⟨[], rfl, rfl, rfl⟩
    (fun _ _ _ _ _ _ _ _ => trivial) (by decide) ?_, ?_⟩
  · rintro C Dd i ys _ h4 tk4 m4 v E' hi ⟨tv, rfl⟩ ⟨q, hq, rfl, rfl⟩ hl D4 HC
    replace HC := HC _ _ _ H
    refine mkT2 (h₀ := h₀) (wpAny_Constant_str (wpAny_BinOp (nL HC D4 (.head _) (if_pos rfl) (wpAny_Constant_int (add_int ⟨_, D4, fun h5 a D5 => ?_⟩)))))
    have e1 : ((1 : Nat) : Int) + (i : Int) * 1 + 1 = ((i + 2 : Nat) : Int) := by omega
    rw [e1] at D5
    exact ⟨_, _, _, _, rfl, ⟨(a, i + 2, _, _) :: q, hq.succ, by simp, rfl⟩, D5.perm (List.perm_middle (l₁ := [_, _, _])).symm⟩
  · rintro Y h4 tk4 ys _ D4 ⟨_, rfl, hl, q, hq, rfl, rfl⟩
    have hR0m : ∀ {e : Addr × Itm}, e ∈ R0 → e ∈ (Y, lstI (q.map fun t => .ref t.1).reverse) :: (it, anyI) :: (q.map tpE ++ R0) := fun he => .tail _ (.tail _ (List.mem_append_right _ he))
    obtain ⟨as, ra⟩ := reads_ends htps D4 (a := el) (hR0m (by rw [← hR0]; exact .tail _ (.tail _ (.tail _ (.head _))))) (fun t ht => hR0m (by rw [← hR0]; exact .tail _ (.tail _ (.tail _ (.tail _ (List.mem_append_left _ (List.mem_map_of_mem ht)))))))
    obtain ⟨bs, rb⟩ := reads_ends hq D4 (a := Y) (.head _) (fun t ht => .tail _ (.tail _ (List.mem_append_left _ (List.mem_map_of_mem ht))))
    refine ne_same ra rb hd hm hu (wpAny_truthy_bool ?_)
    rw [if_neg (by decide)]
    -- list(tape) != []
    have D5 : Led h₀ h4 R0 := D4.sub (.cons _ (.cons _ (List.sublist_append_right ..)))
    rw [← hR0] at D5
    refine isTrue_or ?_
    refine wpAny_isTrue_Compare1 ?_
    refine wpAny_Call_NameR (nB H G D5 (by kernel_rfl) (v := .type "list") (by kernel_rfl) ?_)
    refine callT1 (nL H D5 (.head _) mt ?_)
    refine list_end (T := T) (ax := oa) (its := os) (j := 1) hh D5 (by rw [hos]; rfl) (.tail _ (.tail _ (.tail _ (.tail _ (List.mem_append_right _ (.head _)))))) fun h6 tk6 a D6 => ?_
    refine mkL0 D6 fun h7 b D7 => ?_
    obtain ⟨n7, hl7⟩ := (D7.get 1 rfl).lst
    obtain ⟨n8, hl8⟩ := (D7.get 0 rfl).lst
    refine ne_same (d := .list []) (Reads.list hl7 rfl rfl .nil) (Reads.list hl8 rfl rfl .nil) (by decide +kernel) (by decide +kernel) hu (wpAny_truthy_bool ?_)
    rw [if_neg (by decide)]
    refine isTrue_or_nil ?_
    rw [if_neg (by decide)]
    refine wpAny_execs_nil (K _ _ ?_)
    exact D7.sub (.cons _ (.cons _ (.cons_cons _ (.cons _ (.cons_cons _ (.cons _ ((List.sublist_cons_self ..).trans (List.sublist_append_right ..))))))))
end
end Mine
end
-- La7
section
open PySem PySem.W PyProof.Rows PySem.Calls
set_option Elab.async false
set_option maxRecDepth 100000
set_option linter.unusedVariables false
namespace Mine
abbrev Row := Addr × List Value
def rowE (t : Row) : Addr × Itm := (t.1, lstI t.2)
/-- the rows of what is told, the newest first -/
def RowsOk (T : Tree) (i : Nat) (rows : List Row) : Prop := rows.length = i ∧ ∀ j t, rows.reverse[j]? = some t → StrsAre t.2 ((wordsOf T j 5).map dotS ++ [Str.empty])
theorem RowsOk.succ {T : Tree} {i : Nat} {rows : List Row} {a : Addr} {vs : List Value} (h : RowsOk T i rows) (hv : StrsAre vs ((wordsOf T i 5).map dotS ++ [Str.empty])) : RowsOk T (i + 1) ((a, vs) :: rows) := by
  refine ⟨by rw [List.length_cons, h.1], fun j t ht => ?_⟩
  rw [List.reverse_cons] at ht
  have hl : rows.reverse.length = i := by rw [List.length_reverse, h.1]
  rcases Nat.lt_or_ge j i with hj | hj
  · rw [List.getElem?_append_left (by omega)] at ht
    exact h.2 j t ht
  · rw [List.getElem?_append_right (by omega)] at ht
    have hj' : j = i := by
      rcases Nat.lt_or_ge (j - rows.reverse.length) 1 with h1 | h1
      · omega
      · rw [List.getElem?_eq_none (by simpa using h1)] at ht; cases ht
    subst hj'
    rw [hl, Nat.sub_self] at ht
    cases ht
    exact hv
section
variable {w : World} {mg mb : Str → Option Value} {h₀ : Heap} {A : Around} {E : Value → Shared → Prop} {s : Shared} {Q : Value → Shared → Prop} {QF : Flow → Shared → Prop} {l r : List (Addr × Itm)} {env : Env} {L : Addr} {m : Str → Option Value}
def lcElt : Expr → Expr
  | .ListComp e _ _ _ => e
  | e => e
/-- [desk.get_token() for turn in range(6)] -/
theorem la_row {C : Addr} {B R : List (Addr × Itm)} {l₁ l₂ : List Desk} {X : LX} {ws : List Value} {c : Addr} (G : Gr w mg mb h₀) (HC : EF env (relabelS (cmpScope (laBody.getD 8 noStmt)) laScope) [(Str.ofString "desk", C + 1)] C)
    (hwl : ws.length = 5) (hc : X.c = c) (hcd : (c, codI rdQual) ∈ R)
    (D : Led h₀ s.heap ((C + 1, cellI (some (.ref X.o))) :: B ++ (desksE (l₁ ++ (X, ws) :: l₂) ++ R))) (hA : A.depth + 2 < recursionLimit) (hh : A.handled = none)
    (K : ∀ h' tk' a t, Led h₀ h' ((a, lstI (ws ++ [.str Str.empty t])) :: (C + 1, cellI (some (.ref X.o))) :: B ++ (desksE (l₁ ++ (X, []) :: l₂) ++ R)) → Q (.ref a) { s with heap := h', toks := tk' }) :
    wpAny (model prog w) A (eval (cmpElt (laBody.getD 8 noStmt)) env) Q E s := by
  refine comp_eval (h₀ := h₀) [(Str.ofString "desk", C + 1)] none (HC.clos rfl) (fun _ _ => rfl) (fun _ => rfl) rfl (by decide) ?_
  refine wpAny_Call_NameR (nB HC G D (by kernel_rfl) (v := .type "range") (by kernel_rfl) ?_)
  refine callT1 (wpAny_Constant_int ?_)
  refine rng1 (b := 6) D (by decide) fun h1 tk1 it D1 => ?_
  refine ⟨_, _, _, _, CompAt.src0 (src_range hh) (fun k zs r => (k ≤ 5 ∧ zs = ws.take k ∨ k = 6 ∧ ∃ t, zs = ws ++ [.str Str.empty t]) ∧ r = (C + 1, cellI (some (.ref X.o))) :: B ++ (desksE (l₁ ++ (X, ws.drop k) :: l₂) ++ R)) rfl rfl D1 ⟨.inl ⟨by omega, rfl⟩, rfl⟩
    (fun _ _ _ _ _ _ _ _ => trivial) (by decide) ?_, ?_⟩
  · rintro C2 Dd k zs _ h2 tk2 m2 v E' hk ⟨tv, rfl⟩ ⟨hz, rfl⟩ hl D2 HC2
    replace HC2 := HC2 _ _ _ HC
    generalize (fun y => if y = Str.ofString "turn" then some (Value.int (0 + (k : Int) * 1) tv) else m2 y) = mf at D2
    obtain ⟨hk5, rfl⟩ : k ≤ 5 ∧ zs = ws.take k := by
      rcases hz with h | ⟨h, _⟩
      · exact h
      · omega
    refine MethodCall_ (nC HC2 D2 (c := C + 1) (v := .ref X.o) (.tail _ (.tail _ (.tail _ (.head _)))) (m_get G D2 (desk_mem (A := _ :: _ :: _ :: _ :: B) (desk_x (X, ws.drop k))) (desk_mem (A := _ :: _ :: _ :: _ :: B) (desk_d (X, ws.drop k))) ?_))
    refine callD0 G D2 (by kernel_rfl) ?_
    rcases Nat.lt_or_ge k 5 with hlt | hge
    · have hkw : k < ws.length := by omega
      have e := List.drop_eq_getElem_cons hkw
      rw [e] at D2
      refine pop_d (B := _ :: _ :: _ :: _ :: B) (ws := ws.drop (k + 1)) G D2 (by omega) (by rw [List.length_drop]; omega) fun h3 tk3 D3 => ?_
      refine ⟨h3, tk3, _, _, rfl, ⟨.inl ⟨hlt, ?_⟩, rfl⟩, D3⟩
      rw [List.take_succ_eq_append_getElem hkw]
    · obtain rfl : k = 5 := by omega
      have e : ws.drop 5 = [] := List.drop_eq_nil_of_le (by omega)
      have e6 : ws.drop 6 = [] := List.drop_eq_nil_of_le (by omega)
      have e7 : ws.take 5 = ws := List.take_of_length_le (by omega)
      rw [e] at D2
      have D2p : Led h₀ h2 (lexE X Str.empty 0 1 [] ++ (_ :: _ :: _ :: _ :: B ++ (desksE (l₁ ++ l₂) ++ R))) := D2.perm (desk_perm (_ :: _ :: _ :: _ :: B) R l₁ l₂ (X, []))
      refine gt_eof G D2p (by rw [hc]; exact List.mem_append_right _ (List.mem_append_right _ hcd)) hA hh (by decide) [] (by intro a ha; simp at ha) rfl fun h3 tk3 tk4 D3 => ?_
      have D4 : Led h₀ h3 ((C2, nsI mf) :: _ :: _ :: _ :: B ++ (desksE (l₁ ++ (X, []) :: l₂) ++ R)) := D3.perm (desk_perm (_ :: _ :: _ :: _ :: B) R l₁ l₂ (X, [])).symm
      refine ⟨h3, tk4, mf, _, rfl, ⟨.inr ⟨rfl, tk3, by rw [e7]⟩, rfl⟩, ?_⟩
      rw [e6]
      exact D4
  · rintro Y h2 tk2 zs _ D2 ⟨_, rfl, hl, hz, rfl⟩
    obtain ⟨t, rfl⟩ : ∃ t, zs = ws ++ [.str Str.empty t] := by
      rcases hz with ⟨h, _⟩ | ⟨_, h⟩
      · omega
      · exact h
    have e6 : ws.drop 6 = [] := List.drop_eq_nil_of_le (by omega)
    rw [e6] at D2
    exact K _ _ Y t (D2.sub (.cons_cons _ (.cons _ (List.Sublist.refl _))))
end
end Mine
end
-- La8
section
open PySem PySem.W PyProof.Rows PySem.Calls
set_option Elab.async false
set_option maxRecDepth 100000
set_option linter.unusedVariables false
namespace Mine
theorem perm7b {α : Type _} (a b c d e f g : α) : [a, b, c, d, e, f, g].Perm [c, d, b, e, f, g, a] :=
  List.Perm.map (fun i => [a, b, c, d, e, f, g].getD i a) (show [0, 1, 2, 3, 4, 5, 6].Perm [2, 3, 1, 4, 5, 6, 0] by decide)
section
variable {w : World} {mg mb : Str → Option Value} {h₀ : Heap} {A : Around} {E : Value → Shared → Prop} {s : Shared} {Q : Value → Shared → Prop} {QF : Flow → Shared → Prop} {l r : List (Addr × Itm)} {env : Env} {L : Addr} {m : Str → Option Value}
/-- told = [[desk.get_token() for turn in range(6)] for desk in desks] -/
theorem la_told {dl c : Addr} {R : List (Addr × Itm)} {ds : List Desk} {T : Tree} (G : Gr w mg mb h₀) (H : EF env laScope (laCells L) L) (md : m (Str.ofString "desks") = some (.ref dl)) (hds : DesksOk T c 5 ds) (hcd : (c, codI rdQual) ∈ R)
    (D : Led h₀ s.heap ((L, nsI m) :: (dl, lstI (ds.map fun d => .ref d.1.o)) :: (desksE ds ++ R))) (hA : A.depth + 2 < recursionLimit) (hh : A.handled = none)
    (K : ∀ h' tk' Y rows, RowsOk T 5 rows → Led h₀ h' ((L, nsI fun z => if z = Str.ofString "told" then some (.ref Y) else m z) :: (Y, lstI (rows.map fun t => .ref t.1).reverse) :: (rows.map rowE ++ R)) → QF .next { s with heap := h', toks := tk' }) :
    wpAny (model prog w) A (exec (laBody.getD 8 noStmt) env) QF E s := by
  have hL := H.lo
  subst hL
  have hdl : ds.length = 5 := hds.1
  refine comp_assign (h₀ := h₀) [] (some (Str.ofString "desk")) (by simp only [swapsWith, Env.blockKind]; rw [H.k0, H.k (x := Str.ofString "told") (k := .local) rfl]; rfl) (H.clos rfl) (fun _ _ => rfl) (fun _ => rfl) rfl (by decide) (H.k rfl) H.e4 ?_
  refine nL H D (.head _) md (lit0 (ax := dl) (its := ds.map fun d => .ref d.1.o) D (.tail _ (.head _)) fun h1 tk1 it D1 => ?_)
  refine ⟨_, _, _, _, CompAt.src1 (src_list (ax := dl) (its := ds.map fun d => .ref d.1.o) hh) (fun i ys r => ∃ rows, RowsOk T i rows ∧ ys = (rows.map fun t => .ref t.1).reverse ∧
      r = (env.locals, nsI m) :: (dl, lstI (ds.map fun d => .ref d.1.o)) :: (rows.map rowE ++ (desksE ((ds.take i).map (fun d => (d.1, [])) ++ ds.drop i) ++ R))) rfl (by rw [H.relabel]; rfl) D1 ⟨[], ⟨rfl, fun j t h => by simp at h⟩, rfl, by simp⟩
    ?_ (by rw [List.length_map]; omega) ?_, ?_⟩
  · rintro i ys _ p q t u _ ⟨rows, _, _, rfl⟩
    exact ⟨lstI (ds.map fun d => .ref d.1.o), .tail _ (.tail _ (.tail _ (.tail _ (.tail _ (.head _))))), fun o ⟨n, e⟩ => by subst e; exact ⟨rfl, n, rfl⟩⟩
  · rintro C Dd i ys _ h2 tk2 m2 v E' hi hv ⟨rows, hrows, rfl, rfl⟩ hl D2 HC
    replace HC := HC _ _ _ H
    have hi' : i < ds.length := by simpa using hi
    have hv' : v = .ref ds[i].1.o := by simpa [hi'] using hv.symm
    subst hv'
    obtain ⟨hws, hc⟩ := hds.2 i ds[i] (List.getElem?_eq_getElem hi')
    have hwl : ds[i].2.length = 5 := by have := hws.length; simpa [wordsOf] using this
    rw [List.drop_eq_getElem_cons hi'] at D2
    refine la_row (C := C) (B := _ :: _ :: _ :: _ :: _ :: rows.map rowE) (l₁ := (ds.take i).map fun d => (d.1, [])) (l₂ := ds.drop (i + 1)) (X := ds[i].1) (ws := ds[i].2) G HC hwl hc hcd (D2.perm (List.perm_middle (l₁ := [_, _]))) hA hh fun h3 tk3 a t D3 => ?_
    refine ⟨h3, tk3, m2, _, rfl, ⟨(a, ds[i].2 ++ [.str Str.empty t]) :: rows, hrows.succ (strs_snoc hws), by simp, rfl⟩, ?_⟩
    have e1 : (ds.take i).map (fun d : Desk => (d.1, ([] : List Value))) ++ (ds[i].1, []) :: ds.drop (i + 1) = (ds.take (i + 1)).map (fun d => (d.1, [])) ++ ds.drop (i + 1) := by
      rw [List.take_succ_eq_append_getElem hi', List.map_append, List.append_assoc]; rfl
    rw [← e1]
    exact D3.perm ((perm7b _ _ _ _ _ _ _).append_right (rows.map rowE ++ (desksE ((ds.take i).map (fun d => (d.1, [])) ++ (ds[i].1, []) :: ds.drop (i + 1)) ++ R)))
  · rintro ys _ ⟨_, rfl, hl, rows, hrows, rfl, rfl⟩
    rw [List.length_map, hdl] at hrows
    refine ⟨m, 1, rfl, fun Y hf tk D3 => K hf tk Y rows hrows ?_⟩
    have D4 := D3.perm (List.perm_middle (l₁ := [_, _]))
    exact D4.sub (.cons_cons _ (.cons_cons _ (.cons _ (.cons _ (List.Sublist.append (List.Sublist.refl _) (List.sublist_append_right ..))))))
end
end Mine
end
-- La9
section
open PySem PySem.W PyProof.Rows PySem.Calls
set_option Elab.async false
set_option maxRecDepth 100000
set_option linter.unusedVariables false
namespace Mine
open PyProof.V PySem.SeqAt
def strsD (xs : List Str) : PyData := .list (xs.map PyData.str)
def toldD (T : Tree) : PyData := .list ((List.range 5).map fun j => strsD ((wordsOf T j 5).map dotS ++ [Str.empty]))
theorem dots_ok (n : Nat) : PyData.strOk (dotS n) = true := by
  unfold PyData.strOk dotS
  rw [← Array.all_toList]
  rw [List.all_eq_true]
  intro x hx
  have := (List.mem_replicate.mp hx).2
  subst this; decide
theorem lay_strs : ∀ {xs : List Str}, (∀ x ∈ xs, PyData.strOk x = true) → PyData.canLayAll0 (xs.map PyData.str) = true
  | [], _ => by simp [PyData.canLayAll0]
  | x :: xs, h => by
    have h1 := h x (List.mem_cons_self ..)
    have h2 := lay_strs (xs := xs) fun y hy => h y (List.mem_cons_of_mem _ hy)
    simp [PyData.canLayAll0, PyData.canLay0, h1, h2]
theorem lay_lists : ∀ {xss : List (List Str)}, (∀ xs ∈ xss, ∀ x ∈ xs, PyData.strOk x = true) → PyData.canLayAll0 (xss.map strsD) = true
  | [], _ => by simp [PyData.canLayAll0]
  | xs :: xss, h => by
    have h1 := lay_strs (h xs (List.mem_cons_self ..))
    have h2 := lay_lists (xss := xss) fun y hy => h y (List.mem_cons_of_mem _ hy)
    simp [PyData.canLayAll0, PyData.canLay0, strsD, h1] at h2 ⊢
    exact h2
theorem depth_strs : ∀ xs : List Str, PyData.depthAll (xs.map PyData.str) ≤ 1
  | [] => by simp [PyData.depthAll]
  | x :: xs => by
    have := depth_strs xs
    simp only [List.map_cons, PyData.depthAll, PyData.depth]; omega
theorem depth_lists : ∀ xss : List (List Str), PyData.depthAll (xss.map strsD) ≤ 2
  | [] => by simp [PyData.depthAll]
  | xs :: xss => by
    have h1 := depth_lists xss
    have h2 := depth_strs xs
    simp only [List.map_cons, PyData.depthAll, strsD, PyData.depth] at h1 ⊢; omega
theorem mix_strs : ∀ xs ys : List Str, noMixAll (xs.map PyData.str) (ys.map PyData.str) = true
  | [], [] => by simp [noMixAll]
  | [], _ :: _ => by simp [noMixAll]
  | _ :: _, [] => by simp [noMixAll]
  | _ :: r, _ :: q => by simp [noMixAll, noMix, mix_strs r q]
theorem mix_lists : ∀ xs ys : List (List Str), noMixAll (xs.map strsD) (ys.map strsD) = true
  | [], [] => by simp [noMixAll]
  | [], _ :: _ => by simp [noMixAll]
  | _ :: _, [] => by simp [noMixAll]
  | a :: r, b :: q => by
    have h1 := mix_lists r q
    have h2 := mix_strs a b
    simp only [List.map_cons, noMixAll, strsD, noMix, h2, Bool.true_and] at h1 ⊢
    exact h1
theorem toldD_eq (T : Tree) : toldD T = .list (((List.range 5).map fun j => (wordsOf T j 5).map dotS ++ [Str.empty]).map strsD) := by
  unfold toldD; rw [List.map_map]; rfl
theorem told_shaped (T : Tree) : shaped (toldD T) = true := by
  rw [toldD_eq]
  have h1 := lay_lists (xss := (List.range 5).map fun j => (wordsOf T j 5).map dotS ++ [Str.empty]) (by
    intro xs hxs x hx
    obtain ⟨j, _, rfl⟩ := List.mem_map.mp hxs
    rcases List.mem_append.mp hx with hx | hx
    · obtain ⟨n, _, rfl⟩ := List.mem_map.mp hx
      exact dots_ok n
    · rw [List.mem_singleton.mp hx]; exact dots_ok 0)
  have h2 := depth_lists ((List.range 5).map fun j => (wordsOf T j 5).map dotS ++ [Str.empty])
  generalize ((List.range 5).map fun j => (wordsOf T j 5).map dotS ++ [Str.empty]) = xss at h1 h2
  show (PyData.canLay0 (.list (xss.map strsD)) && decide (PyData.depth (.list (xss.map strsD)) ≤ 64)) = true
  rw [Bool.and_eq_true]
  refine ⟨by simp only [PyData.canLay0]; exact h1, decide_eq_true ?_⟩
  simp only [PyData.depth]; omega
theorem told_mix (T : Tree) : noMix (toldD T) (toldD T) = true := by
  rw [toldD_eq]
  simp only [noMix]
  exact mix_lists _ _
theorem reads_strs {h : Heap} : ∀ {vs : List Value} {ys : List Str}, StrsAre vs ys → ReadsAll h vs (ys.map PyData.str) []
  | _, _, .nil => .nil
  | _, _, .cons y t r => by
    have := ReadsAll.cons (Reads.str (h := h) y t) (reads_strs (h := h) r)
    simpa using this
theorem readsAll_rows {h : Heap} : ∀ {ts : List Row} {f : List (List Str)}, ts.length = f.length → (∀ (j : Nat) (t : Row), ts[j]? = some t → At h t.1 (lstI t.2) ∧ ∃ xs, f[j]? = some xs ∧ StrsAre t.2 xs) → ∃ as, ReadsAll h (ts.map fun t => .ref t.1) (f.map strsD) as
  | [], [], _, _ => ⟨_, .nil⟩
  | t :: ts, xs :: f, hl, x => by
    obtain ⟨h1, xs', e, h2⟩ := x 0 t rfl
    cases e
    obtain ⟨n, hl1⟩ := h1.lst
    obtain ⟨as, ra⟩ := readsAll_rows (ts := ts) (f := f) (by simpa using hl) fun j t' ht => x (j + 1) t' ht
    exact ⟨_, .cons (Reads.list hl1 rfl rfl (reads_strs h2)) ra⟩
theorem reads_told {h₀ h : Heap} {l : List (Addr × Itm)} {a : Addr} {rows : List Row} {T : Tree} (ht : RowsOk T 5 rows) (D : Led h₀ h l) (ha : (a, lstI (rows.map fun t => .ref t.1).reverse) ∈ l) (hm : ∀ t ∈ rows, rowE t ∈ l) : ∃ as, Reads h (.ref a) (toldD T) as := by
  have hlen : rows.reverse.length = 5 := by rw [List.length_reverse, ht.1]
  obtain ⟨as, ra⟩ := readsAll_rows (h := h) (ts := rows.reverse) (f := (List.range 5).map fun j => (wordsOf T j 5).map dotS ++ [Str.empty]) (by rw [hlen]; simp) fun j t hjt => by
    have hj : j < 5 := by have := (List.getElem?_eq_some_iff.mp hjt).1; omega
    exact ⟨D.getM (hm t (List.mem_reverse.mp (List.mem_of_getElem? hjt))), _, by simp [hj], ht.2 j t hjt⟩
  obtain ⟨n, hl⟩ := (D.getM ha).lst
  rw [← List.map_reverse] at hl
  rw [toldD_eq]
  exact ⟨_, Reads.list hl rfl rfl ra⟩
theorem fold_dots : ∀ (n : Nat) (l : List Nat), (List.replicate n #[46]).foldl (· ++ ·) l.toArray = (l ++ List.replicate n 46).toArray
  | 0, l => by simp
  | n + 1, l => by
    rw [List.replicate_succ, List.foldl_cons, show l.toArray ++ #[46] = (l ++ [46]).toArray by simp, fold_dots n (l ++ [46]), List.replicate_succ, List.append_assoc]
    rfl
theorem dot_mul (n : Nat) (h : 1 ≤ n) : Txt.mul (Str.ofString ".") (n : Int) = dotS n := by
  have e : (Str.ofString ".") = ⟨#[46]⟩ := by decide
  rw [e]
  unfold Txt.mul
  rw [if_neg (by omega)]
  by_cases h1 : n = 1
  · subst h1; rfl
  · rw [if_neg (by simp [Str.length]; omega)]
    have := fold_dots n []
    rw [Int.toNat_natCast]
    show (⟨List.foldl (· ++ ·) ([] : List Nat).toArray (List.replicate n #[46])⟩ : Str) = _
    rw [this]; rfl
end Mine
end
-- LaA
section
open PySem PySem.W PyProof.Rows PySem.Calls
set_option Elab.async false
set_option maxRecDepth 100000
set_option linter.unusedVariables false
namespace Mine
def ifTest : Stmt → Expr
  | .If t _ _ _ => t
  | _ => .Constant .none 0 ⟨0, 0, 0, 0⟩
def cmpR : Expr → Expr
  | .Compare _ _ (r :: _) _ => r
  | e => e
def binL : Expr → Expr
  | .BinOp l _ _ _ => l
  | e => e
def lcScope : Expr → Scope
  | .ListComp _ _ c _ => c
  | _ => default
section
variable {w : World} {mg mb : Str → Option Value} {h₀ : Heap} {A : Around} {E : Value → Shared → Prop} {s : Shared} {Q : Value → Shared → Prop} {QF : Flow → Shared → Prop} {l r : List (Addr × Itm)} {env : Env} {L : Addr} {m : Str → Option Value}
theorem callWith4 {M : Model} {pos : Pos} {f : Value} {first : List Value} {e1 e2 e3 e4 : Expr} {P : Heap → Prop} (hk : ∀ h, P h → ∃ k, (k = Keeper.frame ∨ k = Keeper.machine ∨ k = Keeper.boundFrame) ∧ Looks M h (keeperOf f) k)
    (h : wpAny M A (eval e1 env) (fun v1 s₁ => wpAny M A (eval e2 env) (fun v2 s₂ => wpAny M A (eval e3 env) (fun v3 s₃ => wpAny M A (eval e4 env) (fun v4 s₄ => P s₄.heap ∧ wpAny M A (call f (first ++ [v1, v2, v3, v4])) Q E s₄) E s₃) E s₂) E s₁) E s)
    (he : backTo pos (starEach [e1, e2, e3, e4] env) = [(false, eval e1 env), (false, eval e2 env), (false, eval e3 env), (false, eval e4 env)] := by rfl) :
    wpAny M A (callWith pos f first (backTo pos (starEach [e1, e2, e3, e4] env)) []) Q E s := by
  rw [he]
  exact callWith_of rfl hk (evalArgs_plain (spliced_cons (wpAny_mono h (fun v1 s₁ q => spliced_cons (wpAny_mono q (fun v2 s₂ q => spliced_cons (wpAny_mono q (fun v3 s₃ q => spliced_cons (wpAny_mono q (fun v4 s₄ q => spliced_nil q) fun _ _ x => x)) fun _ _ x => x)) fun _ _ x => x)) fun _ _ x => x)))
theorem callD4 {M : Model} {pos : Pos} {f : Value} {first : List Value} {e1 e2 e3 e4 : Expr} (G : Gr w mg mb h₀) (hk : keepIn (Mine.hd.heap_39 w.params) f = true)
    (h : wpAny M A (eval e1 env) (fun v1 s₁ => wpAny M A (eval e2 env) (fun v2 s₂ => wpAny M A (eval e3 env) (fun v3 s₃ => wpAny M A (eval e4 env) (fun v4 s₄ => (∃ l, Led h₀ s₄.heap l) ∧ wpAny M A (call f (first ++ [v1, v2, v3, v4])) Q E s₄) E s₃) E s₂) E s₁) E s)
    (he : backTo pos (starEach [e1, e2, e3, e4] env) = [(false, eval e1 env), (false, eval e2 env), (false, eval e3 env), (false, eval e4 env)] := by rfl) :
    wpAny M A (callWith pos f first (backTo pos (starEach [e1, e2, e3, e4] env)) []) Q E s :=
  callWith4 (P := fun h => (Mine.hd.heap_39 w.params).In h) (keeps_K hk) (wpAny_mono h (fun v1 s₁ q => wpAny_mono q (fun v2 s₂ q => wpAny_mono q (fun v3 s₃ q => wpAny_mono q (fun v4 s₄ q => ⟨by obtain ⟨⟨l, D⟩, _⟩ := q; exact G.X.keeps D.keep, q.2⟩) fun _ _ x => x) fun _ _ x => x) fun _ _ x => x) fun _ _ x => x) he
/-- what the two lists say of the tree -/
structure TwoLists (T : Tree) (ps rs : List Value) : Prop where
  p : ∀ k, 1 ≤ k → k < 5 → IntAt ps k (T.P k)
  h : ∀ k, 1 ≤ k → k < 5 → IntAt rs k (T.H k)
  w : ∀ a b, T.wy a b = wayF T.P T.H 8 a b
/-- ['.' * (1 + _law_way(a, b, parents, hours)) for b in range(5)] -/
theorem la_wayrow {C pa ra : Addr} {ps rs : List Value} {T : Tree} {av : Nat} {ta : Tok} (G : Gr w mg mb h₀) (HC : EF env (relabelS (lcScope (cmpR (ifTest (laBody.getD 9 noStmt)))) laScope) [(Str.ofString "a", C + 1), (Str.ofString "parents", L + 2), (Str.ofString "hours", L + 3)] C)
    (hT : T.Ok) (hl : TwoLists T ps rs) (hav : av < 5) (D : Led h₀ s.heap l) (ha : (C + 1, cellI (some (.int (av : Nat) ta))) ∈ l) (hpc : (L + 2, cellI (some (.ref pa))) ∈ l) (hpl : (pa, lstI ps) ∈ l) (hrc : (L + 3, cellI (some (.ref ra))) ∈ l) (hrl : (ra, lstI rs) ∈ l)
    (hA : A.depth < recursionLimit) (hh : A.handled = none)
    (K : ∀ h' tk' a zs, StrsAre zs ((wordsOf T av 5).map dotS) → Led h₀ h' ((a, lstI zs) :: l) → Q (.ref a) { s with heap := h', toks := tk' }) :
    wpAny (model prog w) A (eval (binL (lcElt (cmpR (ifTest (laBody.getD 9 noStmt))))) env) Q E s := by
  have hkk : keepIn (Mine.hd.heap_39 w.params) (.ref 123) = true := by kernel_rfl
  refine comp_eval (h₀ := h₀) [(Str.ofString "parents", L + 2), (Str.ofString "hours", L + 3), (Str.ofString "a", C + 1)] none (HC.clos rfl) (fun _ _ => rfl) (fun _ => rfl) rfl (by decide) ?_
  refine wpAny_Call_NameR (nB HC G D (by kernel_rfl) (v := .type "range") (by kernel_rfl) ?_)
  refine callT1 (wpAny_Constant_int ?_)
  refine rng1 (b := 5) D (by decide) fun h1 tk1 it D1 => ?_
  refine ⟨_, _, _, _, CompAt.src0 (src_range hh) (fun k zs r => StrsAre zs ((wordsOf T av k).map dotS) ∧ r = l) rfl rfl D1 ⟨.nil, rfl⟩ (fun _ _ _ _ _ _ _ _ => trivial) (by decide) ?_, ?_⟩
  · rintro C2 Dd k zs _ h2 tk2 m2 v E' hk ⟨tv, rfl⟩ ⟨hz, rfl⟩ hzl D2 HC2
    replace HC2 := HC2 _ _ _ HC
    have e0 : (0 : Int) + (k : Int) * 1 = ((k : Nat) : Int) := by omega
    rw [e0] at D2
    refine wpAny_BinOp (wpAny_Constant_str (wpAny_BinOp (wpAny_Constant_int ?_)))
    refine wpAny_Call_NameR (nG HC2 G D2 (v := .ref 123) (by kernel_rfl) ?_)
    refine callD4 G hkk ?_
    refine nC HC2 D2 (c := C + 1) (.tail _ (.tail _ (.tail _ ha))) ?_
    refine nL HC2 D2 (.head _) (if_pos rfl) ?_
    refine nC HC2 D2 (c := L + 2) (.tail _ (.tail _ (.tail _ hpc))) ?_
    refine nC HC2 D2 (c := L + 3) (.tail _ (.tail _ (.tail _ hrc))) ⟨⟨_, D2⟩, ?_⟩
    refine way_ct (ps := ps) (hs := rs) (P := T.P) (H := T.H) (n := 8) G D2 (.tail _ (.tail _ (.tail _ hpl))) (.tail _ (.tail _ (.tail _ hrl))) (fun k h1 h2 => ⟨hl.p k h1 h2, hT.p k h1 h2⟩) hl.h hav hk (by omega) hA fun h3 tk tk3 D3 => ?_
    rw [← hl.w]
    have hwb := hT.wb av k hav hk
    refine add_int ?_
    have e1 : 1 + ((T.wy av k : Nat) : Int) = ((1 + T.wy av k : Nat) : Int) := by omega
    rw [e1]
    refine SB.mul (mulOk_of 16 1048576 (by decide) (by omega) (by omega) (by decide) (by decide)) fun t' kk => ?_
    rw [dot_mul _ (by omega)]
    refine ⟨_, _, _, _, rfl, ⟨?_, rfl⟩, D3⟩
    rw [wordsOf_succ, List.map_append]
    exact strs_snoc hz
  · rintro Y h2 tk2 zs _ D2 ⟨_, rfl, hzl, hz, rfl⟩
    exact K _ _ Y zs hz (D2.sub (.cons_cons _ (.cons _ (List.Sublist.refl _))))
end
end Mine
end
-- LaB
section
open PySem PySem.W PyProof.Rows PySem.Calls
set_option Elab.async false
set_option maxRecDepth 100000
set_option linter.unusedVariables false
namespace Mine
section
variable {w : World} {mg mb : Str → Option Value} {h₀ : Heap} {A : Around} {E : Value → Shared → Prop} {s : Shared} {Q : Value → Shared → Prop} {QF : Flow → Shared → Prop} {l r : List (Addr × Itm)} {env : Env} {L : Addr} {m : Str → Option Value}
/-- if told != [...]: return False -/
theorem la_toldeq {Y pa ra : Addr} {ps rs : List Value} {T : Tree} {rows : List Row} {R : List (Addr × Itm)} (G : Gr w mg mb h₀) (H : EF env laScope (laCells L) L) (hT : T.Ok) (hl : TwoLists T ps rs) (mt : m (Str.ofString "told") = some (.ref Y)) (hrows : RowsOk T 5 rows)
    (D : Led h₀ s.heap ((L, nsI m) :: (Y, lstI (rows.map fun t => .ref t.1).reverse) :: (rows.map rowE ++ R))) (hpc : (L + 2, cellI (some (.ref pa))) ∈ R) (hpl : (pa, lstI ps) ∈ R) (hrc : (L + 3, cellI (some (.ref ra))) ∈ R) (hrl : (ra, lstI rs) ∈ R)
    (hA : A.depth < recursionLimit) (hh : A.handled = none) (hu : A.units + 64 < cLine)
    (K : ∀ h' tk', Led h₀ h' ((L, nsI m) :: (Y, lstI (rows.map fun t => .ref t.1).reverse) :: (rows.map rowE ++ R)) → QF .next { s with heap := h', toks := tk' }) :
    wpAny (model prog w) A (exec (laBody.getD 9 noStmt) env) QF E s := by
  refine wpAny_If ?_
  refine wpAny_isTrue_Compare1 ?_
  refine nL H D (.head _) mt ?_
  refine comp_eval (h₀ := h₀) [(Str.ofString "parents", L + 2), (Str.ofString "hours", L + 3)] (some (Str.ofString "a")) (H.clos rfl) (fun _ _ => rfl) (fun _ => rfl) rfl (by decide) ?_
  refine wpAny_Call_NameR (nB H G D (by kernel_rfl) (v := .type "range") (by kernel_rfl) ?_)
  refine callT1 (wpAny_Constant_int ?_)
  refine rng1 (b := 5) D (by decide) fun h1 tk1 it D1 => ?_
  generalize hR0 : ((L, nsI m) :: (Y, lstI (rows.map fun t => .ref t.1).reverse) :: (rows.map rowE ++ R)) = R0 at D D1
  have hR0m : ∀ {e : Addr × Itm}, e ∈ R → e ∈ R0 := fun he => by rw [← hR0]; exact .tail _ (.tail _ (List.mem_append_right _ he))
  refine ⟨_, _, _, _, CompAt.src1 (src_range hh) (fun i ys r => ∃ q, RowsOk T i q ∧ ys = (q.map fun t => .ref t.1).reverse ∧ r = q.map rowE ++ R0) rfl (by rw [H.relabel]; rfl) D1 ⟨[], ⟨rfl, fun j t h => by simp at h⟩, rfl, rfl⟩
    (fun _ _ _ _ _ _ _ _ _ => trivial) (by decide) ?_, ?_⟩
  · rintro C Dd i ys _ h2 tk2 m2 v E' hi ⟨tv, rfl⟩ ⟨q, hq, rfl, rfl⟩ hyl D2 HC
    replace HC := HC _ _ _ H
    have e0 : (0 : Int) + (i : Int) * 1 = ((i : Nat) : Int) := by omega
    rw [e0] at D2
    refine wpAny_BinOp ?_
    refine la_wayrow (C := C) (L := L) (T := T) (av := i) (ta := tv) G HC hT hl hi D2 (.tail _ (.tail _ (.head _))) (.tail _ (.tail _ (.tail _ (.tail _ (List.mem_append_right _ (hR0m hpc)))))) (.tail _ (.tail _ (.tail _ (.tail _ (List.mem_append_right _ (hR0m hpl))))))
      (.tail _ (.tail _ (.tail _ (.tail _ (List.mem_append_right _ (hR0m hrc)))))) (.tail _ (.tail _ (.tail _ (.tail _ (List.mem_append_right _ (hR0m hrl)))))) hA hh fun h3 tk3 Z zs hz D3 => ?_
    refine mkL1 (wpAny_Constant_str ⟨_, D3, fun h4 b D4 => ?_⟩)
    have hzl : zs.length = 5 := by have := hz.length; simpa [wordsOf] using this
    generalize hst : Value.str (Str.ofString "") _ = sv at D4
    have hzs : StrsAre (zs ++ [sv]) ((wordsOf T i 5).map dotS ++ [Str.empty]) := by rw [← hst]; exact strs_snoc (y := Str.empty) hz
    refine addL D4 (ax := Z) (bx := b) (.tail _ (.head _)) (.head _) (by simp; omega) fun h5 a D5 => ?_
    refine ⟨h5, _, m2, _, rfl, ⟨(a, zs ++ [sv]) :: q, hq.succ hzs, by simp, rfl⟩, ?_⟩
    have D6 := D5.sub (.cons_cons _ (.cons _ (.cons _ (List.Sublist.refl _))))
    rw [e0]
    exact D6.perm (List.perm_middle (l₁ := [_, _, _, _])).symm
  · rintro Z h2 tk2 ys _ D2 ⟨_, rfl, hyl, q, hq, rfl, rfl⟩
    obtain ⟨as, ra⟩ := reads_told hrows D2 (a := Y) (.tail _ (.tail _ (List.mem_append_right _ (by rw [← hR0]; exact .tail _ (.head _))))) (fun t ht => .tail _ (.tail _ (List.mem_append_right _ (by rw [← hR0]; exact .tail _ (.tail _ (List.mem_append_left _ (List.mem_map_of_mem ht)))))))
    obtain ⟨bs, rb⟩ := reads_told hq D2 (a := Z) (.head _) (fun t ht => .tail _ (.tail _ (List.mem_append_left _ (List.mem_map_of_mem ht))))
    refine ne_same ra rb (told_shaped T) (told_mix T) hu (wpAny_truthy_bool ?_)
    rw [if_neg (by decide)]
    refine wpAny_execs_nil (K _ _ ?_)
    have D3 : Led h₀ h2 R0 := D2.sub (.cons _ (.cons _ (List.sublist_append_right ..)))
    rw [← hR0] at D3
    exact D3
end
end Mine
end
-- LaC
section
open PySem PySem.W PyProof.Rows PySem.Calls
set_option Elab.async false
set_option maxRecDepth 100000
set_option linter.unusedVariables false
namespace Mine
theorem slice5 (v0 v1 v2 v3 v4 v5 : Value) : (slicePick [v0, v1, v2, v3, v4, v5].toArray none (some 5) none).toList = [v0, v1, v2, v3, v4] := by
  rfl
theorem slice5' {vs : List Value} (h : vs.length = 6) : (slicePick vs.toArray none (some 5) none).toList = vs.take 5 := by
  match vs, h with
  | [v0, v1, v2, v3, v4, v5], _ => exact slice5 v0 v1 v2 v3 v4 v5
def waysOf (T : Tree) (j : Nat) : List Int := (List.range 5).map fun b => (T.wy j b : Int)
/-- the rows of the table, the newest first -/
def TabOk (T : Tree) (i : Nat) (trs : List Row) : Prop := trs.length = i ∧ ∀ j t, trs.reverse[j]? = some t → IntsAre t.2 (waysOf T j)
theorem TabOk.succ {T : Tree} {i : Nat} {rows : List Row} {a : Addr} {vs : List Value} (h : TabOk T i rows) (hv : IntsAre vs (waysOf T i)) : TabOk T (i + 1) ((a, vs) :: rows) := by
  refine ⟨by rw [List.length_cons, h.1], fun j t ht => ?_⟩
  rw [List.reverse_cons] at ht
  have hl : rows.reverse.length = i := by rw [List.length_reverse, h.1]
  rcases Nat.lt_or_ge j i with hj | hj
  · rw [List.getElem?_append_left (by omega)] at ht
    exact h.2 j t ht
  · rw [List.getElem?_append_right (by omega)] at ht
    have hj' : j = i := by
      rcases Nat.lt_or_ge (j - rows.reverse.length) 1 with h1 | h1
      · omega
      · rw [List.getElem?_eq_none (by simpa using h1)] at ht; cases ht
    subst hj'
    rw [hl, Nat.sub_self] at ht
    cases ht
    exact hv
section
variable {w : World} {mg mb : Str → Option Value} {h₀ : Heap} {A : Around} {E : Value → Shared → Prop} {s : Shared} {Q : Value → Shared → Prop} {QF : Flow → Shared → Prop} {l r : List (Addr × Itm)} {env : Env} {L : Addr} {m : Str → Option Value}
/-- [len(word) - 1 for word in row[:5]] -/
theorem la_tabrow {C a : Addr} {vs : List Value} {ns : List Nat} {cs : List (Str × Addr)} (G : Gr w mg mb h₀) (HC : EF env (relabelS (cmpScope (laBody.getD 10 noStmt)) laScope) cs C) (hm : m (Str.ofString "row") = some (.ref a))
    (hvs : StrsAre vs (ns.map dotS ++ [Str.empty])) (hn5 : ns.length = 5) (hn : ∀ k ∈ ns, 1 ≤ k ∧ k ≤ 31) (D : Led h₀ s.heap ((C, nsI m) :: l)) (ha : (a, lstI vs) ∈ l) (hh : A.handled = none)
    (K : ∀ h' tk' b zs, IntsAre zs (ns.map fun k : Nat => (k : Int) - 1) → Led h₀ h' ((b, lstI zs) :: (C, nsI m) :: l) → Q (.ref b) { s with heap := h', toks := tk' }) :
    wpAny (model prog w) A (eval (cmpElt (laBody.getD 10 noStmt)) env) Q E s := by
  have hvl : vs.length = 6 := by have := hvs.length; simp at this; omega
  refine comp_eval (h₀ := h₀) [] none (HC.clos rfl) (fun _ _ => rfl) (fun _ => rfl) rfl (by decide) ?_
  refine Subscript_ (nL HC D (.head _) hm ?_)
  refine wpAny_Slice (part_none (part_some (wpAny_Constant_int (part_none ?_))))
  obtain ⟨n, hl⟩ := (D.getM (.tail _ ha)).lst
  refine sliceL (its := vs) D (lo := none) (hi := some 5) (st := none) hl.isList (by omega) .none (.int _ _) .none (by decide) fun h4 b D4 => ?_
  rw [slice5' hvl] at D4
  have hus : StrsAre (vs.take 5) (ns.map dotS) := by
    have := hvs.take' 5
    rw [List.take_left' (by rw [List.length_map]; exact hn5)] at this
    exact this
  generalize vs.take 5 = us at D4 hus
  have hul : us.length = 5 := by have := hus.length; simp at this; omega
  refine lit0 D4 (.head _) fun h5 tk5 it5 D5 => ?_
  refine ⟨_, _, _, _, CompAt.src0 (src_list (ax := b) (its := us) hh) (fun j zs r => IntsAre zs ((ns.take j).map fun k : Nat => (k : Int) - 1) ∧ r = (b, lstI us) :: (C, nsI m) :: l) rfl rfl D5 ⟨.nil, rfl⟩ ?_ (by omega) ?_, ?_⟩
  · rintro j zs _ p q t _ ⟨_, rfl⟩
    exact ⟨lstI us, .tail _ (.tail _ (.tail _ (.head _))), fun o ⟨n, e⟩ => by subst e; exact ⟨rfl, n, rfl⟩⟩
  · rintro C2 Dd2 j zs _ h6 tk6 m6 v E'' hj hv2 ⟨hz, rfl⟩ hl2 D6 HC2
    replace HC2 := HC2 _ _ _ HC
    have hjn : j < ns.length := by omega
    obtain ⟨tq, hq⟩ := hus.get j (dotS ns[j]) (by simp [hjn])
    have : v = .str (dotS ns[j]) tq := by rw [hv2] at hq; exact Option.some.inj hq
    subst this
    have hlen : (dotS ns[j]).length = ns[j] := by simp [dotS, Str.length]
    have hb := hn ns[j] (List.getElem_mem hjn)
    refine wpAny_BinOp (wpAny_Call_NameR (nB HC2 G D6 (by kernel_rfl) (v := .builtin "len") (by kernel_rfl) ?_))
    refine callB1 (nL HC2 D6 (.head _) (if_pos rfl) ?_)
    refine len_str (by omega) (wpAny_Constant_int (sub_int ?_))
    refine ⟨_, _, _, _, rfl, ⟨?_, rfl⟩, D6⟩
    rw [List.take_succ_eq_append_getElem hjn, List.map_append]
    have e1 : (((dotS ns[j]).length : Nat) : Int) - 1 = (ns[j] : Int) - 1 := by rw [hlen]
    rw [e1]
    exact ints_snoc hz
  · rintro Y h6 tk6 zs _ D6 ⟨_, rfl, hl2, hz, rfl⟩
    rw [hul, ← hn5, List.take_length] at hz
    exact K _ _ Y zs hz (D6.sub (.cons_cons _ (.cons _ (.cons _ (List.Sublist.refl _)))))
end
end Mine
end
-- LaD
section
open PySem PySem.W PyProof.Rows PySem.Calls
set_option Elab.async false
set_option maxRecDepth 100000
set_option linter.unusedVariables false
namespace Mine
theorem row_at {rows : List Row} {i : Nat} {v : Value} (h : ((rows.map fun t => Value.ref t.1).reverse)[i]? = some v) : ∃ t : Row, rows.reverse[i]? = some t ∧ v = .ref t.1 ∧ t ∈ rows := by
  rw [← List.map_reverse, List.getElem?_map] at h
  cases ht : rows.reverse[i]? with
  | none => rw [ht] at h; cases h
  | some t =>
    rw [ht] at h
    cases h
    exact ⟨t, rfl, rfl, List.mem_reverse.mp (List.mem_of_getElem? ht)⟩
section
variable {w : World} {mg mb : Str → Option Value} {h₀ : Heap} {A : Around} {E : Value → Shared → Prop} {s : Shared} {Q : Value → Shared → Prop} {QF : Flow → Shared → Prop} {l r : List (Addr × Itm)} {env : Env} {L : Addr} {m : Str → Option Value}
/-- table = [[len(word) - 1 for word in row[:5]] for row in told] -/
theorem la_table {Y : Addr} {T : Tree} {rows : List Row} {R : List (Addr × Itm)} (G : Gr w mg mb h₀) (H : EF env laScope (laCells L) L) (hT : T.Ok) (mt : m (Str.ofString "told") = some (.ref Y)) (hrows : RowsOk T 5 rows)
    (D : Led h₀ s.heap ((L, nsI m) :: (Y, lstI (rows.map fun t => .ref t.1).reverse) :: (rows.map rowE ++ R))) (hh : A.handled = none)
    (K : ∀ h' tk' Z trs, TabOk T 5 trs → Led h₀ h' ((L, nsI fun z => if z = Str.ofString "table" then some (.ref Z) else m z) :: (Z, lstI (trs.map fun t => .ref t.1).reverse) :: (trs.map rowE ++ R)) → QF .next { s with heap := h', toks := tk' }) :
    wpAny (model prog w) A (exec (laBody.getD 10 noStmt) env) QF E s := by
  have hL := H.lo
  subst hL
  have hrl : ((rows.map fun t : Row => Value.ref t.1).reverse).length = 5 := by rw [List.length_reverse, List.length_map, hrows.1]
  refine comp_assign (h₀ := h₀) [] none (by simp only [swapsWith, Env.blockKind]; rw [H.k0, H.k (x := Str.ofString "table") (k := .local) rfl]; rfl) (H.clos rfl) (fun _ _ => rfl) (fun _ => rfl) rfl (by decide) (H.k rfl) H.e4 ?_
  refine nL H D (.head _) mt (lit0 (ax := Y) (its := (rows.map fun t => .ref t.1).reverse) D (.tail _ (.head _)) fun h1 tk1 it D1 => ?_)
  refine ⟨_, _, _, _, CompAt.src0 (src_list (ax := Y) (its := (rows.map fun t => .ref t.1).reverse) hh) (fun i ys r => ∃ trs, TabOk T i trs ∧ ys = (trs.map fun t => .ref t.1).reverse ∧
      r = (env.locals, nsI m) :: (Y, lstI (rows.map fun t => .ref t.1).reverse) :: (trs.map rowE ++ (rows.map rowE ++ R))) rfl rfl D1 ⟨[], ⟨rfl, fun j t h => by simp at h⟩, rfl, rfl⟩
    ?_ (by omega) ?_, ?_⟩
  · rintro i ys _ p q t _ ⟨trs, _, _, rfl⟩
    exact ⟨lstI _, .tail _ (.tail _ (.tail _ (.tail _ (.head _)))), fun o ⟨n, e⟩ => by subst e; exact ⟨rfl, n, rfl⟩⟩
  · rintro C Dd i ys _ h2 tk2 m2 v E' hi hv ⟨trs, htrs, rfl, rfl⟩ hyl D2 HC
    replace HC := HC _ _ _ H
    obtain ⟨t, ht, rfl, htm⟩ := row_at hv
    have hst := hrows.2 i t ht
    have hi5 : i < 5 := by omega
    refine la_tabrow (C := C) (a := t.1) (vs := t.2) (ns := wordsOf T i 5) G HC (if_pos rfl) hst (by simp [wordsOf]) (fun k hk => ?_) D2 (.tail _ (.tail _ (.tail _ (.tail _ (List.mem_append_right _ (List.mem_append_left _ (List.mem_map_of_mem (f := rowE) htm))))))) hh fun h3 tk3 b zs hz D3 => ?_
    · obtain ⟨b, hb, rfl⟩ := List.mem_map.mp hk
      have := hT.wb i b hi5 (List.mem_range.mp hb)
      omega
    · refine ⟨h3, tk3, _, _, rfl, ⟨(b, zs) :: trs, htrs.succ ?_, by simp, rfl⟩, D3.perm (List.perm_middle (l₁ := [_, _, _, _, _])).symm⟩
      have e1 : waysOf T i = (wordsOf T i 5).map fun k : Nat => (k : Int) - 1 := by
        unfold waysOf wordsOf
        rw [List.map_map]
        apply List.map_congr_left
        intro b _
        show (T.wy i b : Int) = ((1 + T.wy i b : Nat) : Int) - 1
        omega
      rw [e1]
      exact hz
  · rintro ys _ ⟨_, rfl, hyl, trs, htrs, rfl, rfl⟩
    rw [hrl] at htrs
    refine ⟨m, 1, rfl, fun Z hf tk D3 => K hf tk Z trs htrs ?_⟩
    have D4 := D3.perm (List.perm_middle (l₁ := [_, _]))
    exact D4.sub (.cons_cons _ (.cons_cons _ (.cons _ (.cons _ (List.Sublist.append (List.Sublist.refl _) (List.sublist_append_right ..))))))
end
end Mine
end
-- LaE
section
open PySem PySem.W PyProof.Rows PySem.Calls
set_option Elab.async false
set_option maxRecDepth 100000
set_option linter.unusedVariables false
namespace Mine
def wholeN (T : Tree) : Nat → Nat
  | 0 => 0
  | n + 1 => wholeN T n + T.H (n + 1)
def prodN (T : Tree) : Nat → Nat
  | 0 => 1
  | n + 1 => prodN T n * T.H (n + 1)
def dueL (T : Tree) : Nat → List Int
  | 0 => [0]
  | n + 1 => dueL T n ++ [-((-2) ^ n) * (prodN T (n + 1) : Int) * (wholeN T (n + 1) : Int)]
theorem whole_le {T : Tree} (hT : T.Ok) : ∀ n, n < 5 → wholeN T n ≤ 3 * n
  | 0, _ => by simp [wholeN]
  | n + 1, h => by
    have h1 := whole_le hT n (by omega)
    have h2 := hT.h3 (n + 1) (by omega) h
    simp only [wholeN]; omega
theorem prod_le {T : Tree} (hT : T.Ok) : ∀ n, n < 5 → prodN T n ≤ 81
  | 0, _ => by show 1 ≤ 81; omega
  | 1, h => by
    have h2 := hT.h3 1 (by omega) h
    show 1 * T.H 1 ≤ 81
    omega
  | 2, h => by
    have h1 := hT.h3 1 (by omega) (by omega); have h2 := hT.h3 2 (by omega) h
    have h3 := Nat.mul_le_mul h1 h2
    show 1 * T.H 1 * T.H 2 ≤ 81
    rw [Nat.one_mul]; omega
  | 3, h => by
    have h1 := hT.h3 1 (by omega) (by omega); have h2 := hT.h3 2 (by omega) (by omega); have h3 := hT.h3 3 (by omega) h
    have h4 := Nat.mul_le_mul (Nat.mul_le_mul h1 h2) h3
    show 1 * T.H 1 * T.H 2 * T.H 3 ≤ 81
    rw [Nat.one_mul]; omega
  | 4, h => by
    have h1 := hT.h3 1 (by omega) (by omega); have h2 := hT.h3 2 (by omega) (by omega); have h3 := hT.h3 3 (by omega) (by omega); have h4 := hT.h3 4 (by omega) h
    have h5 := Nat.mul_le_mul (Nat.mul_le_mul (Nat.mul_le_mul h1 h2) h3) h4
    show 1 * T.H 1 * T.H 2 * T.H 3 * T.H 4 ≤ 81
    rw [Nat.one_mul]; omega
  | n + 5, h => by omega
theorem due_len (T : Tree) : ∀ n, (dueL T n).length = n + 1
  | 0 => rfl
  | n + 1 => by unfold dueL; rw [List.length_append, due_len T n]; rfl
theorem due_small {i : Nat} (hi : i < 4) (p : Nat) (hp : p ≤ 81) : (-((-2 : Int) ^ i)).natAbs < 2 ^ 60 ∧ (-((-2 : Int) ^ i) * (p : Int)).natAbs < 2 ^ 60 := by
  have : i = 0 ∨ i = 1 ∨ i = 2 ∨ i = 3 := by omega
  rcases this with rfl | rfl | rfl | rfl
  · have e : -((-2 : Int) ^ 0) = -1 := by decide
    rw [e]; omega
  · have e : -((-2 : Int) ^ 1) = 2 := by decide
    rw [e]; omega
  · have e : -((-2 : Int) ^ 2) = -4 := by decide
    rw [e]; omega
  · have e : -((-2 : Int) ^ 3) = 8 := by decide
    rw [e]; omega
section
variable {w : World} {mg mb : Str → Option Value} {h₀ : Heap} {A : Around} {E : Value → Shared → Prop} {s : Shared} {Q : Value → Shared → Prop} {QF : Flow → Shared → Prop} {l r : List (Addr × Itm)} {env : Env} {L : Addr} {m : Str → Option Value}
/-- whole, product, due, and their loop -/
theorem la_due {ra : Addr} {ps rs : List Value} {T : Tree} (G : Gr w mg mb h₀) (H : EF env laScope (laCells L) L) (hT : T.Ok) (hl : TwoLists T ps rs)
    (D : Led h₀ s.heap ((L, nsI m) :: l)) (hrc : (L + 3, cellI (some (.ref ra))) ∈ l) (hrl : (ra, lstI rs) ∈ l) (hh : A.handled = none)
    (K : ∀ h' tk' m' da dv t, (∀ z, z ≠ Str.ofString "whole" → z ≠ Str.ofString "product" → z ≠ Str.ofString "due" → z ≠ Str.ofString "k" → m' z = m z) → m' (Str.ofString "whole") = some (.int (wholeN T 4) t) → m' (Str.ofString "due") = some (.ref da) →
      IntsAre dv (dueL T 4) → Led h₀ h' ((L, nsI m') :: (da, lstI dv) :: l) → wpAny (model prog w) A (execs (laBody.drop 15) env) QF E { s with heap := h', toks := tk' }) :
    wpAny (model prog w) A (execs (laBody.drop 11) env) QF E s := by
  have hL := H.lo
  subst hL
  have hi4 : interactive env = false := by unfold interactive; rw [H.k0]; rfl
  refine wpAny_execs_cons (wpAny_Assign_Name (wpAny_Constant_int (sL H D fun h1 D1 => ?_)))
  dsimp only
  refine wpAny_execs_cons (wpAny_Assign_Name (wpAny_Constant_int (sL H D1 fun h2 D2 => ?_)))
  dsimp only
  refine wpAny_execs_cons (wpAny_Assign_Name (mkL1 (wpAny_Constant_int ⟨_, D2, fun h3 da D3 => sL H (D3.perm (.swap _ _ _)) fun h4 D4 => ?_⟩)))
  dsimp only
  generalize hdv : [Value.int 0 _] = dv at D4
  have hdv' : IntsAre dv (dueL T 0) := by rw [← hdv]; exact .cons _ _ .nil
  refine wpAny_execs_cons ?_
  refine wpAny_For ?_
  refine wpAny_Call_NameR (nB H G D4 (by kernel_rfl) (v := .type "range") (by kernel_rfl) ?_)
  refine callT2 (wpAny_Constant_int (wpAny_Constant_int ?_))
  refine rng2 (a := 1) (n := 4) (b := 5) D4 rfl (by decide) fun h5 tk5 it D5 => ?_
  refine for_src (x := Str.ofString "k") (src_range hh) (fun i m' r => (∀ z, z ≠ Str.ofString "whole" → z ≠ Str.ofString "product" → z ≠ Str.ofString "due" → z ≠ Str.ofString "k" → m' z = m z) ∧
      (∃ t, m' (Str.ofString "whole") = some (.int (wholeN T i) t)) ∧ (∃ t, m' (Str.ofString "product") = some (.int (prodN T i) t)) ∧ m' (Str.ofString "due") = some (.ref da) ∧ ∃ dv, IntsAre dv (dueL T i) ∧ r = (da, lstI dv) :: l) (H.k rfl) H.e4
    (D5.perm (.swap _ _ _)) ⟨fun z h1 h2 h3 h4 => (if_neg h3).trans ((if_neg h2).trans (if_neg h1)), ⟨_, (if_neg (by decide)).trans ((if_neg (by decide)).trans (if_pos rfl))⟩, ⟨_, (if_neg (by decide)).trans (if_pos rfl)⟩, if_pos rfl, dv, hdv', rfl⟩ (fun i m' r p q _ hJ => trivial) ?_ ?_
  · rintro i m' _ h6 tk6 v2 E' hi ⟨tv, rfl⟩ ⟨m1, ⟨t2, m2⟩, ⟨t3, m3⟩, m4, dv, hdv, rfl⟩ D6
    have ek : ((1 : Nat) : Int) + (i : Int) * 1 = ((i + 1 : Nat) : Int) := by omega
    obtain ⟨th, eh⟩ := hl.h (i + 1) (by omega) (by omega)
    have hH := hT.h3 (i + 1) (by omega) (by omega)
    have hP := prod_le hT (i + 1) (by omega)
    have hP0 := prod_le hT i (by omega)
    have hdl : dv.length = i + 1 := by have := hdv.length; rw [due_len] at this; exact this
    have hsm := due_small hi (prodN T (i + 1)) hP
    rw [ek] at D6
    refine wpAny_execs_cons (wpAny_AugAssign_Name (wpAny_loadName_local H.k0 (H.k rfl) (D6.ns 0 rfl) ((if_neg (by decide)).trans m2) ?_))
    refine Subscript_ (nC H D6 (c := env.locals + 3) (v := .ref ra) (.tail _ (.tail _ (.tail _ hrc))) (nL H D6 (.head _) (if_pos rfl) (itemL D6 (.tail _ (.tail _ (.tail _ hrl))) rfl (by omega) eh (iadd_int ?_))))
    have e1 : ((wholeN T i : Nat) : Int) + (T.H (i + 1) : Int) = ((wholeN T (i + 1) : Nat) : Int) := by simp only [wholeN]; push_cast; rfl
    rw [e1]
    refine sL H D6 fun h7 D7 => ?_
    dsimp only
    refine wpAny_execs_cons (wpAny_AugAssign_Name (wpAny_loadName_local H.k0 (H.k rfl) (D7.ns 0 rfl) ((if_neg (by decide)).trans ((if_neg (by decide)).trans m3)) ?_))
    refine Subscript_ (nC H D7 (c := env.locals + 3) (v := .ref ra) (.tail _ (.tail _ (.tail _ hrc))) (nL H D7 (.head _) ((if_neg (by decide)).trans (if_pos rfl)) (itemL D7 (.tail _ (.tail _ (.tail _ hrl))) rfl (by omega) eh (imul_int ?_ (mulOk (by omega))))))
    have e2 : ((prodN T i : Nat) : Int) * (T.H (i + 1) : Int) = ((prodN T (i + 1) : Nat) : Int) := by simp only [prodN]; push_cast; rfl
    rw [e2]
    refine sL H D7 fun h8 D8 => ?_
    dsimp only
    refine wpAny_execs_cons (wpAny_Expr (MethodCall_ (nL H D8 (.head _) (v := .ref da) ((if_neg (by decide)).trans ((if_neg (by decide)).trans ((if_neg (by decide)).trans m4))) ?_)) hi4)
    with_reducible refine gm_list rfl D8 (its := dv) (List.mem_of_getElem? (i := 2) rfl) slot_app' PySem.F.type_list_append ?_
    refine callB1 ?_
    refine wpAny_BinOp (wpAny_BinOp (wpAny_UnaryOp (wpAny_BinOp (wpAny_UnaryOp (wpAny_Constant_int (neg_int ?_))))))
    refine wpAny_BinOp (nL H D8 (.head _) ((if_neg (by decide)).trans ((if_neg (by decide)).trans (if_pos rfl))) (wpAny_Constant_int (sub_int ?_)))
    have e3 : ((i + 1 : Nat) : Int) - 1 = ((i : Nat) : Int) := by omega
    rw [e3]
    refine pow_int (by omega) ?_ (neg_int ?_)
    · have : (Builtin.Int.intBits (-2) : Int) = 2 := by decide
      rw [this]; omega
    rw [Int.toNat_natCast]
    refine nL H D8 (.head _) (if_pos rfl) (mul_int ?_ (mulOk hsm.1))
    refine nL H D8 (.head _) ((if_neg (by decide)).trans (if_pos rfl)) (mul_int ?_ (mulOk hsm.2))
    refine app_l (i := 2) D8 rfl (by omega) fun h9 D9 => ?_
    refine wpAny_execs_nil ⟨rfl, h9, _, _, _, rfl, ⟨?_, ?_, ?_, ?_, _, ?_, rfl⟩, D9⟩
    · exact fun z h1 h2 h3 h4 => (if_neg h2).trans ((if_neg h1).trans ((if_neg h4).trans (m1 z h1 h2 h3 h4)))
    · exact ⟨_, (if_neg (by decide)).trans (if_pos rfl)⟩
    · exact ⟨_, if_pos rfl⟩
    · exact (if_neg (by decide)).trans ((if_neg (by decide)).trans ((if_neg (by decide)).trans m4))
    · rw [show dueL T (i + 1) = dueL T i ++ [-((-2) ^ i) * (prodN T (i + 1) : Int) * (wholeN T (i + 1) : Int)] from rfl]
      exact ints_snoc hdv
  · rintro m' _ hf tk ⟨m1, ⟨t2, m2⟩, ⟨t3, m3⟩, m4, dv, hdv, rfl⟩ D6
    dsimp only
    exact K _ _ m' da dv t2 m1 m2 m4 hdv (D6.sub (.cons_cons _ (.cons _ (List.Sublist.refl _))))
end
end Mine
end
-- LaF
section
open PySem PySem.W PyProof.Rows PySem.Calls
set_option Elab.async false
set_option maxRecDepth 100000
set_option linter.unusedVariables false
namespace Mine
theorem slot_cnt' : Slot "list" (Str.ofString "count") "list.count" := PySem.F.slot_list_count
def tiedL (qs : List Int) (n : Nat) : List Int := (List.range n).map fun b : Nat => (qs.count (b : Int) : Int) + (if 0 < b then 1 else 0)
section
variable {w : World} {mg mb : Str → Option Value} {h₀ : Heap} {A : Around} {E : Value → Shared → Prop} {s : Shared} {Q : Value → Shared → Prop} {QF : Flow → Shared → Prop} {l r : List (Addr × Itm)} {env : Env} {L : Addr} {m : Str → Option Value}
/-- tied = [parents.count(b) + (1 if b > 0 else 0) for b in range(5)] -/
theorem la_tied {pa : Addr} {ps : List Value} {qs : List Int} {v₀ : Option Value} (G : Gr w mg mb h₀) (H : EF env laScope (laCells L) L) (hps : IntsAre ps qs)
    (D : Led h₀ s.heap ((L + 4, cellI v₀) :: l)) (hpc : (L + 2, cellI (some (.ref pa))) ∈ l) (hpl : (pa, lstI ps) ∈ l) (hh : A.handled = none)
    (K : ∀ h' tk' a ts, IntsAre ts (tiedL qs 5) → Led h₀ h' ((L + 4, cellI (some (.ref a))) :: (a, lstI ts) :: l) → QF .next { s with heap := h', toks := tk' }) :
    wpAny (model prog w) A (exec (laBody.getD 15 noStmt) env) QF E s := by
  refine wpAny_Assign_Name ?_ (by simp only [swapsWith, Env.blockKind]; rw [H.k0, H.k (x := Str.ofString "tied") (k := .cell) rfl]; rfl)
  refine comp_eval (h₀ := h₀) [(Str.ofString "parents", L + 2)] none (H.clos rfl) (fun _ _ => rfl) (fun _ => rfl) rfl (by decide) ?_
  refine wpAny_Call_NameR (nB H G D (by kernel_rfl) (v := .type "range") (by kernel_rfl) ?_)
  refine callT1 (wpAny_Constant_int ?_)
  refine rng1 (b := 5) D (by decide) fun h1 tk1 it D1 => ?_
  refine ⟨_, _, _, _, CompAt.src0 (src_range hh) (fun k zs r => IntsAre zs (tiedL qs k) ∧ r = (L + 4, cellI v₀) :: l) rfl rfl D1 ⟨.nil, rfl⟩ (fun _ _ _ _ _ _ _ _ => trivial) (by decide) ?_, ?_⟩
  · rintro C2 Dd k zs _ h2 tk2 m2 v E' hk ⟨tv, rfl⟩ ⟨hz, rfl⟩ hzl D2 HC2
    replace HC2 := HC2 _ _ _ H
    have e0 : (0 : Int) + (k : Int) * 1 = ((k : Nat) : Int) := by omega
    rw [e0] at D2
    refine wpAny_BinOp (MethodCall_ (nC HC2 D2 (c := L + 2) (v := .ref pa) (.tail _ (.tail _ (.tail _ (.tail _ hpc)))) ?_))
    have hpl2 : (pa, lstI ps) ∈ (C2, nsI fun y => if y = Str.ofString "b" then some (Value.int (k : Nat) tv) else m2 y) :: (Dd, lstI zs) :: (it, ritI (0 + ((k + 1 : Nat) : Int) * 1) (((5 : Nat) : Int) - ((k + 1 : Nat) : Int)) 1) :: (L + 4, cellI v₀) :: l := .tail _ (.tail _ (.tail _ (.tail _ hpl)))
    with_reducible refine gm_list rfl D2 (its := ps) hpl2 slot_cnt' PySem.F.type_list_count ?_
    refine callB1 (nL HC2 D2 (.head _) (if_pos rfl) ?_)
    obtain ⟨n, hl⟩ := (D2.getM hpl2).lst
    refine count_list_ints hl.isList hps ?_
    refine wpAny_IfExp ?_
    refine wpAny_isTrue_Compare1 (nL HC2 D2 (.head _) (if_pos rfl) (wpAny_Constant_int (gt_int (wpAny_truthy_bool ?_))))
    have K2 : ∀ (x : Int) (tk : Nat) (t : Tok), x = (if 0 < k then 1 else 0) → ∃ h' tk' m' r', ({ s with heap := h2, toks := tk } : Shared) = { s with heap := h', toks := tk' } ∧ (IntsAre (zs ++ [.int ((qs.count (k : Int) : Nat) + x) t]) (tiedL qs (k + 1)) ∧ r' = (L + 4, cellI v₀) :: l) ∧ Led h₀ h' ((C2, nsI m') :: (Dd, lstI zs) :: (it, ritI (0 + ((k + 1 : Nat) : Int) * 1) (5 - ((k + 1 : Nat) : Int)) 1) :: r') := by
      intro x tk t hx
      subst hx
      refine ⟨_, _, _, _, rfl, ⟨?_, rfl⟩, D2⟩
      unfold tiedL
      rw [List.range_succ, List.map_append]
      exact ints_snoc hz
    by_cases hk0 : 0 < k
    · have e1 : decide ((0 : Int) < ((k : Nat) : Int)) = true := decide_eq_true (by omega)
      rw [if_pos e1]
      refine wpAny_Constant_int (add_int ?_)
      exact K2 1 _ _ (by rw [if_pos hk0])
    · have e1 : ¬ (decide ((0 : Int) < ((k : Nat) : Int)) = true) := fun q => hk0 (by have := of_decide_eq_true q; omega)
      rw [if_neg e1]
      refine wpAny_Constant_int (add_int ?_)
      exact K2 0 _ _ (by rw [if_neg hk0])
  · rintro Y h2 tk2 zs _ D2 ⟨_, rfl, hzl, hz, rfl⟩
    refine sC H (i := 2) D2 rfl fun h3 D3 => ?_
    refine K _ _ Y zs hz ?_
    have D4 : Led h₀ h3 ((Y, lstI zs) :: (it, anyI) :: (L + 4, cellI (some (.ref Y))) :: l) := D3
    exact (D4.sub (.cons_cons _ (.cons _ (List.Sublist.refl _)))).perm (.swap _ _ _)
end
end Mine
end
-- LaG
section
open PySem PySem.W PyProof.Rows PySem.Calls
set_option Elab.async false
set_option maxRecDepth 100000
set_option linter.unusedVariables false
namespace Mine
def sumN (ws ts : List Int) (n : Nat) : List Int := (List.range n).map fun b : Nat => ws.getD b 0 * (2 - ts.getD b 0)
def sumsL (T : Tree) (ts : List Int) (n : Nat) : List Int := (List.range n).map fun j : Nat => (sumN (waysOf T j) ts 5).sum
theorem ways_at {T : Tree} (hT : T.Ok) {i b : Nat} (hi : i < 5) (hb : b < 5) : ((waysOf T i).getD b 0).natAbs < 2 ^ 60 := by
  have h := hT.wb i b hi hb
  have e : (waysOf T i).getD b 0 = (T.wy i b : Int) := by
    unfold waysOf
    simp [List.getD_eq_getElem?_getD, hb]
  rw [e]; omega
section
variable {w : World} {mg mb : Str → Option Value} {h₀ : Heap} {A : Around} {E : Value → Shared → Prop} {s : Shared} {Q : Value → Shared → Prop} {QF : Flow → Shared → Prop} {l r : List (Addr × Itm)} {env : Env} {L : Addr} {m : Str → Option Value}
/-- sum([row[b] * (2 - tied[b]) for b in range(5)]) -/
theorem la_rowsum {C a da : Addr} {vs ts : List Value} {T : Tree} {ds : List Int} {i : Nat} (G : Gr w mg mb h₀) (HC : EF env (relabelS (cmpScope (laBody.getD 16 noStmt)) laScope) [(Str.ofString "row", C + 1), (Str.ofString "tied", L + 4)] C)
    (hT : T.Ok) (hi : i < 5) (hvs : IntsAre vs (waysOf T i)) (hts : IntsAre ts ds) (hd5 : ds.length = 5) (D : Led h₀ s.heap l) (hac : (C + 1, cellI (some (.ref a))) ∈ l) (hal : (a, lstI vs) ∈ l) (hdc : (L + 4, cellI (some (.ref da))) ∈ l) (hdl : (da, lstI ts) ∈ l) (hh : A.handled = none)
    (K : ∀ h' tk' t, Led h₀ h' l → Q (.int (sumN (waysOf T i) ds 5).sum t) { s with heap := h', toks := tk' }) :
    wpAny (model prog w) A (eval (cmpElt (laBody.getD 16 noStmt)) env) Q E s := by
  have hwl : (waysOf T i).length = 5 := by simp [waysOf]
  refine wpAny_Call_NameR (nB HC G D (by kernel_rfl) (v := .builtin "sum") (by kernel_rfl) ?_)
  refine callB1 ?_
  refine comp_eval (h₀ := h₀) [(Str.ofString "tied", L + 4), (Str.ofString "row", C + 1)] none (HC.clos rfl) (fun _ _ => rfl) (fun _ => rfl) rfl (by decide) ?_
  refine wpAny_Call_NameR (nB HC G D (by kernel_rfl) (v := .type "range") (by kernel_rfl) ?_)
  refine callT1 (wpAny_Constant_int ?_)
  refine rng1 (b := 5) D (by decide) fun h1 tk1 it D1 => ?_
  refine ⟨_, _, _, _, CompAt.src0 (src_range hh) (fun k zs r => IntsAre zs (sumN (waysOf T i) ds k) ∧ r = l) rfl rfl D1 ⟨.nil, rfl⟩ (fun _ _ _ _ _ _ _ _ => trivial) (by decide) ?_, ?_⟩
  · rintro C2 Dd k zs _ h2 tk2 m2 v E' hk ⟨tv, rfl⟩ ⟨hz, rfl⟩ hzl D2 HC2
    replace HC2 := HC2 _ _ _ HC
    have e0 : (0 : Int) + (k : Int) * 1 = ((k : Nat) : Int) := by omega
    rw [e0] at D2
    obtain ⟨t1, e1⟩ := ints_at hvs (i := k) (by omega)
    obtain ⟨t2, e2⟩ := ints_at hts (i := k) (by omega)
    refine wpAny_BinOp (Subscript_ (nC HC2 D2 (c := C + 1) (v := .ref a) (.tail _ (.tail _ (.tail _ hac))) (nL HC2 D2 (.head _) (if_pos rfl) ?_)))
    refine itemL D2 (.tail _ (.tail _ (.tail _ hal))) rfl (by omega) e1 ?_
    refine wpAny_BinOp (wpAny_Constant_int (Subscript_ (nC HC2 D2 (c := L + 4) (v := .ref da) (.tail _ (.tail _ (.tail _ hdc))) (nL HC2 D2 (.head _) (if_pos rfl) ?_))))
    refine itemL D2 (.tail _ (.tail _ (.tail _ hdl))) rfl (by omega) e2 ?_
    refine sub_int (mul_int ?_ (mulOk (ways_at hT hi hk)))
    refine ⟨_, _, _, _, rfl, ⟨?_, rfl⟩, D2⟩
    unfold sumN
    rw [List.range_succ, List.map_append]
    exact ints_snoc hz
  · rintro Y h2 tk2 zs _ D2 ⟨_, rfl, hzl, hz, rfl⟩
    refine sumL hh D2 (.head _) hz fun h3 tk3 t3 D3 => ?_
    exact K _ _ _ (D3.sub (.cons _ (.cons _ (List.Sublist.refl _))))
/-- sums = [sum([..]) for row in table] -/
theorem la_sums {Z da : Addr} {ts : List Value} {T : Tree} {ds : List Int} {trs : List Row} {R : List (Addr × Itm)} (G : Gr w mg mb h₀) (H : EF env laScope (laCells L) L) (hT : T.Ok) (mt : m (Str.ofString "table") = some (.ref Z)) (htrs : TabOk T 5 trs) (hts : IntsAre ts ds) (hd5 : ds.length = 5)
    (D : Led h₀ s.heap ((L, nsI m) :: (Z, lstI (trs.map fun t => .ref t.1).reverse) :: (trs.map rowE ++ R))) (hdc : (L + 4, cellI (some (.ref da))) ∈ R) (hdl : (da, lstI ts) ∈ R) (hh : A.handled = none)
    (K : ∀ h' tk' Y ys, IntsAre ys (sumsL T ds 5) → Led h₀ h' ((L, nsI fun z => if z = Str.ofString "sums" then some (.ref Y) else m z) :: (Y, lstI ys) :: (Z, lstI (trs.map fun t => .ref t.1).reverse) :: (trs.map rowE ++ R)) → QF .next { s with heap := h', toks := tk' }) :
    wpAny (model prog w) A (exec (laBody.getD 16 noStmt) env) QF E s := by
  have hL := H.lo
  subst hL
  have hrl : ((trs.map fun t : Row => Value.ref t.1).reverse).length = 5 := by rw [List.length_reverse, List.length_map, htrs.1]
  refine comp_assign (h₀ := h₀) [(Str.ofString "tied", env.locals + 4)] (some (Str.ofString "row")) (by simp only [swapsWith, Env.blockKind]; rw [H.k0, H.k (x := Str.ofString "sums") (k := .local) rfl]; rfl) (H.clos rfl) (fun _ _ => rfl) (fun _ => rfl) rfl (by decide) (H.k rfl) H.e4 ?_
  refine nL H D (.head _) mt (lit0 (ax := Z) (its := (trs.map fun t => .ref t.1).reverse) D (.tail _ (.head _)) fun h1 tk1 it D1 => ?_)
  refine ⟨_, _, _, _, CompAt.src1 (src_list (ax := Z) (its := (trs.map fun t => .ref t.1).reverse) hh) (fun i ys r => IntsAre ys (sumsL T ds i) ∧ r = (env.locals, nsI m) :: (Z, lstI (trs.map fun t => .ref t.1).reverse) :: (trs.map rowE ++ R)) rfl (by rw [H.relabel]; rfl) D1 ⟨.nil, rfl⟩
    ?_ (by omega) ?_, ?_⟩
  · rintro i ys _ p q t u _ ⟨_, rfl⟩
    exact ⟨lstI _, .tail _ (.tail _ (.tail _ (.tail _ (.tail _ (.head _))))), fun o ⟨n, e⟩ => by subst e; exact ⟨rfl, n, rfl⟩⟩
  · rintro C Dd i ys _ h2 tk2 m2 v E' hi hv ⟨hys, rfl⟩ hyl D2 HC
    replace HC := HC _ _ _ H
    obtain ⟨t, ht, rfl, htm⟩ := row_at hv
    have hst := htrs.2 i t ht
    have hi5 : i < 5 := by omega
    refine la_rowsum (C := C) (L := env.locals) (a := t.1) (da := da) (vs := t.2) (ts := ts) (ds := ds) (i := i) G HC hT hi5 hst hts hd5 D2 (.tail _ (.tail _ (.head _))) (.tail _ (.tail _ (.tail _ (.tail _ (.tail _ (.tail _ (List.mem_append_left _ (List.mem_map_of_mem (f := rowE) htm)))))))) 
      (.tail _ (.tail _ (.tail _ (.tail _ (.tail _ (.tail _ (List.mem_append_right _ hdc))))))) (.tail _ (.tail _ (.tail _ (.tail _ (.tail _ (.tail _ (List.mem_append_right _ hdl))))))) hh fun h3 tk3 tt D3 => ?_
    refine ⟨h3, tk3, _, _, rfl, ⟨?_, rfl⟩, D3⟩
    unfold sumsL
    rw [List.range_succ, List.map_append]
    exact ints_snoc hys
  · rintro ys _ ⟨_, rfl, hyl, hys, rfl⟩
    rw [hrl] at hys
    refine ⟨m, 1, rfl, fun Y hf tk D3 => K hf tk Y ys hys ?_⟩
    have D4 : Led h₀ hf ((Y, lstI ys) :: (it, anyI) :: (env.locals, nsI fun z => if z = Str.ofString "sums" then some (.ref Y) else m z) :: (Z, lstI (trs.map fun t => .ref t.1).reverse) :: (trs.map rowE ++ R)) := D3
    exact (D4.sub (.cons_cons _ (.cons _ (List.Sublist.refl _)))).perm (.swap _ _ _)
end
end Mine
end
-- LaH
section
open PySem PySem.W PyProof.Rows PySem.Calls
set_option Elab.async false
set_option maxRecDepth 100000
set_option linter.unusedVariables false
namespace Mine
section
variable {w : World} {mg mb : Str → Option Value} {h₀ : Heap} {A : Around} {E : Value → Shared → Prop} {s : Shared} {Q : Value → Shared → Prop} {QF : Flow → Shared → Prop} {l r : List (Addr × Itm)} {env : Env} {L : Addr} {m : Str → Option Value}
/-- [x] * 5 -/
theorem mul5 {a : Addr} {x : Value} {u : Tok} (D : Led h₀ s.heap l) (hm : (a, lstI [x]) ∈ l) (h : ∀ h' b, Led h₀ h' ((b, lstI [x, x, x, x, x]) :: l) → Q (.ref b) { s with heap := h' }) :
    wpAny (model prog w) A (binaryOp .Mult (.ref a) (.int 5 u)) Q E s := by
  obtain ⟨k, hl⟩ := (D.getM hm).lst
  refine wpAny_binaryOp_repeat_ref (T := "list") (U := "int") (by decide) ⟨_, hl, rfl⟩ (fun s' => typeIs_int s' 5 u) noFill_list_mul PySem.F.fills_int_mul PySem.F.slot_int_rmul repeat_list PySem.F.slot_int_index.lookup
    (call_meets PySem.F.slot_int_rmul (typeIs_int s 5 u) PySem.F.entry_int_rmul (PySem.F.args_int_rmul_2 _ _) (int___rmul___int_list 5 u a [x].toArray k)
      ⟨hl, rfl, ⟨_, hl, rfl⟩, call_meets PySem.F.slot_list_mul ⟨_, hl, rfl⟩ PySem.F.entry_list_mul (PySem.F.args_list_mul_2 _ _)
        (AutoListH.list___mul___list_int_3 a [x].toArray k 5 u (by simp [Builtin.List.listFitsIndex]) (by show ¬ 1 * 5 > (2 ^ 63 - 1) / 8; omega) (by simp [Builtin.List.listTooLong, sizeLine]))
        ⟨hl, ?_⟩⟩)
  exact h _ _ (D.push (o := { cls := .type "list", data := .seq [x, x, x, x, x].toArray }) (P := lstI [x, x, x, x, x]) rfl ⟨_, rfl⟩)
/-- return _law_minors(table) == due and sums == [whole] * 5 -/
theorem la_return {Z Y da : Addr} {ys dv : List Value} {tw : Tok} {T : Tree} {ts : List Int} {trs : List Row} {R : List (Addr × Itm)} (G : Gr w mg mb h₀) (H : EF env laScope (laCells L) L) (hT : T.Ok)
    (mt : m (Str.ofString "table") = some (.ref Z)) (ms : m (Str.ofString "sums") = some (.ref Y)) (mw : m (Str.ofString "whole") = some (.int (wholeN T 4) tw)) (md : m (Str.ofString "due") = some (.ref da))
    (htrs : TabOk T 5 trs) (hys : IntsAre ys (sumsL T ts 5)) (hdv : IntsAre dv (dueL T 4)) (hmin : minsOf (fun a b => (T.wy a b : Int)) = dueL T 4) (hsum : sumsL T ts 5 = List.replicate 5 (wholeN T 4 : Int))
    (D : Led h₀ s.heap ((L, nsI m) :: (Y, lstI ys) :: (Z, lstI (trs.map fun t => .ref t.1).reverse) :: (trs.map rowE ++ R))) (hdl : (da, lstI dv) ∈ R) (hA : A.depth < recursionLimit) (hh : A.handled = none) (hu : A.units + 64 < cLine)
    (K : ∀ h' tk' , Led h₀ h' R → QF (.ret (.bool true)) { s with heap := h', toks := tk' }) :
    wpAny (model prog w) A (exec (laBody.getD 17 noStmt) env) QF E s := by
  have hkk : keepIn (Mine.hd.heap_39 w.params) (.ref 128) = true := by kernel_rfl
  refine wpAny_Return_some ?_
  refine BoolOp_and ?_
  refine wpAny_Compare1 ?_
  refine wpAny_Call_NameR (nG H G D (v := .ref 128) (by kernel_rfl) ?_)
  refine callD1 G hkk (nL H D (.head _) mt ⟨⟨_, D⟩, ?_⟩)
  refine mi_ct (T := fun a b => (T.wy a b : Int)) (tl := (trs.map fun t => .ref t.1).reverse) G D (.tail _ (.tail _ (.head _))) (fun a ha => ?_) (fun a b ha hb => ?_) hA hh fun h1 tk1 X xs hxs D1 => ?_
  · have hlen : a < trs.reverse.length := by rw [List.length_reverse, htrs.1]; exact ha
    have e := List.getElem?_eq_getElem hlen
    have hr := htrs.2 a _ e
    refine ⟨trs.reverse[a].1, trs.reverse[a].2, ?_, .tail _ (.tail _ (.tail _ (List.mem_append_left _ (List.mem_map_of_mem (f := rowE) (List.mem_reverse.mp (List.getElem_mem hlen)))))), fun j hj => ?_⟩
    · rw [← List.map_reverse, List.getElem?_map, e]; rfl
    · obtain ⟨t, et⟩ := ints_at hr (i := j) (by simpa [waysOf] using hj)
      refine ⟨t, et.trans ?_⟩
      congr 2
      simp [waysOf, List.getD_eq_getElem?_getD, hj]
  · have := hT.wb a b ha hb
    show ((T.wy a b : Nat) : Int).natAbs < 2 ^ 30
    omega
  refine nL H D1 (.tail _ (.head _)) md ?_
  obtain ⟨n1, hl1⟩ := (D1.get 0 rfl).lst
  have hdl1 : ∀ {z : Addr × Itm}, (da, lstI dv) ∈ z :: (L, nsI m) :: (Y, lstI ys) :: (Z, lstI (trs.map fun t => .ref t.1).reverse) :: (trs.map rowE ++ R) := .tail _ (.tail _ (.tail _ (.tail _ (List.mem_append_right _ hdl))))
  obtain ⟨n2, hl2⟩ := (D1.getM hdl1).lst
  refine eq_intsK hl1.isList hxs hl2.isList hdv hu ?_
  rw [hmin, decide_eq_true rfl]
  refine wpAny_truthy_bool ?_
  rw [if_pos rfl]
  refine BoolOp_one (wpAny_Compare1 ?_)
  refine nL H D1 (.tail _ (.head _)) ms ?_
  refine wpAny_BinOp (mkL1 (nL H D1 (.tail _ (.head _)) mw ⟨_, D1, fun h2 b D2 => ?_⟩))
  refine wpAny_Constant_int (mul5 D2 (.head _) fun h3 c D3 => ?_)
  obtain ⟨n3, hl3⟩ := (D3.get 4 rfl).lst
  obtain ⟨n4, hl4⟩ := (D3.get 0 rfl).lst
  refine eq_intsK hl3.isList hys hl4.isList (ms := List.replicate 5 (wholeN T 4 : Int)) (.cons _ _ (.cons _ _ (.cons _ _ (.cons _ _ (.cons _ _ .nil))))) hu ?_
  rw [hsum, decide_eq_true rfl]
  refine K _ _ ?_
  exact D3.sub (.cons _ (.cons _ (.cons _ (.cons _ (.cons _ (.cons _ (List.sublist_append_right ..)))))))
end
end Mine
end
-- Pl1
section
open PySem PySem.W PyProof.Rows PySem.Calls
set_option Elab.async false
set_option maxRecDepth 100000
set_option linter.unusedVariables false
set_option linter.unusedSimpArgs false
namespace Mine
def q0 (T : Nat → Nat → Int) : Int := 1
def q1 (T : Nat → Nat → Int) : Int := 0 + 1 * T 0 0 * q0 T
def q2 (T : Nat → Nat → Int) : Int := 0 + 1 * T 0 1 * q0 T
def q3 (T : Nat → Nat → Int) : Int := 0 + 1 * T 1 1 * q1 T + -1 * T 1 0 * q2 T
def q4 (T : Nat → Nat → Int) : Int := 0 + 1 * T 0 2 * q0 T
def q5 (T : Nat → Nat → Int) : Int := 0 + 1 * T 1 2 * q1 T + -1 * T 1 0 * q4 T
def q6 (T : Nat → Nat → Int) : Int := 0 + 1 * T 1 2 * q2 T + -1 * T 1 1 * q4 T
def q7 (T : Nat → Nat → Int) : Int := 0 + 1 * T 2 2 * q3 T + -1 * T 2 1 * q5 T + 1 * T 2 0 * q6 T
def q8 (T : Nat → Nat → Int) : Int := 0 + 1 * T 0 3 * q0 T
def q9 (T : Nat → Nat → Int) : Int := 0 + 1 * T 1 3 * q1 T + -1 * T 1 0 * q8 T
def q10 (T : Nat → Nat → Int) : Int := 0 + 1 * T 1 3 * q2 T + -1 * T 1 1 * q8 T
def q11 (T : Nat → Nat → Int) : Int := 0 + 1 * T 2 3 * q3 T + -1 * T 2 1 * q9 T + 1 * T 2 0 * q10 T
def q12 (T : Nat → Nat → Int) : Int := 0 + 1 * T 1 3 * q4 T + -1 * T 1 2 * q8 T
def q13 (T : Nat → Nat → Int) : Int := 0 + 1 * T 2 3 * q5 T + -1 * T 2 2 * q9 T + 1 * T 2 0 * q12 T
def q14 (T : Nat → Nat → Int) : Int := 0 + 1 * T 2 3 * q6 T + -1 * T 2 2 * q10 T + 1 * T 2 1 * q12 T
def q15 (T : Nat → Nat → Int) : Int := 0 + 1 * T 3 3 * q7 T + -1 * T 3 2 * q11 T + 1 * T 3 1 * q13 T + -1 * T 3 0 * q14 T
def q16 (T : Nat → Nat → Int) : Int := 0 + 1 * T 0 4 * q0 T
def q17 (T : Nat → Nat → Int) : Int := 0 + 1 * T 1 4 * q1 T + -1 * T 1 0 * q16 T
def q18 (T : Nat → Nat → Int) : Int := 0 + 1 * T 1 4 * q2 T + -1 * T 1 1 * q16 T
def q19 (T : Nat → Nat → Int) : Int := 0 + 1 * T 2 4 * q3 T + -1 * T 2 1 * q17 T + 1 * T 2 0 * q18 T
def q20 (T : Nat → Nat → Int) : Int := 0 + 1 * T 1 4 * q4 T + -1 * T 1 2 * q16 T
def q21 (T : Nat → Nat → Int) : Int := 0 + 1 * T 2 4 * q5 T + -1 * T 2 2 * q17 T + 1 * T 2 0 * q20 T
def q22 (T : Nat → Nat → Int) : Int := 0 + 1 * T 2 4 * q6 T + -1 * T 2 2 * q18 T + 1 * T 2 1 * q20 T
def q23 (T : Nat → Nat → Int) : Int := 0 + 1 * T 3 4 * q7 T + -1 * T 3 2 * q19 T + 1 * T 3 1 * q21 T + -1 * T 3 0 * q22 T
def q24 (T : Nat → Nat → Int) : Int := 0 + 1 * T 1 4 * q8 T + -1 * T 1 3 * q16 T
def q25 (T : Nat → Nat → Int) : Int := 0 + 1 * T 2 4 * q9 T + -1 * T 2 3 * q17 T + 1 * T 2 0 * q24 T
def q26 (T : Nat → Nat → Int) : Int := 0 + 1 * T 2 4 * q10 T + -1 * T 2 3 * q18 T + 1 * T 2 1 * q24 T
def q27 (T : Nat → Nat → Int) : Int := 0 + 1 * T 3 4 * q11 T + -1 * T 3 3 * q19 T + 1 * T 3 1 * q25 T + -1 * T 3 0 * q26 T
def q28 (T : Nat → Nat → Int) : Int := 0 + 1 * T 2 4 * q12 T + -1 * T 2 3 * q20 T + 1 * T 2 2 * q24 T
def q29 (T : Nat → Nat → Int) : Int := 0 + 1 * T 3 4 * q13 T + -1 * T 3 3 * q21 T + 1 * T 3 2 * q25 T + -1 * T 3 0 * q28 T
def q30 (T : Nat → Nat → Int) : Int := 0 + 1 * T 3 4 * q14 T + -1 * T 3 3 * q22 T + 1 * T 3 2 * q26 T + -1 * T 3 1 * q28 T
def q31 (T : Nat → Nat → Int) : Int := 0 + 1 * T 4 4 * q15 T + -1 * T 4 3 * q23 T + 1 * T 4 2 * q27 T + -1 * T 4 1 * q29 T + 1 * T 4 0 * q30 T
theorem min0 (T : Nat → Nat → Int) : minL T 0 = [q0 T] := rfl
theorem min1 (T : Nat → Nat → Int) : minL T 1 = [q0 T, q1 T] := by
  rw [show minL T 1 = minL T 0 ++ [(colSt T 1 (minL T 0) 5).1] from rfl, min0]
  rfl
theorem min2 (T : Nat → Nat → Int) : minL T 2 = [q0 T, q1 T, q2 T] := by
  rw [show minL T 2 = minL T 1 ++ [(colSt T 2 (minL T 1) 5).1] from rfl, min1]
  rfl
theorem min3 (T : Nat → Nat → Int) : minL T 3 = [q0 T, q1 T, q2 T, q3 T] := by
  rw [show minL T 3 = minL T 2 ++ [(colSt T 3 (minL T 2) 5).1] from rfl, min2]
  rfl
theorem min4 (T : Nat → Nat → Int) : minL T 4 = [q0 T, q1 T, q2 T, q3 T, q4 T] := by
  rw [show minL T 4 = minL T 3 ++ [(colSt T 4 (minL T 3) 5).1] from rfl, min3]
  rfl
theorem min5 (T : Nat → Nat → Int) : minL T 5 = [q0 T, q1 T, q2 T, q3 T, q4 T, q5 T] := by
  rw [show minL T 5 = minL T 4 ++ [(colSt T 5 (minL T 4) 5).1] from rfl, min4]
  rfl
theorem min6 (T : Nat → Nat → Int) : minL T 6 = [q0 T, q1 T, q2 T, q3 T, q4 T, q5 T, q6 T] := by
  rw [show minL T 6 = minL T 5 ++ [(colSt T 6 (minL T 5) 5).1] from rfl, min5]
  rfl
theorem min7 (T : Nat → Nat → Int) : minL T 7 = [q0 T, q1 T, q2 T, q3 T, q4 T, q5 T, q6 T, q7 T] := by
  rw [show minL T 7 = minL T 6 ++ [(colSt T 7 (minL T 6) 5).1] from rfl, min6]
  rfl
theorem min8 (T : Nat → Nat → Int) : minL T 8 = [q0 T, q1 T, q2 T, q3 T, q4 T, q5 T, q6 T, q7 T, q8 T] := by
  rw [show minL T 8 = minL T 7 ++ [(colSt T 8 (minL T 7) 5).1] from rfl, min7]
  rfl
theorem min9 (T : Nat → Nat → Int) : minL T 9 = [q0 T, q1 T, q2 T, q3 T, q4 T, q5 T, q6 T, q7 T, q8 T, q9 T] := by
  rw [show minL T 9 = minL T 8 ++ [(colSt T 9 (minL T 8) 5).1] from rfl, min8]
  rfl
theorem min10 (T : Nat → Nat → Int) : minL T 10 = [q0 T, q1 T, q2 T, q3 T, q4 T, q5 T, q6 T, q7 T, q8 T, q9 T, q10 T] := by
  rw [show minL T 10 = minL T 9 ++ [(colSt T 10 (minL T 9) 5).1] from rfl, min9]
  rfl
theorem min11 (T : Nat → Nat → Int) : minL T 11 = [q0 T, q1 T, q2 T, q3 T, q4 T, q5 T, q6 T, q7 T, q8 T, q9 T, q10 T, q11 T] := by
  rw [show minL T 11 = minL T 10 ++ [(colSt T 11 (minL T 10) 5).1] from rfl, min10]
  rfl
theorem min12 (T : Nat → Nat → Int) : minL T 12 = [q0 T, q1 T, q2 T, q3 T, q4 T, q5 T, q6 T, q7 T, q8 T, q9 T, q10 T, q11 T, q12 T] := by
  rw [show minL T 12 = minL T 11 ++ [(colSt T 12 (minL T 11) 5).1] from rfl, min11]
  rfl
theorem min13 (T : Nat → Nat → Int) : minL T 13 = [q0 T, q1 T, q2 T, q3 T, q4 T, q5 T, q6 T, q7 T, q8 T, q9 T, q10 T, q11 T, q12 T, q13 T] := by
  rw [show minL T 13 = minL T 12 ++ [(colSt T 13 (minL T 12) 5).1] from rfl, min12]
  rfl
theorem min14 (T : Nat → Nat → Int) : minL T 14 = [q0 T, q1 T, q2 T, q3 T, q4 T, q5 T, q6 T, q7 T, q8 T, q9 T, q10 T, q11 T, q12 T, q13 T, q14 T] := by
  rw [show minL T 14 = minL T 13 ++ [(colSt T 14 (minL T 13) 5).1] from rfl, min13]
  rfl
theorem min15 (T : Nat → Nat → Int) : minL T 15 = [q0 T, q1 T, q2 T, q3 T, q4 T, q5 T, q6 T, q7 T, q8 T, q9 T, q10 T, q11 T, q12 T, q13 T, q14 T, q15 T] := by
  rw [show minL T 15 = minL T 14 ++ [(colSt T 15 (minL T 14) 5).1] from rfl, min14]
  rfl
theorem min16 (T : Nat → Nat → Int) : minL T 16 = [q0 T, q1 T, q2 T, q3 T, q4 T, q5 T, q6 T, q7 T, q8 T, q9 T, q10 T, q11 T, q12 T, q13 T, q14 T, q15 T, q16 T] := by
  rw [show minL T 16 = minL T 15 ++ [(colSt T 16 (minL T 15) 5).1] from rfl, min15]
  rfl
theorem min17 (T : Nat → Nat → Int) : minL T 17 = [q0 T, q1 T, q2 T, q3 T, q4 T, q5 T, q6 T, q7 T, q8 T, q9 T, q10 T, q11 T, q12 T, q13 T, q14 T, q15 T, q16 T, q17 T] := by
  rw [show minL T 17 = minL T 16 ++ [(colSt T 17 (minL T 16) 5).1] from rfl, min16]
  rfl
theorem min18 (T : Nat → Nat → Int) : minL T 18 = [q0 T, q1 T, q2 T, q3 T, q4 T, q5 T, q6 T, q7 T, q8 T, q9 T, q10 T, q11 T, q12 T, q13 T, q14 T, q15 T, q16 T, q17 T, q18 T] := by
  rw [show minL T 18 = minL T 17 ++ [(colSt T 18 (minL T 17) 5).1] from rfl, min17]
  rfl
theorem min19 (T : Nat → Nat → Int) : minL T 19 = [q0 T, q1 T, q2 T, q3 T, q4 T, q5 T, q6 T, q7 T, q8 T, q9 T, q10 T, q11 T, q12 T, q13 T, q14 T, q15 T, q16 T, q17 T, q18 T, q19 T] := by
  rw [show minL T 19 = minL T 18 ++ [(colSt T 19 (minL T 18) 5).1] from rfl, min18]
  rfl
theorem min20 (T : Nat → Nat → Int) : minL T 20 = [q0 T, q1 T, q2 T, q3 T, q4 T, q5 T, q6 T, q7 T, q8 T, q9 T, q10 T, q11 T, q12 T, q13 T, q14 T, q15 T, q16 T, q17 T, q18 T, q19 T, q20 T] := by
  rw [show minL T 20 = minL T 19 ++ [(colSt T 20 (minL T 19) 5).1] from rfl, min19]
  rfl
theorem min21 (T : Nat → Nat → Int) : minL T 21 = [q0 T, q1 T, q2 T, q3 T, q4 T, q5 T, q6 T, q7 T, q8 T, q9 T, q10 T, q11 T, q12 T, q13 T, q14 T, q15 T, q16 T, q17 T, q18 T, q19 T, q20 T, q21 T] := by
  rw [show minL T 21 = minL T 20 ++ [(colSt T 21 (minL T 20) 5).1] from rfl, min20]
  rfl
theorem min22 (T : Nat → Nat → Int) : minL T 22 = [q0 T, q1 T, q2 T, q3 T, q4 T, q5 T, q6 T, q7 T, q8 T, q9 T, q10 T, q11 T, q12 T, q13 T, q14 T, q15 T, q16 T, q17 T, q18 T, q19 T, q20 T, q21 T, q22 T] := by
  rw [show minL T 22 = minL T 21 ++ [(colSt T 22 (minL T 21) 5).1] from rfl, min21]
  rfl
theorem min23 (T : Nat → Nat → Int) : minL T 23 = [q0 T, q1 T, q2 T, q3 T, q4 T, q5 T, q6 T, q7 T, q8 T, q9 T, q10 T, q11 T, q12 T, q13 T, q14 T, q15 T, q16 T, q17 T, q18 T, q19 T, q20 T, q21 T, q22 T, q23 T] := by
  rw [show minL T 23 = minL T 22 ++ [(colSt T 23 (minL T 22) 5).1] from rfl, min22]
  rfl
theorem min24 (T : Nat → Nat → Int) : minL T 24 = [q0 T, q1 T, q2 T, q3 T, q4 T, q5 T, q6 T, q7 T, q8 T, q9 T, q10 T, q11 T, q12 T, q13 T, q14 T, q15 T, q16 T, q17 T, q18 T, q19 T, q20 T, q21 T, q22 T, q23 T, q24 T] := by
  rw [show minL T 24 = minL T 23 ++ [(colSt T 24 (minL T 23) 5).1] from rfl, min23]
  rfl
theorem min25 (T : Nat → Nat → Int) : minL T 25 = [q0 T, q1 T, q2 T, q3 T, q4 T, q5 T, q6 T, q7 T, q8 T, q9 T, q10 T, q11 T, q12 T, q13 T, q14 T, q15 T, q16 T, q17 T, q18 T, q19 T, q20 T, q21 T, q22 T, q23 T, q24 T, q25 T] := by
  rw [show minL T 25 = minL T 24 ++ [(colSt T 25 (minL T 24) 5).1] from rfl, min24]
  rfl
theorem min26 (T : Nat → Nat → Int) : minL T 26 = [q0 T, q1 T, q2 T, q3 T, q4 T, q5 T, q6 T, q7 T, q8 T, q9 T, q10 T, q11 T, q12 T, q13 T, q14 T, q15 T, q16 T, q17 T, q18 T, q19 T, q20 T, q21 T, q22 T, q23 T, q24 T, q25 T, q26 T] := by
  rw [show minL T 26 = minL T 25 ++ [(colSt T 26 (minL T 25) 5).1] from rfl, min25]
  rfl
theorem min27 (T : Nat → Nat → Int) : minL T 27 = [q0 T, q1 T, q2 T, q3 T, q4 T, q5 T, q6 T, q7 T, q8 T, q9 T, q10 T, q11 T, q12 T, q13 T, q14 T, q15 T, q16 T, q17 T, q18 T, q19 T, q20 T, q21 T, q22 T, q23 T, q24 T, q25 T, q26 T, q27 T] := by
  rw [show minL T 27 = minL T 26 ++ [(colSt T 27 (minL T 26) 5).1] from rfl, min26]
  rfl
theorem min28 (T : Nat → Nat → Int) : minL T 28 = [q0 T, q1 T, q2 T, q3 T, q4 T, q5 T, q6 T, q7 T, q8 T, q9 T, q10 T, q11 T, q12 T, q13 T, q14 T, q15 T, q16 T, q17 T, q18 T, q19 T, q20 T, q21 T, q22 T, q23 T, q24 T, q25 T, q26 T, q27 T, q28 T] := by
  rw [show minL T 28 = minL T 27 ++ [(colSt T 28 (minL T 27) 5).1] from rfl, min27]
  rfl
theorem min29 (T : Nat → Nat → Int) : minL T 29 = [q0 T, q1 T, q2 T, q3 T, q4 T, q5 T, q6 T, q7 T, q8 T, q9 T, q10 T, q11 T, q12 T, q13 T, q14 T, q15 T, q16 T, q17 T, q18 T, q19 T, q20 T, q21 T, q22 T, q23 T, q24 T, q25 T, q26 T, q27 T, q28 T, q29 T] := by
  rw [show minL T 29 = minL T 28 ++ [(colSt T 29 (minL T 28) 5).1] from rfl, min28]
  rfl
theorem min30 (T : Nat → Nat → Int) : minL T 30 = [q0 T, q1 T, q2 T, q3 T, q4 T, q5 T, q6 T, q7 T, q8 T, q9 T, q10 T, q11 T, q12 T, q13 T, q14 T, q15 T, q16 T, q17 T, q18 T, q19 T, q20 T, q21 T, q22 T, q23 T, q24 T, q25 T, q26 T, q27 T, q28 T, q29 T, q30 T] := by
  rw [show minL T 30 = minL T 29 ++ [(colSt T 30 (minL T 29) 5).1] from rfl, min29]
  rfl
theorem min31 (T : Nat → Nat → Int) : minL T 31 = [q0 T, q1 T, q2 T, q3 T, q4 T, q5 T, q6 T, q7 T, q8 T, q9 T, q10 T, q11 T, q12 T, q13 T, q14 T, q15 T, q16 T, q17 T, q18 T, q19 T, q20 T, q21 T, q22 T, q23 T, q24 T, q25 T, q26 T, q27 T, q28 T, q29 T, q30 T, q31 T] := by
  rw [show minL T 31 = minL T 30 ++ [(colSt T 31 (minL T 30) 5).1] from rfl, min30]
  rfl
theorem minsOf_eq (T : Nat → Nat → Int) : minsOf T = [q1 T, q3 T, q7 T, q15 T, q31 T] := by
  unfold minsOf
  rw [min31]
  rfl
def u0 (t : Nat → Nat → Nat) : Nat := 1
def v0 (t : Nat → Nat → Nat) : Nat := 0
def u1 (t : Nat → Nat → Nat) : Nat := t 0 0 * u0 t
def v1 (t : Nat → Nat → Nat) : Nat := t 0 0 * v0 t
def u2 (t : Nat → Nat → Nat) : Nat := t 0 1 * u0 t
def v2 (t : Nat → Nat → Nat) : Nat := t 0 1 * v0 t
def u3 (t : Nat → Nat → Nat) : Nat := t 1 1 * u1 t + t 1 0 * v2 t
def v3 (t : Nat → Nat → Nat) : Nat := t 1 1 * v1 t + t 1 0 * u2 t
def u4 (t : Nat → Nat → Nat) : Nat := t 0 2 * u0 t
def v4 (t : Nat → Nat → Nat) : Nat := t 0 2 * v0 t
def u5 (t : Nat → Nat → Nat) : Nat := t 1 2 * u1 t + t 1 0 * v4 t
def v5 (t : Nat → Nat → Nat) : Nat := t 1 2 * v1 t + t 1 0 * u4 t
def u6 (t : Nat → Nat → Nat) : Nat := t 1 2 * u2 t + t 1 1 * v4 t
def v6 (t : Nat → Nat → Nat) : Nat := t 1 2 * v2 t + t 1 1 * u4 t
def u7 (t : Nat → Nat → Nat) : Nat := t 2 2 * u3 t + t 2 1 * v5 t + t 2 0 * u6 t
def v7 (t : Nat → Nat → Nat) : Nat := t 2 2 * v3 t + t 2 1 * u5 t + t 2 0 * v6 t
def u8 (t : Nat → Nat → Nat) : Nat := t 0 3 * u0 t
def v8 (t : Nat → Nat → Nat) : Nat := t 0 3 * v0 t
def u9 (t : Nat → Nat → Nat) : Nat := t 1 3 * u1 t + t 1 0 * v8 t
def v9 (t : Nat → Nat → Nat) : Nat := t 1 3 * v1 t + t 1 0 * u8 t
def u10 (t : Nat → Nat → Nat) : Nat := t 1 3 * u2 t + t 1 1 * v8 t
def v10 (t : Nat → Nat → Nat) : Nat := t 1 3 * v2 t + t 1 1 * u8 t
def u11 (t : Nat → Nat → Nat) : Nat := t 2 3 * u3 t + t 2 1 * v9 t + t 2 0 * u10 t
def v11 (t : Nat → Nat → Nat) : Nat := t 2 3 * v3 t + t 2 1 * u9 t + t 2 0 * v10 t
def u12 (t : Nat → Nat → Nat) : Nat := t 1 3 * u4 t + t 1 2 * v8 t
def v12 (t : Nat → Nat → Nat) : Nat := t 1 3 * v4 t + t 1 2 * u8 t
def u13 (t : Nat → Nat → Nat) : Nat := t 2 3 * u5 t + t 2 2 * v9 t + t 2 0 * u12 t
def v13 (t : Nat → Nat → Nat) : Nat := t 2 3 * v5 t + t 2 2 * u9 t + t 2 0 * v12 t
def u14 (t : Nat → Nat → Nat) : Nat := t 2 3 * u6 t + t 2 2 * v10 t + t 2 1 * u12 t
def v14 (t : Nat → Nat → Nat) : Nat := t 2 3 * v6 t + t 2 2 * u10 t + t 2 1 * v12 t
def u15 (t : Nat → Nat → Nat) : Nat := t 3 3 * u7 t + t 3 2 * v11 t + t 3 1 * u13 t + t 3 0 * v14 t
def v15 (t : Nat → Nat → Nat) : Nat := t 3 3 * v7 t + t 3 2 * u11 t + t 3 1 * v13 t + t 3 0 * u14 t
def u16 (t : Nat → Nat → Nat) : Nat := t 0 4 * u0 t
def v16 (t : Nat → Nat → Nat) : Nat := t 0 4 * v0 t
def u17 (t : Nat → Nat → Nat) : Nat := t 1 4 * u1 t + t 1 0 * v16 t
def v17 (t : Nat → Nat → Nat) : Nat := t 1 4 * v1 t + t 1 0 * u16 t
def u18 (t : Nat → Nat → Nat) : Nat := t 1 4 * u2 t + t 1 1 * v16 t
def v18 (t : Nat → Nat → Nat) : Nat := t 1 4 * v2 t + t 1 1 * u16 t
def u19 (t : Nat → Nat → Nat) : Nat := t 2 4 * u3 t + t 2 1 * v17 t + t 2 0 * u18 t
def v19 (t : Nat → Nat → Nat) : Nat := t 2 4 * v3 t + t 2 1 * u17 t + t 2 0 * v18 t
def u20 (t : Nat → Nat → Nat) : Nat := t 1 4 * u4 t + t 1 2 * v16 t
def v20 (t : Nat → Nat → Nat) : Nat := t 1 4 * v4 t + t 1 2 * u16 t
def u21 (t : Nat → Nat → Nat) : Nat := t 2 4 * u5 t + t 2 2 * v17 t + t 2 0 * u20 t
def v21 (t : Nat → Nat → Nat) : Nat := t 2 4 * v5 t + t 2 2 * u17 t + t 2 0 * v20 t
def u22 (t : Nat → Nat → Nat) : Nat := t 2 4 * u6 t + t 2 2 * v18 t + t 2 1 * u20 t
def v22 (t : Nat → Nat → Nat) : Nat := t 2 4 * v6 t + t 2 2 * u18 t + t 2 1 * v20 t
def u23 (t : Nat → Nat → Nat) : Nat := t 3 4 * u7 t + t 3 2 * v19 t + t 3 1 * u21 t + t 3 0 * v22 t
def v23 (t : Nat → Nat → Nat) : Nat := t 3 4 * v7 t + t 3 2 * u19 t + t 3 1 * v21 t + t 3 0 * u22 t
def u24 (t : Nat → Nat → Nat) : Nat := t 1 4 * u8 t + t 1 3 * v16 t
def v24 (t : Nat → Nat → Nat) : Nat := t 1 4 * v8 t + t 1 3 * u16 t
def u25 (t : Nat → Nat → Nat) : Nat := t 2 4 * u9 t + t 2 3 * v17 t + t 2 0 * u24 t
def v25 (t : Nat → Nat → Nat) : Nat := t 2 4 * v9 t + t 2 3 * u17 t + t 2 0 * v24 t
def u26 (t : Nat → Nat → Nat) : Nat := t 2 4 * u10 t + t 2 3 * v18 t + t 2 1 * u24 t
def v26 (t : Nat → Nat → Nat) : Nat := t 2 4 * v10 t + t 2 3 * u18 t + t 2 1 * v24 t
def u27 (t : Nat → Nat → Nat) : Nat := t 3 4 * u11 t + t 3 3 * v19 t + t 3 1 * u25 t + t 3 0 * v26 t
def v27 (t : Nat → Nat → Nat) : Nat := t 3 4 * v11 t + t 3 3 * u19 t + t 3 1 * v25 t + t 3 0 * u26 t
def u28 (t : Nat → Nat → Nat) : Nat := t 2 4 * u12 t + t 2 3 * v20 t + t 2 2 * u24 t
def v28 (t : Nat → Nat → Nat) : Nat := t 2 4 * v12 t + t 2 3 * u20 t + t 2 2 * v24 t
def u29 (t : Nat → Nat → Nat) : Nat := t 3 4 * u13 t + t 3 3 * v21 t + t 3 2 * u25 t + t 3 0 * v28 t
def v29 (t : Nat → Nat → Nat) : Nat := t 3 4 * v13 t + t 3 3 * u21 t + t 3 2 * v25 t + t 3 0 * u28 t
def u30 (t : Nat → Nat → Nat) : Nat := t 3 4 * u14 t + t 3 3 * v22 t + t 3 2 * u26 t + t 3 1 * v28 t
def v30 (t : Nat → Nat → Nat) : Nat := t 3 4 * v14 t + t 3 3 * u22 t + t 3 2 * v26 t + t 3 1 * u28 t
def u31 (t : Nat → Nat → Nat) : Nat := t 4 4 * u15 t + t 4 3 * v23 t + t 4 2 * u27 t + t 4 1 * v29 t + t 4 0 * u30 t
def v31 (t : Nat → Nat → Nat) : Nat := t 4 4 * v15 t + t 4 3 * u23 t + t 4 2 * v27 t + t 4 1 * u29 t + t 4 0 * v30 t
theorem uv0 (t : Nat → Nat → Nat) : q0 (fun a b => (t a b : Int)) = (u0 t : Int) - (v0 t : Int) := rfl
theorem uv1 (t : Nat → Nat → Nat) : q1 (fun a b => (t a b : Int)) = (u1 t : Int) - (v1 t : Int) := by
  simp only [q1, u1, v1, uv0, Int.one_mul, Int.neg_mul, Int.mul_sub, Int.natCast_add, Int.natCast_mul, Int.zero_add]
  all_goals omega
theorem uv2 (t : Nat → Nat → Nat) : q2 (fun a b => (t a b : Int)) = (u2 t : Int) - (v2 t : Int) := by
  simp only [q2, u2, v2, uv0, Int.one_mul, Int.neg_mul, Int.mul_sub, Int.natCast_add, Int.natCast_mul, Int.zero_add]
  all_goals omega
theorem uv3 (t : Nat → Nat → Nat) : q3 (fun a b => (t a b : Int)) = (u3 t : Int) - (v3 t : Int) := by
  simp only [q3, u3, v3, uv1, uv2, Int.one_mul, Int.neg_mul, Int.mul_sub, Int.natCast_add, Int.natCast_mul, Int.zero_add]
  all_goals omega
theorem uv4 (t : Nat → Nat → Nat) : q4 (fun a b => (t a b : Int)) = (u4 t : Int) - (v4 t : Int) := by
  simp only [q4, u4, v4, uv0, Int.one_mul, Int.neg_mul, Int.mul_sub, Int.natCast_add, Int.natCast_mul, Int.zero_add]
  all_goals omega
theorem uv5 (t : Nat → Nat → Nat) : q5 (fun a b => (t a b : Int)) = (u5 t : Int) - (v5 t : Int) := by
  simp only [q5, u5, v5, uv1, uv4, Int.one_mul, Int.neg_mul, Int.mul_sub, Int.natCast_add, Int.natCast_mul, Int.zero_add]
  all_goals omega
theorem uv6 (t : Nat → Nat → Nat) : q6 (fun a b => (t a b : Int)) = (u6 t : Int) - (v6 t : Int) := by
  simp only [q6, u6, v6, uv2, uv4, Int.one_mul, Int.neg_mul, Int.mul_sub, Int.natCast_add, Int.natCast_mul, Int.zero_add]
  all_goals omega
theorem uv7 (t : Nat → Nat → Nat) : q7 (fun a b => (t a b : Int)) = (u7 t : Int) - (v7 t : Int) := by
  simp only [q7, u7, v7, uv3, uv5, uv6, Int.one_mul, Int.neg_mul, Int.mul_sub, Int.natCast_add, Int.natCast_mul, Int.zero_add]
  all_goals omega
theorem uv8 (t : Nat → Nat → Nat) : q8 (fun a b => (t a b : Int)) = (u8 t : Int) - (v8 t : Int) := by
  simp only [q8, u8, v8, uv0, Int.one_mul, Int.neg_mul, Int.mul_sub, Int.natCast_add, Int.natCast_mul, Int.zero_add]
  all_goals omega
theorem uv9 (t : Nat → Nat → Nat) : q9 (fun a b => (t a b : Int)) = (u9 t : Int) - (v9 t : Int) := by
  simp only [q9, u9, v9, uv1, uv8, Int.one_mul, Int.neg_mul, Int.mul_sub, Int.natCast_add, Int.natCast_mul, Int.zero_add]
  all_goals omega
theorem uv10 (t : Nat → Nat → Nat) : q10 (fun a b => (t a b : Int)) = (u10 t : Int) - (v10 t : Int) := by
  simp only [q10, u10, v10, uv2, uv8, Int.one_mul, Int.neg_mul, Int.mul_sub, Int.natCast_add, Int.natCast_mul, Int.zero_add]
  all_goals omega
theorem uv11 (t : Nat → Nat → Nat) : q11 (fun a b => (t a b : Int)) = (u11 t : Int) - (v11 t : Int) := by
  simp only [q11, u11, v11, uv3, uv9, uv10, Int.one_mul, Int.neg_mul, Int.mul_sub, Int.natCast_add, Int.natCast_mul, Int.zero_add]
  all_goals omega
theorem uv12 (t : Nat → Nat → Nat) : q12 (fun a b => (t a b : Int)) = (u12 t : Int) - (v12 t : Int) := by
  simp only [q12, u12, v12, uv4, uv8, Int.one_mul, Int.neg_mul, Int.mul_sub, Int.natCast_add, Int.natCast_mul, Int.zero_add]
  all_goals omega
theorem uv13 (t : Nat → Nat → Nat) : q13 (fun a b => (t a b : Int)) = (u13 t : Int) - (v13 t : Int) := by
  simp only [q13, u13, v13, uv5, uv9, uv12, Int.one_mul, Int.neg_mul, Int.mul_sub, Int.natCast_add, Int.natCast_mul, Int.zero_add]
  all_goals omega
theorem uv14 (t : Nat → Nat → Nat) : q14 (fun a b => (t a b : Int)) = (u14 t : Int) - (v14 t : Int) := by
  simp only [q14, u14, v14, uv6, uv10, uv12, Int.one_mul, Int.neg_mul, Int.mul_sub, Int.natCast_add, Int.natCast_mul, Int.zero_add]
  all_goals omega
theorem uv15 (t : Nat → Nat → Nat) : q15 (fun a b => (t a b : Int)) = (u15 t : Int) - (v15 t : Int) := by
  simp only [q15, u15, v15, uv7, uv11, uv13, uv14, Int.one_mul, Int.neg_mul, Int.mul_sub, Int.natCast_add, Int.natCast_mul, Int.zero_add]
  all_goals omega
theorem uv16 (t : Nat → Nat → Nat) : q16 (fun a b => (t a b : Int)) = (u16 t : Int) - (v16 t : Int) := by
  simp only [q16, u16, v16, uv0, Int.one_mul, Int.neg_mul, Int.mul_sub, Int.natCast_add, Int.natCast_mul, Int.zero_add]
  all_goals omega
theorem uv17 (t : Nat → Nat → Nat) : q17 (fun a b => (t a b : Int)) = (u17 t : Int) - (v17 t : Int) := by
  simp only [q17, u17, v17, uv1, uv16, Int.one_mul, Int.neg_mul, Int.mul_sub, Int.natCast_add, Int.natCast_mul, Int.zero_add]
  all_goals omega
theorem uv18 (t : Nat → Nat → Nat) : q18 (fun a b => (t a b : Int)) = (u18 t : Int) - (v18 t : Int) := by
  simp only [q18, u18, v18, uv2, uv16, Int.one_mul, Int.neg_mul, Int.mul_sub, Int.natCast_add, Int.natCast_mul, Int.zero_add]
  all_goals omega
theorem uv19 (t : Nat → Nat → Nat) : q19 (fun a b => (t a b : Int)) = (u19 t : Int) - (v19 t : Int) := by
  simp only [q19, u19, v19, uv3, uv17, uv18, Int.one_mul, Int.neg_mul, Int.mul_sub, Int.natCast_add, Int.natCast_mul, Int.zero_add]
  all_goals omega
theorem uv20 (t : Nat → Nat → Nat) : q20 (fun a b => (t a b : Int)) = (u20 t : Int) - (v20 t : Int) := by
  simp only [q20, u20, v20, uv4, uv16, Int.one_mul, Int.neg_mul, Int.mul_sub, Int.natCast_add, Int.natCast_mul, Int.zero_add]
  all_goals omega
theorem uv21 (t : Nat → Nat → Nat) : q21 (fun a b => (t a b : Int)) = (u21 t : Int) - (v21 t : Int) := by
  simp only [q21, u21, v21, uv5, uv17, uv20, Int.one_mul, Int.neg_mul, Int.mul_sub, Int.natCast_add, Int.natCast_mul, Int.zero_add]
  all_goals omega
theorem uv22 (t : Nat → Nat → Nat) : q22 (fun a b => (t a b : Int)) = (u22 t : Int) - (v22 t : Int) := by
  simp only [q22, u22, v22, uv6, uv18, uv20, Int.one_mul, Int.neg_mul, Int.mul_sub, Int.natCast_add, Int.natCast_mul, Int.zero_add]
  all_goals omega
theorem uv23 (t : Nat → Nat → Nat) : q23 (fun a b => (t a b : Int)) = (u23 t : Int) - (v23 t : Int) := by
  simp only [q23, u23, v23, uv7, uv19, uv21, uv22, Int.one_mul, Int.neg_mul, Int.mul_sub, Int.natCast_add, Int.natCast_mul, Int.zero_add]
  all_goals omega
theorem uv24 (t : Nat → Nat → Nat) : q24 (fun a b => (t a b : Int)) = (u24 t : Int) - (v24 t : Int) := by
  simp only [q24, u24, v24, uv8, uv16, Int.one_mul, Int.neg_mul, Int.mul_sub, Int.natCast_add, Int.natCast_mul, Int.zero_add]
  all_goals omega
theorem uv25 (t : Nat → Nat → Nat) : q25 (fun a b => (t a b : Int)) = (u25 t : Int) - (v25 t : Int) := by
  simp only [q25, u25, v25, uv9, uv17, uv24, Int.one_mul, Int.neg_mul, Int.mul_sub, Int.natCast_add, Int.natCast_mul, Int.zero_add]
  all_goals omega
theorem uv26 (t : Nat → Nat → Nat) : q26 (fun a b => (t a b : Int)) = (u26 t : Int) - (v26 t : Int) := by
  simp only [q26, u26, v26, uv10, uv18, uv24, Int.one_mul, Int.neg_mul, Int.mul_sub, Int.natCast_add, Int.natCast_mul, Int.zero_add]
  all_goals omega
theorem uv27 (t : Nat → Nat → Nat) : q27 (fun a b => (t a b : Int)) = (u27 t : Int) - (v27 t : Int) := by
  simp only [q27, u27, v27, uv11, uv19, uv25, uv26, Int.one_mul, Int.neg_mul, Int.mul_sub, Int.natCast_add, Int.natCast_mul, Int.zero_add]
  all_goals omega
theorem uv28 (t : Nat → Nat → Nat) : q28 (fun a b => (t a b : Int)) = (u28 t : Int) - (v28 t : Int) := by
  simp only [q28, u28, v28, uv12, uv20, uv24, Int.one_mul, Int.neg_mul, Int.mul_sub, Int.natCast_add, Int.natCast_mul, Int.zero_add]
  all_goals omega
theorem uv29 (t : Nat → Nat → Nat) : q29 (fun a b => (t a b : Int)) = (u29 t : Int) - (v29 t : Int) := by
  simp only [q29, u29, v29, uv13, uv21, uv25, uv28, Int.one_mul, Int.neg_mul, Int.mul_sub, Int.natCast_add, Int.natCast_mul, Int.zero_add]
  all_goals omega
theorem uv30 (t : Nat → Nat → Nat) : q30 (fun a b => (t a b : Int)) = (u30 t : Int) - (v30 t : Int) := by
  simp only [q30, u30, v30, uv14, uv22, uv26, uv28, Int.one_mul, Int.neg_mul, Int.mul_sub, Int.natCast_add, Int.natCast_mul, Int.zero_add]
  all_goals omega
theorem uv31 (t : Nat → Nat → Nat) : q31 (fun a b => (t a b : Int)) = (u31 t : Int) - (v31 t : Int) := by
  simp only [q31, u31, v31, uv15, uv23, uv27, uv29, uv30, Int.one_mul, Int.neg_mul, Int.mul_sub, Int.natCast_add, Int.natCast_mul, Int.zero_add]
  all_goals omega
end Mine
end
-- Pw1
section
open PySem PySem.W PyProof.Rows PySem.Calls
set_option Elab.async false
set_option maxRecDepth 100000
set_option linter.unusedVariables false
namespace Mine
theorem way_sym (P H : Nat → Nat) : ∀ n a b, wayF P H n a b = wayF P H n b a
  | 0, _, _ => rfl
  | n + 1, a, b => by
    simp only [wayF]
    by_cases e : a = b
    · rw [if_pos e, if_pos e.symm]
    · rw [if_neg e, if_neg (Ne.symm e)]
      by_cases q : b < a
      · rw [if_pos q, if_neg (by omega), way_sym P H n]
      · rw [if_neg q, if_pos (by omega), way_sym P H n]
theorem way_fuel {P H : Nat → Nat} (hP : ∀ k, 1 ≤ k → k < 5 → P k < k) : ∀ n a b, a < 5 → b < 5 → a + b ≤ n → wayF P H (n + 1) a b = wayF P H n a b
  | 0, a, b, _, _, h => by
    have e1 : a = 0 := by omega
    have e2 : b = 0 := by omega
    subst e1 e2
    rfl
  | n + 1, a, b, ha, hb, h => by
    have w1 : ∀ m, wayF P H (m + 1) a b = if a = b then 0 else if b < a then H a + wayF P H m (P a) b else H b + wayF P H m a (P b) := fun _ => rfl
    rw [w1 (n + 1), w1 n]
    by_cases e : a = b
    · rw [if_pos e, if_pos e]
    · rw [if_neg e, if_neg e]
      by_cases q : b < a
      · have hp := hP a (by omega) ha
        rw [if_pos q, if_pos q, way_fuel hP n (P a) b (by omega) hb (by omega)]
      · have hp := hP b (by omega) hb
        rw [if_neg q, if_neg q, way_fuel hP n a (P b) ha (by omega) (by omega)]
theorem way_bound {P H : Nat → Nat} (hP : ∀ k, 1 ≤ k → k < 5 → P k < k) (hH : ∀ k, 1 ≤ k → k < 5 → H k ≤ 3) : ∀ n a b, a < 5 → b < 5 → wayF P H n a b ≤ 3 * n
  | 0, _, _, _, _ => Nat.le_refl _
  | n + 1, a, b, ha, hb => by
    rw [wayF]
    by_cases e : a = b
    · rw [if_pos e]; exact Nat.zero_le _
    · rw [if_neg e]
      by_cases q : b < a
      · have hp := hP a (by omega) ha
        have h1 := way_bound hP hH n (P a) b (by omega) hb
        have h2 := hH a (by omega) ha
        rw [if_pos q]; omega
      · have hp := hP b (by omega) hb
        have h1 := way_bound hP hH n a (P b) ha (by omega)
        have h2 := hH b (by omega) hb
        rw [if_neg q]; omega
theorem tree_ok {hs : List Nat} : (treeOf hs).Ok := by
  have hP : ∀ k, 1 ≤ k → k < 5 → (treeOf hs).P k < k := fun k h1 _ => Nat.mod_lt _ h1
  have hH : ∀ k, 1 ≤ k → k < 5 → (treeOf hs).H k ≤ 3 := fun k h1 _ => by show 1 + _ % 3 ≤ 3; omega
  have w1 : ∀ k j, j < k → k < 5 → (treeOf hs).wy j k = (treeOf hs).wy ((treeOf hs).P k) j + (treeOf hs).H k := by
    intro k j h1 h2
    have hp := hP k (by omega) h2
    have e1 : wayF (treeOf hs).P (treeOf hs).H 8 j k = (treeOf hs).H k + wayF (treeOf hs).P (treeOf hs).H 7 j ((treeOf hs).P k) := by
      rw [wayF, if_neg (by omega), if_neg (by omega)]
    have e2 := way_fuel (H := (treeOf hs).H) hP 7 ((treeOf hs).P k) j (by omega) (by omega) (by omega)
    have e3 := way_sym (treeOf hs).P (treeOf hs).H 7 ((treeOf hs).P k) j
    show wayF (treeOf hs).P (treeOf hs).H 8 j k = wayF (treeOf hs).P (treeOf hs).H 8 ((treeOf hs).P k) j + (treeOf hs).H k
    rw [e1, e2, e3, Nat.add_comm]
  refine ⟨hP, fun k _ _ => Nat.le_add_right _ _, hH, w1, fun k j h1 h2 => ?_, fun k _ => if_pos rfl, fun a b ha hb => Nat.le_trans (way_bound hP hH 8 a b ha hb) (by decide)⟩
  rw [← w1 k j h1 h2]
  exact way_sym (treeOf hs).P (treeOf hs).H 8 k j
end Mine
end
-- Pl2
section
open PySem PySem.W PyProof.Rows PySem.Calls
set_option Elab.async false
set_option maxRecDepth 100000
set_option linter.unusedVariables false
namespace Mine
def pF (p2 p3 p4 : Nat) : Nat → Nat
  | 2 => p2
  | 3 => p3
  | 4 => p4
  | _ => 0
def hF (h1 h2 h3 h4 : Nat) : Nat → Nat
  | 1 => h1
  | 2 => h2
  | 3 => h3
  | 4 => h4
  | _ => 1
def trF (p2 p3 p4 h1 h2 h3 h4 : Nat) : Tree where
  P := pF p2 p3 p4
  H := hF h1 h2 h3 h4
  wy := wayF (pF p2 p3 p4) (hF h1 h2 h3 h4) 8
def chkN (t : Nat → Nat → Nat) (Tr : Tree) : Bool := [(u1 t : Int) - (v1 t : Int), (u3 t : Int) - (v3 t : Int), (u7 t : Int) - (v7 t : Int), (u15 t : Int) - (v15 t : Int), (u31 t : Int) - (v31 t : Int)] == dueL Tr 4
def chkR (t : Nat → Nat → Nat) (e d0 d1 d2 d3 d4 j : Nat) : Bool := Nat.beq (2 * (t j 0 + t j 1 + t j 2 + t j 3 + t j 4)) (e + t j 0 * d0 + t j 1 * d1 + t j 2 * d2 + t j 3 * d3 + t j 4 * d4)
def chkT (Tr : Tree) (d0 d1 d2 d3 d4 : Nat) : Bool := chkN Tr.wy Tr && (chkR Tr.wy (wholeN Tr 4) d0 d1 d2 d3 d4 0 && (chkR Tr.wy (wholeN Tr 4) d0 d1 d2 d3 d4 1 && (chkR Tr.wy (wholeN Tr 4) d0 d1 d2 d3 d4 2 && (chkR Tr.wy (wholeN Tr 4) d0 d1 d2 d3 d4 3 && chkR Tr.wy (wholeN Tr 4) d0 d1 d2 d3 d4 4))))
theorem chkR_sum {Tr : Tree} {e d0 d1 d2 d3 d4 j : Nat} (h : chkR Tr.wy e d0 d1 d2 d3 d4 j = true) : (sumN (waysOf Tr j) [(d0 : Int), (d1 : Int), (d2 : Int), (d3 : Int), (d4 : Int)] 5).sum = (e : Int) := by
  have h1 := Nat.eq_of_beq_eq_true h
  show (Tr.wy j 0 : Int) * (2 - (d0 : Int)) + ((Tr.wy j 1 : Int) * (2 - (d1 : Int)) + ((Tr.wy j 2 : Int) * (2 - (d2 : Int)) + ((Tr.wy j 3 : Int) * (2 - (d3 : Int)) + ((Tr.wy j 4 : Int) * (2 - (d4 : Int)) + 0)))) = _
  have h2 := congrArg (fun n : Nat => (n : Int)) h1
  simp only [Int.natCast_add, Int.natCast_mul] at h2
  simp only [Int.mul_sub]
  omega
theorem chkT_all {Tr : Tree} {d0 d1 d2 d3 d4 : Nat} (h : chkT Tr d0 d1 d2 d3 d4 = true) : minsOf (fun a b => (Tr.wy a b : Int)) = dueL Tr 4 ∧ sumsL Tr [(d0 : Int), (d1 : Int), (d2 : Int), (d3 : Int), (d4 : Int)] 5 = List.replicate 5 (wholeN Tr 4 : Int) := by
  unfold chkT at h
  simp only [Bool.and_eq_true] at h
  obtain ⟨hn, r0, r1, r2, r3, r4⟩ := h
  refine ⟨?_, ?_⟩
  · rw [minsOf_eq, uv1, uv3, uv7, uv15, uv31]
    exact eq_of_beq hn
  · show [_, _, _, _, _] = [_, _, _, _, _]
    dsimp only
    rw [chkR_sum r0, chkR_sum r1, chkR_sum r2, chkR_sum r3, chkR_sum r4]
theorem chk_000 : ∀ h1, h1 < 3 → ∀ h2, h2 < 3 → ∀ h3, h3 < 3 → ∀ h4, h4 < 3 → chkT (trF 0 0 0 (1 + h1) (1 + h2) (1 + h3) (1 + h4)) 4 1 1 1 1 = true := by decide +kernel
theorem chk_001 : ∀ h1, h1 < 3 → ∀ h2, h2 < 3 → ∀ h3, h3 < 3 → ∀ h4, h4 < 3 → chkT (trF 0 0 1 (1 + h1) (1 + h2) (1 + h3) (1 + h4)) 3 2 1 1 1 = true := by decide +kernel
theorem chk_002 : ∀ h1, h1 < 3 → ∀ h2, h2 < 3 → ∀ h3, h3 < 3 → ∀ h4, h4 < 3 → chkT (trF 0 0 2 (1 + h1) (1 + h2) (1 + h3) (1 + h4)) 3 1 2 1 1 = true := by decide +kernel
theorem chk_003 : ∀ h1, h1 < 3 → ∀ h2, h2 < 3 → ∀ h3, h3 < 3 → ∀ h4, h4 < 3 → chkT (trF 0 0 3 (1 + h1) (1 + h2) (1 + h3) (1 + h4)) 3 1 1 2 1 = true := by decide +kernel
theorem chk_010 : ∀ h1, h1 < 3 → ∀ h2, h2 < 3 → ∀ h3, h3 < 3 → ∀ h4, h4 < 3 → chkT (trF 0 1 0 (1 + h1) (1 + h2) (1 + h3) (1 + h4)) 3 2 1 1 1 = true := by decide +kernel
theorem chk_011 : ∀ h1, h1 < 3 → ∀ h2, h2 < 3 → ∀ h3, h3 < 3 → ∀ h4, h4 < 3 → chkT (trF 0 1 1 (1 + h1) (1 + h2) (1 + h3) (1 + h4)) 2 3 1 1 1 = true := by decide +kernel
theorem chk_012 : ∀ h1, h1 < 3 → ∀ h2, h2 < 3 → ∀ h3, h3 < 3 → ∀ h4, h4 < 3 → chkT (trF 0 1 2 (1 + h1) (1 + h2) (1 + h3) (1 + h4)) 2 2 2 1 1 = true := by decide +kernel
theorem chk_013 : ∀ h1, h1 < 3 → ∀ h2, h2 < 3 → ∀ h3, h3 < 3 → ∀ h4, h4 < 3 → chkT (trF 0 1 3 (1 + h1) (1 + h2) (1 + h3) (1 + h4)) 2 2 1 2 1 = true := by decide +kernel
theorem chk_020 : ∀ h1, h1 < 3 → ∀ h2, h2 < 3 → ∀ h3, h3 < 3 → ∀ h4, h4 < 3 → chkT (trF 0 2 0 (1 + h1) (1 + h2) (1 + h3) (1 + h4)) 3 1 2 1 1 = true := by decide +kernel
theorem chk_021 : ∀ h1, h1 < 3 → ∀ h2, h2 < 3 → ∀ h3, h3 < 3 → ∀ h4, h4 < 3 → chkT (trF 0 2 1 (1 + h1) (1 + h2) (1 + h3) (1 + h4)) 2 2 2 1 1 = true := by decide +kernel
theorem chk_022 : ∀ h1, h1 < 3 → ∀ h2, h2 < 3 → ∀ h3, h3 < 3 → ∀ h4, h4 < 3 → chkT (trF 0 2 2 (1 + h1) (1 + h2) (1 + h3) (1 + h4)) 2 1 3 1 1 = true := by decide +kernel
theorem chk_023 : ∀ h1, h1 < 3 → ∀ h2, h2 < 3 → ∀ h3, h3 < 3 → ∀ h4, h4 < 3 → chkT (trF 0 2 3 (1 + h1) (1 + h2) (1 + h3) (1 + h4)) 2 1 2 2 1 = true := by decide +kernel
theorem chk_100 : ∀ h1, h1 < 3 → ∀ h2, h2 < 3 → ∀ h3, h3 < 3 → ∀ h4, h4 < 3 → chkT (trF 1 0 0 (1 + h1) (1 + h2) (1 + h3) (1 + h4)) 3 2 1 1 1 = true := by decide +kernel
theorem chk_101 : ∀ h1, h1 < 3 → ∀ h2, h2 < 3 → ∀ h3, h3 < 3 → ∀ h4, h4 < 3 → chkT (trF 1 0 1 (1 + h1) (1 + h2) (1 + h3) (1 + h4)) 2 3 1 1 1 = true := by decide +kernel
theorem chk_102 : ∀ h1, h1 < 3 → ∀ h2, h2 < 3 → ∀ h3, h3 < 3 → ∀ h4, h4 < 3 → chkT (trF 1 0 2 (1 + h1) (1 + h2) (1 + h3) (1 + h4)) 2 2 2 1 1 = true := by decide +kernel
theorem chk_103 : ∀ h1, h1 < 3 → ∀ h2, h2 < 3 → ∀ h3, h3 < 3 → ∀ h4, h4 < 3 → chkT (trF 1 0 3 (1 + h1) (1 + h2) (1 + h3) (1 + h4)) 2 2 1 2 1 = true := by decide +kernel
theorem chk_110 : ∀ h1, h1 < 3 → ∀ h2, h2 < 3 → ∀ h3, h3 < 3 → ∀ h4, h4 < 3 → chkT (trF 1 1 0 (1 + h1) (1 + h2) (1 + h3) (1 + h4)) 2 3 1 1 1 = true := by decide +kernel
theorem chk_111 : ∀ h1, h1 < 3 → ∀ h2, h2 < 3 → ∀ h3, h3 < 3 → ∀ h4, h4 < 3 → chkT (trF 1 1 1 (1 + h1) (1 + h2) (1 + h3) (1 + h4)) 1 4 1 1 1 = true := by decide +kernel
theorem chk_112 : ∀ h1, h1 < 3 → ∀ h2, h2 < 3 → ∀ h3, h3 < 3 → ∀ h4, h4 < 3 → chkT (trF 1 1 2 (1 + h1) (1 + h2) (1 + h3) (1 + h4)) 1 3 2 1 1 = true := by decide +kernel
theorem chk_113 : ∀ h1, h1 < 3 → ∀ h2, h2 < 3 → ∀ h3, h3 < 3 → ∀ h4, h4 < 3 → chkT (trF 1 1 3 (1 + h1) (1 + h2) (1 + h3) (1 + h4)) 1 3 1 2 1 = true := by decide +kernel
theorem chk_120 : ∀ h1, h1 < 3 → ∀ h2, h2 < 3 → ∀ h3, h3 < 3 → ∀ h4, h4 < 3 → chkT (trF 1 2 0 (1 + h1) (1 + h2) (1 + h3) (1 + h4)) 2 2 2 1 1 = true := by decide +kernel
theorem chk_121 : ∀ h1, h1 < 3 → ∀ h2, h2 < 3 → ∀ h3, h3 < 3 → ∀ h4, h4 < 3 → chkT (trF 1 2 1 (1 + h1) (1 + h2) (1 + h3) (1 + h4)) 1 3 2 1 1 = true := by decide +kernel
theorem chk_122 : ∀ h1, h1 < 3 → ∀ h2, h2 < 3 → ∀ h3, h3 < 3 → ∀ h4, h4 < 3 → chkT (trF 1 2 2 (1 + h1) (1 + h2) (1 + h3) (1 + h4)) 1 2 3 1 1 = true := by decide +kernel
theorem chk_123 : ∀ h1, h1 < 3 → ∀ h2, h2 < 3 → ∀ h3, h3 < 3 → ∀ h4, h4 < 3 → chkT (trF 1 2 3 (1 + h1) (1 + h2) (1 + h3) (1 + h4)) 1 2 2 2 1 = true := by decide +kernel
theorem chk_all : ∀ {p2 p3 p4 h1 h2 h3 h4 : Nat}, p2 < 2 → p3 < 3 → p4 < 4 → h1 < 3 → h2 < 3 → h3 < 3 → h4 < 3 →
    minsOf (fun a b => ((trF p2 p3 p4 (1 + h1) (1 + h2) (1 + h3) (1 + h4)).wy a b : Int)) = dueL (trF p2 p3 p4 (1 + h1) (1 + h2) (1 + h3) (1 + h4)) 4 ∧
    sumsL (trF p2 p3 p4 (1 + h1) (1 + h2) (1 + h3) (1 + h4)) (tiedL [-1, 0, (p2 : Int), (p3 : Int), (p4 : Int)] 5) 5 = List.replicate 5 (wholeN (trF p2 p3 p4 (1 + h1) (1 + h2) (1 + h3) (1 + h4)) 4 : Int) := by
  intro p2 p3 p4 h1 h2 h3 h4 a2 a3 a4 b1 b2 b3 b4
  have e2 : p2 = 0 ∨ p2 = 1 := by omega
  have e3 : p3 = 0 ∨ p3 = 1 ∨ p3 = 2 := by omega
  have e4 : p4 = 0 ∨ p4 = 1 ∨ p4 = 2 ∨ p4 = 3 := by omega
  rcases e2 with rfl | rfl <;> rcases e3 with rfl | rfl | rfl <;> rcases e4 with rfl | rfl | rfl | rfl
  · rw [show tiedL [-1, 0, ((0 : Nat) : Int), ((0 : Nat) : Int), ((0 : Nat) : Int)] 5 = [4, 1, 1, 1, 1] by decide]
    exact chkT_all (chk_000 h1 b1 h2 b2 h3 b3 h4 b4)
  · rw [show tiedL [-1, 0, ((0 : Nat) : Int), ((0 : Nat) : Int), ((1 : Nat) : Int)] 5 = [3, 2, 1, 1, 1] by decide]
    exact chkT_all (chk_001 h1 b1 h2 b2 h3 b3 h4 b4)
  · rw [show tiedL [-1, 0, ((0 : Nat) : Int), ((0 : Nat) : Int), ((2 : Nat) : Int)] 5 = [3, 1, 2, 1, 1] by decide]
    exact chkT_all (chk_002 h1 b1 h2 b2 h3 b3 h4 b4)
  · rw [show tiedL [-1, 0, ((0 : Nat) : Int), ((0 : Nat) : Int), ((3 : Nat) : Int)] 5 = [3, 1, 1, 2, 1] by decide]
    exact chkT_all (chk_003 h1 b1 h2 b2 h3 b3 h4 b4)
  · rw [show tiedL [-1, 0, ((0 : Nat) : Int), ((1 : Nat) : Int), ((0 : Nat) : Int)] 5 = [3, 2, 1, 1, 1] by decide]
    exact chkT_all (chk_010 h1 b1 h2 b2 h3 b3 h4 b4)
  · rw [show tiedL [-1, 0, ((0 : Nat) : Int), ((1 : Nat) : Int), ((1 : Nat) : Int)] 5 = [2, 3, 1, 1, 1] by decide]
    exact chkT_all (chk_011 h1 b1 h2 b2 h3 b3 h4 b4)
  · rw [show tiedL [-1, 0, ((0 : Nat) : Int), ((1 : Nat) : Int), ((2 : Nat) : Int)] 5 = [2, 2, 2, 1, 1] by decide]
    exact chkT_all (chk_012 h1 b1 h2 b2 h3 b3 h4 b4)
  · rw [show tiedL [-1, 0, ((0 : Nat) : Int), ((1 : Nat) : Int), ((3 : Nat) : Int)] 5 = [2, 2, 1, 2, 1] by decide]
    exact chkT_all (chk_013 h1 b1 h2 b2 h3 b3 h4 b4)
  · rw [show tiedL [-1, 0, ((0 : Nat) : Int), ((2 : Nat) : Int), ((0 : Nat) : Int)] 5 = [3, 1, 2, 1, 1] by decide]
    exact chkT_all (chk_020 h1 b1 h2 b2 h3 b3 h4 b4)
  · rw [show tiedL [-1, 0, ((0 : Nat) : Int), ((2 : Nat) : Int), ((1 : Nat) : Int)] 5 = [2, 2, 2, 1, 1] by decide]
    exact chkT_all (chk_021 h1 b1 h2 b2 h3 b3 h4 b4)
  · rw [show tiedL [-1, 0, ((0 : Nat) : Int), ((2 : Nat) : Int), ((2 : Nat) : Int)] 5 = [2, 1, 3, 1, 1] by decide]
    exact chkT_all (chk_022 h1 b1 h2 b2 h3 b3 h4 b4)
  · rw [show tiedL [-1, 0, ((0 : Nat) : Int), ((2 : Nat) : Int), ((3 : Nat) : Int)] 5 = [2, 1, 2, 2, 1] by decide]
    exact chkT_all (chk_023 h1 b1 h2 b2 h3 b3 h4 b4)
  · rw [show tiedL [-1, 0, ((1 : Nat) : Int), ((0 : Nat) : Int), ((0 : Nat) : Int)] 5 = [3, 2, 1, 1, 1] by decide]
    exact chkT_all (chk_100 h1 b1 h2 b2 h3 b3 h4 b4)
  · rw [show tiedL [-1, 0, ((1 : Nat) : Int), ((0 : Nat) : Int), ((1 : Nat) : Int)] 5 = [2, 3, 1, 1, 1] by decide]
    exact chkT_all (chk_101 h1 b1 h2 b2 h3 b3 h4 b4)
  · rw [show tiedL [-1, 0, ((1 : Nat) : Int), ((0 : Nat) : Int), ((2 : Nat) : Int)] 5 = [2, 2, 2, 1, 1] by decide]
    exact chkT_all (chk_102 h1 b1 h2 b2 h3 b3 h4 b4)
  · rw [show tiedL [-1, 0, ((1 : Nat) : Int), ((0 : Nat) : Int), ((3 : Nat) : Int)] 5 = [2, 2, 1, 2, 1] by decide]
    exact chkT_all (chk_103 h1 b1 h2 b2 h3 b3 h4 b4)
  · rw [show tiedL [-1, 0, ((1 : Nat) : Int), ((1 : Nat) : Int), ((0 : Nat) : Int)] 5 = [2, 3, 1, 1, 1] by decide]
    exact chkT_all (chk_110 h1 b1 h2 b2 h3 b3 h4 b4)
  · rw [show tiedL [-1, 0, ((1 : Nat) : Int), ((1 : Nat) : Int), ((1 : Nat) : Int)] 5 = [1, 4, 1, 1, 1] by decide]
    exact chkT_all (chk_111 h1 b1 h2 b2 h3 b3 h4 b4)
  · rw [show tiedL [-1, 0, ((1 : Nat) : Int), ((1 : Nat) : Int), ((2 : Nat) : Int)] 5 = [1, 3, 2, 1, 1] by decide]
    exact chkT_all (chk_112 h1 b1 h2 b2 h3 b3 h4 b4)
  · rw [show tiedL [-1, 0, ((1 : Nat) : Int), ((1 : Nat) : Int), ((3 : Nat) : Int)] 5 = [1, 3, 1, 2, 1] by decide]
    exact chkT_all (chk_113 h1 b1 h2 b2 h3 b3 h4 b4)
  · rw [show tiedL [-1, 0, ((1 : Nat) : Int), ((2 : Nat) : Int), ((0 : Nat) : Int)] 5 = [2, 2, 2, 1, 1] by decide]
    exact chkT_all (chk_120 h1 b1 h2 b2 h3 b3 h4 b4)
  · rw [show tiedL [-1, 0, ((1 : Nat) : Int), ((2 : Nat) : Int), ((1 : Nat) : Int)] 5 = [1, 3, 2, 1, 1] by decide]
    exact chkT_all (chk_121 h1 b1 h2 b2 h3 b3 h4 b4)
  · rw [show tiedL [-1, 0, ((1 : Nat) : Int), ((2 : Nat) : Int), ((2 : Nat) : Int)] 5 = [1, 2, 3, 1, 1] by decide]
    exact chkT_all (chk_122 h1 b1 h2 b2 h3 b3 h4 b4)
  · rw [show tiedL [-1, 0, ((1 : Nat) : Int), ((2 : Nat) : Int), ((3 : Nat) : Int)] 5 = [1, 2, 2, 2, 1] by decide]
    exact chkT_all (chk_123 h1 b1 h2 b2 h3 b3 h4 b4)
end Mine
end
-- Pl3
section
open PySem PySem.W PyProof.Rows PySem.Calls
set_option Elab.async false
set_option maxRecDepth 100000
set_option linter.unusedVariables false
namespace Mine
theorem prod_congr {T T' : Tree} (h : T.H = T'.H) : ∀ n, prodN T n = prodN T' n
  | 0 => rfl
  | n + 1 => by simp only [prodN]; rw [prod_congr h n, h]
theorem whole_congr {T T' : Tree} (h : T.H = T'.H) : ∀ n, wholeN T n = wholeN T' n
  | 0 => rfl
  | n + 1 => by simp only [wholeN]; rw [whole_congr h n, h]
theorem due_congr {T T' : Tree} (h : T.H = T'.H) : ∀ n, dueL T n = dueL T' n
  | 0 => rfl
  | n + 1 => by simp only [dueL]; rw [due_congr h n, prod_congr h, whole_congr h]
theorem sums_congr {T T' : Tree} (h : T.wy = T'.wy) (ts : List Int) : sumsL T ts 5 = sumsL T' ts 5 := by
  have : waysOf T = waysOf T' := by funext j; simp only [waysOf]; rw [h]
  simp only [sumsL]; rw [this]
theorem way_congr {P P' H : Nat → Nat} (h : ∀ k, 1 ≤ k → P k = P' k) : ∀ n a b, wayF P H n a b = wayF P' H n a b
  | 0, _, _ => rfl
  | n + 1, a, b => by
    simp only [wayF]
    by_cases e : a = b
    · rw [if_pos e, if_pos e]
    · rw [if_neg e, if_neg e]
      by_cases q : b < a
      · rw [if_pos q, if_pos q, h a (by omega), way_congr h n]
      · rw [if_neg q, if_neg q, h b (by omega), way_congr h n]
theorem par_eq (x0 x1 x2 x3 : Nat) : ∀ k, 1 ≤ k → [x0, x1, x2, x3].getD (k - 1) 0 % k = pF (x1 % 2) (x2 % 3) (x3 % 4) k
  | 1, _ => Nat.mod_one _
  | 2, _ => rfl
  | 3, _ => rfl
  | 4, _ => rfl
  | k + 5, _ => by show 0 % (k + 5) = 0; exact Nat.zero_mod _
theorem hrs_eq (x0 x1 x2 x3 : Nat) : ∀ k, 1 + [x0, x1, x2, x3].getD (k - 1) 0 / k % 3 = hF (1 + x0 / 1 % 3) (1 + x1 / 2 % 3) (1 + x2 / 3 % 3) (1 + x3 / 4 % 3) k
  | 0 => by show 1 + x0 / 0 % 3 = 1; rw [Nat.div_zero]
  | 1 => rfl
  | 2 => rfl
  | 3 => rfl
  | 4 => rfl
  | k + 5 => by show 1 + 0 / (k + 5) % 3 = 1; rw [Nat.zero_div]
/-- the plain law -/
theorem plain : ∀ {hs : List Nat}, hs.length = 4 → (treeOf hs).Ok ∧ minsOf (fun a b => ((treeOf hs).wy a b : Int)) = dueL (treeOf hs) 4 ∧ sumsL (treeOf hs) (tiedL (-1 :: parL hs 4) 5) 5 = List.replicate 5 (wholeN (treeOf hs) 4 : Int)
  | [x0, x1, x2, x3], _ => by
    have eP := par_eq x0 x1 x2 x3
    have eH : (treeOf [x0, x1, x2, x3]).H = (trF (x1 % 2) (x2 % 3) (x3 % 4) (1 + x0 / 1 % 3) (1 + x1 / 2 % 3) (1 + x2 / 3 % 3) (1 + x3 / 4 % 3)).H := funext (hrs_eq x0 x1 x2 x3)
    have eW : (treeOf [x0, x1, x2, x3]).wy = (trF (x1 % 2) (x2 % 3) (x3 % 4) (1 + x0 / 1 % 3) (1 + x1 / 2 % 3) (1 + x2 / 3 % 3) (1 + x3 / 4 % 3)).wy := by
      funext a b
      show wayF _ (treeOf [x0, x1, x2, x3]).H 8 a b = wayF _ (hF _ _ _ _) 8 a b
      rw [eH]
      exact way_congr eP 8 a b
    have hc := chk_all (p2 := x1 % 2) (p3 := x2 % 3) (p4 := x3 % 4) (h1 := x0 / 1 % 3) (h2 := x1 / 2 % 3) (h3 := x2 / 3 % 3) (h4 := x3 / 4 % 3) (Nat.mod_lt _ (by decide)) (Nat.mod_lt _ (by decide)) (Nat.mod_lt _ (by decide)) (Nat.mod_lt _ (by decide)) (Nat.mod_lt _ (by decide)) (Nat.mod_lt _ (by decide)) (Nat.mod_lt _ (by decide))
    have eT : tiedL (-1 :: parL [x0, x1, x2, x3] 4) 5 = tiedL [-1, 0, ((x1 % 2 : Nat) : Int), ((x2 % 3 : Nat) : Int), ((x3 % 4 : Nat) : Int)] 5 := by
      have : parL [x0, x1, x2, x3] 4 = [((x0 % 1 : Nat) : Int), ((x1 % 2 : Nat) : Int), ((x2 % 3 : Nat) : Int), ((x3 % 4 : Nat) : Int)] := rfl
      rw [this, Nat.mod_one]; rfl
    refine ⟨tree_ok, ?_, ?_⟩
    · rw [due_congr eH, eW]; exact hc.1
    · rw [eT, sums_congr eW, whole_congr eH]; exact hc.2
/-- the two lists -/
theorem two_lists {hs : List Nat} {ps rs : List Value} (hp : IntsAre ps (-1 :: parL hs 4)) (hr : IntsAre rs (0 :: hrsL hs 4)) : TwoLists (treeOf hs) ps rs where
  p := fun k h1 h2 => by
    obtain ⟨t, e⟩ := ints_at hp (i := k) (by simp [parL]; omega)
    refine ⟨t, e.trans ?_⟩
    congr 2
    have : k = 1 ∨ k = 2 ∨ k = 3 ∨ k = 4 := by omega
    rcases this with rfl | rfl | rfl | rfl <;> rfl
  h := fun k h1 h2 => by
    obtain ⟨t, e⟩ := ints_at hr (i := k) (by simp [hrsL]; omega)
    refine ⟨t, e.trans ?_⟩
    congr 2
    have : k = 1 ∨ k = 2 ∨ k = 3 ∨ k = 4 := by omega
    rcases this with rfl | rfl | rfl | rfl <;> rfl
  w := fun a b => rfl
end Mine
end
-- LaI
section
open PySem PySem.W PyProof.Rows PySem.Calls
set_option Elab.async false
set_option maxRecDepth 100000
set_option linter.unusedVariables false
namespace Mine
theorem body_0 : laBody = laBody.getD 0 noStmt :: laBody.getD 1 noStmt :: laBody.getD 2 noStmt :: laBody.drop 3 := rfl
theorem body_6 : laBody.drop 6 = laBody.getD 6 noStmt :: laBody.getD 7 noStmt :: laBody.getD 8 noStmt :: laBody.getD 9 noStmt :: laBody.getD 10 noStmt :: laBody.drop 11 := rfl
theorem body_15 : laBody.drop 15 = [laBody.getD 15 noStmt, laBody.getD 16 noStmt, laBody.getD 17 noStmt] := rfl
theorem perm5 {α : Type _} (a b c d e : α) : [a, b, c, d, e].Perm [c, e, a, b, d] :=
  List.Perm.map (fun i => [a, b, c, d, e].getD i a) (show [0, 1, 2, 3, 4].Perm [2, 4, 0, 1, 3] by decide)
theorem permL {α : Type _} (L a c1 c2 c3 c4 t : α) : [L, a, c1, c2, c3, c4, t].Perm [L, a, c2, c1, c3, c4, t] :=
  List.Perm.map (fun i => [L, a, c1, c2, c3, c4, t].getD i L) (show [0, 1, 2, 3, 4, 5, 6].Perm [0, 1, 3, 2, 4, 5, 6] by decide)
theorem permM {α : Type _} (L a c2 p c1 c3 c4 t : α) : [L, a, c2, p, c1, c3, c4, t].Perm [L, a, c3, c2, p, c1, c4, t] :=
  List.Perm.map (fun i => [L, a, c2, p, c1, c3, c4, t].getD i L) (show [0, 1, 2, 3, 4, 5, 6, 7].Perm [0, 1, 5, 2, 3, 4, 6, 7] by decide)
theorem permN {α : Type _} (L T o a b c d e f g t : α) : [L, T, o, a, b, c, d, e, f, g, t].Perm [L, T, o, t, a, b, c, d, e, f, g] :=
  List.Perm.map (fun i => [L, T, o, a, b, c, d, e, f, g, t].getD i L) (show [0, 1, 2, 3, 4, 5, 6, 7, 8, 9, 10].Perm [0, 1, 2, 10, 3, 4, 5, 6, 7, 8, 9] by decide)
section
variable {w : World} {mg mb : Str → Option Value} {h₀ : Heap} {A : Around} {E : Value → Shared → Prop} {s : Shared} {Q : Value → Shared → Prop} {QF : Flow → Shared → Prop} {l r : List (Addr × Itm)} {env : Env} {L : Addr} {m : Str → Option Value}
/-- tied, sums, the return -/
theorem la_last {Z da pa ra ha sa c c2 : Addr} {ps rs dv ys : List Value} {hs : List Nat} {tw : Tok} {trs : List Row} (G : Gr w mg mb h₀) (H : EF env laScope (laCells L) L) (hlen : hs.length = 4) (hps : IntsAre ps (-1 :: parL hs 4))
    (mt : m (Str.ofString "table") = some (.ref Z)) (mw : m (Str.ofString "whole") = some (.int (wholeN (treeOf hs) 4) tw)) (md : m (Str.ofString "due") = some (.ref da)) (htrs : TabOk (treeOf hs) 5 trs) (hdv : IntsAre dv (dueL (treeOf hs) 4))
    (D : Led h₀ s.heap ((L, nsI m) :: (da, lstI dv) :: (Z, lstI (trs.map fun t => .ref t.1).reverse) :: (trs.map rowE ++ (tabE (some (c, c2)) ++ ((ha, lstI ys) :: (L + 3, cellI (some (.ref ra))) :: (ra, lstI rs) :: (L + 2, cellI (some (.ref pa))) :: (pa, lstI ps) :: (L + 1, cellI (some (.ref sa))) :: (L + 4, cellI none) :: l)))))
    (hA : A.depth < recursionLimit) (hh : A.handled = none) (hu : A.units + 64 < cLine)
    (K : ∀ h' tk' r, Led h₀ h' (tabE (some (c, c2)) ++ r) → QF (.ret (.bool true)) { s with heap := h', toks := tk' }) :
    wpAny (model prog w) A (execs (laBody.drop 15) env) QF E s := by
  obtain ⟨hT, hmin, hsum⟩ := plain hlen
  rw [body_15]
  refine wpAny_execs_cons ?_
  generalize hR : tabE (some (c, c2)) ++ ((ha, lstI ys) :: (L + 3, cellI (some (.ref ra))) :: (ra, lstI rs) :: (L + 2, cellI (some (.ref pa))) :: (pa, lstI ps) :: (L + 1, cellI (some (.ref sa))) :: l) = R
  have e1 : (L, nsI m) :: (da, lstI dv) :: (Z, lstI (trs.map fun t => .ref t.1).reverse) :: (trs.map rowE ++ (tabE (some (c, c2)) ++ ((ha, lstI ys) :: (L + 3, cellI (some (.ref ra))) :: (ra, lstI rs) :: (L + 2, cellI (some (.ref pa))) :: (pa, lstI ps) :: (L + 1, cellI (some (.ref sa))) :: (L + 4, cellI none) :: l)))
      = ((L, nsI m) :: (da, lstI dv) :: (Z, lstI (trs.map fun t => .ref t.1).reverse) :: (trs.map rowE ++ (tabE (some (c, c2)) ++ [(ha, lstI ys), (L + 3, cellI (some (.ref ra))), (ra, lstI rs), (L + 2, cellI (some (.ref pa))), (pa, lstI ps), (L + 1, cellI (some (.ref sa)))]))) ++ (L + 4, cellI none) :: l := by simp
  have e2 : ((L, nsI m) :: (da, lstI dv) :: (Z, lstI (trs.map fun t => .ref t.1).reverse) :: (trs.map rowE ++ (tabE (some (c, c2)) ++ [(ha, lstI ys), (L + 3, cellI (some (.ref ra))), (ra, lstI rs), (L + 2, cellI (some (.ref pa))), (pa, lstI ps), (L + 1, cellI (some (.ref sa)))]))) ++ l
      = (L, nsI m) :: (da, lstI dv) :: (Z, lstI (trs.map fun t => .ref t.1).reverse) :: (trs.map rowE ++ R) := by rw [← hR]; simp
  rw [e1] at D
  replace D := D.perm List.perm_middle
  rw [e2] at D
  have m1 : (L + 2, cellI (some (.ref pa))) ∈ R := by rw [← hR]; exact List.mem_append_right _ (.tail _ (.tail _ (.tail _ (.head _))))
  have m2 : (pa, lstI ps) ∈ R := by rw [← hR]; exact List.mem_append_right _ (.tail _ (.tail _ (.tail _ (.tail _ (.head _)))))
  refine la_tied G H hps D (.tail _ (.tail _ (.tail _ (List.mem_append_right _ m1)))) (.tail _ (.tail _ (.tail _ (List.mem_append_right _ m2)))) hh fun h1 tk1 a ts hts D1 => ?_
  dsimp only
  have D2 : Led h₀ h1 ((L, nsI m) :: (Z, lstI (trs.map fun t => .ref t.1).reverse) :: (trs.map rowE ++ ((L + 4, cellI (some (.ref a))) :: (a, lstI ts) :: (da, lstI dv) :: R))) := by
    refine (D1.perm ((perm5 _ _ _ _ _).append_right _)).perm (.cons _ (.cons _ ?_))
    exact List.perm_append_comm_assoc [_, _, _] (trs.map rowE) R
  refine wpAny_execs_cons (la_sums G H hT mt htrs hts (by simp [tiedL]) D2 (.head _) (.tail _ (.head _)) hh fun h3 tk3 Y us hus D3 => ?_)
  dsimp only
  refine wpAny_execs_cons (la_return G H hT ((if_neg (by decide)).trans mt) (if_pos rfl) ((if_neg (by decide)).trans mw) ((if_neg (by decide)).trans md) htrs hus hdv hmin hsum D3 (.tail _ (.tail _ (.head _))) hA hh hu fun h4 tk4 D4 => ?_)
  have D5 := D4.drop.drop.drop
  rw [← hR] at D5
  exact K _ _ _ D5
end
end Mine
end
-- LaJ
section
open PySem PySem.W PyProof.Rows PySem.Calls
set_option Elab.async false
set_option maxRecDepth 100000
set_option linter.unusedVariables false
namespace Mine
section
variable {w : World} {mg mb : Str → Option Value} {h₀ : Heap} {A : Around} {E : Value → Shared → Prop} {s : Shared} {Q : Value → Shared → Prop} {QF : Flow → Shared → Prop} {l r : List (Addr × Itm)} {env : Env} {L : Addr} {m : Str → Option Value}
theorem la_body {sa : Addr} {vs : List Value} {ns : List Int} (G : Gr w mg mb h₀) (H : EF env laScope (laCells L) L) (hsl : h₀.IsList sa vs.toArray) (hns : IntsAre vs ns) (hnl : ns.length ≤ 63)
    (D : Led h₀ s.heap ((L, nsI m) :: (L + 1, cellI (some (.ref sa))) :: (L + 2, cellI none) :: (L + 3, cellI none) :: (L + 4, cellI none) :: (106, objI (tabObj #[])) :: l))
    (hA : A.depth + 3 < recursionLimit) (hh : A.handled = none) (hu : A.units + 64 < cLine)
    (K : ∀ h' tk' c c2 r, Led h₀ h' (tabE (some (c, c2)) ++ r) → QF (.ret (.bool true)) { s with heap := h', toks := tk' }) :
    wpAny (model prog w) A (execs laBody env) QF E s := by
  rw [body_0]
  refine wpAny_execs_cons (la_heaps G H hsl hns hnl D hh fun h1 tk1 ha ys hs hok D1 => ?_)
  dsimp only
  obtain ⟨hT, hmin, hsum⟩ := plain hok.2.1
  have mh : ∀ {z : Str → Option Value}, (fun z_1 : Str => if z_1 = Str.ofString "heaps" then some (Value.ref ha) else z z_1) (Str.ofString "heaps") = some (.ref ha) := fun {z} => if_pos rfl
  refine wpAny_execs_cons (la_parents G H hok mh (D1.perm ((permL _ _ _ _ _ _ _).append_right l)) hh fun h2 tk2 pa ps hps D2 => ?_)
  dsimp only
  refine wpAny_execs_cons (la_hours G H hok mh (D2.perm ((permM _ _ _ _ _ _ _ _).append_right l)) hh fun h3 tk3 ra rs hrs D3 => ?_)
  dsimp only
  refine la_octets G H hps hrs D3 (.tail _ (.tail _ (.tail _ (.head _)))) (.tail _ (.tail _ (.tail _ (.tail _ (.head _))))) (.tail _ (.head _)) (.tail _ (.tail _ (.head _))) hh fun h4 tk4 m4 T oa os hm4 hmT hos D4 => ?_
  have mh4 : m4 (Str.ofString "heaps") = some (.ref ha) := (hm4 _ (by decide) (by decide) (by decide)).trans (if_pos rfl)
  replace D4 := D4.perm ((permN _ _ _ _ _ _ _ _ _ _ _).append_right l)
  rw [body_6]
  refine wpAny_execs_cons (la_grown (T := T) (oa := oa) (ha := ha) (os := os) (ys := ys) (hs := hs) (l := (ha, lstI ys) :: (L + 3, cellI (some (.ref ra))) :: (ra, lstI rs) :: (L + 2, cellI (some (.ref pa))) :: (pa, lstI ps) :: (L + 1, cellI (some (.ref sa))) :: (L + 4, cellI none) :: l) G H hok hT hos hmT mh4 (.head _) D4 hA hh
    fun h5 tk5 m5 dl el ds tps c c2 hds htps hm5 hmd hme D5 => ?_)
  dsimp only
  generalize hR : tabE (some (c, c2)) ++ ((ha, lstI ys) :: (L + 3, cellI (some (.ref ra))) :: (ra, lstI rs) :: (L + 2, cellI (some (.ref pa))) :: (pa, lstI ps) :: (L + 1, cellI (some (.ref sa))) :: (L + 4, cellI none) :: l) = R at D5
  have hos8 : os.length = 8 := by have := hos.length; rw [this, octL_len]
  have mT5 : m5 (Str.ofString "tape") = some (.ref T) := (hm5 _ (by decide) (by decide)).trans hmT
  have D6 : Led h₀ h5 ((L, nsI m5) :: (T, litI oa 8) :: (dl, lstI (ds.map fun d => .ref d.1.o)) :: (el, lstI (tps.map fun t => .ref t.1).reverse) :: (tps.map tpE ++ ((oa, lstI os) :: (desksE ds ++ R)))) :=
    D5.perm (.cons _ (.cons _ (.cons _ (.cons _ (.append_left _ List.perm_middle)))))
  refine wpAny_execs_cons (la_ends G H hme mT5 htps hos8 D6 hh hu fun h7 tk7 D7 => ?_)
  dsimp only
  have r1 : (c, codI rdQual) ∈ R := by rw [← hR]; exact List.mem_append_left _ (.tail _ (.head _))
  have r2 : (L + 2, cellI (some (.ref pa))) ∈ R := by rw [← hR]; exact List.mem_append_right _ (.tail _ (.tail _ (.tail _ (.head _))))
  have r3 : (pa, lstI ps) ∈ R := by rw [← hR]; exact List.mem_append_right _ (.tail _ (.tail _ (.tail _ (.tail _ (.head _)))))
  have r4 : (L + 3, cellI (some (.ref ra))) ∈ R := by rw [← hR]; exact List.mem_append_right _ (.tail _ (.head _))
  have r5 : (ra, lstI rs) ∈ R := by rw [← hR]; exact List.mem_append_right _ (.tail _ (.tail _ (.head _)))
  have hl := two_lists hps hrs
  refine wpAny_execs_cons (la_told G H hmd hds r1 D7 (by omega) hh fun h8 tk8 Y rows hrows D8 => ?_)
  dsimp only
  refine wpAny_execs_cons (la_toldeq G H hT hl (if_pos rfl) hrows D8 r2 r3 r4 r5 (by omega) hh hu fun h9 tk9 D9 => ?_)
  dsimp only
  refine wpAny_execs_cons (la_table G H hT (if_pos rfl) hrows D9 hh fun h10 tk10 Z trs htrs D10 => ?_)
  dsimp only
  refine la_due G H hT hl D10 (.tail _ (List.mem_append_right _ r4)) (.tail _ (List.mem_append_right _ r5)) hh fun h11 tk11 m11 da dv tw hm11 hmw hmd hdv D11 => ?_
  rw [← hR] at D11
  exact la_last G H hok.2.1 hps ((hm11 _ (by decide) (by decide) (by decide) (by decide)).trans (if_pos rfl)) hmw hmd htrs hdv D11 (by omega) hh hu fun h' tk' r D' => K h' tk' c c2 r D'
end
end Mine
end
-- Fin1
section
open PySem PySem.W PyProof.Rows PySem.Calls
set_option Elab.async false
set_option maxRecDepth 100000
set_option linter.unusedVariables false
namespace Mine
section
variable {g0 h₁ : Heap} {L : Addr} {m : Str → Option Value} {o4 o3 o2 o1 : Obj} {v : Value}
theorem led0 (F : Fr g0 L h₁ m) (N : News g0 L h₁ [(L + 1 + 1 + 1 + 1, o4), (L + 1 + 1 + 1, o3), (L + 1 + 1, o2), (L + 1, o1), (106, tabObj #[])]) (hl : 106 < L)
    (c4 : o4.data = .cell none) (c3 : o3.data = .cell none) (c2 : o2.data = .cell none) (c1 : o1.data = .cell (some v)) :
    Led g0 h₁ [(L, nsI m), (L + 1, cellI (some v)), (L + 2, cellI none), (L + 3, cellI none), (L + 4, cellI none), (106, objI (tabObj #[]))] := by
  obtain ⟨a4, _, f4⟩ := N _ (.head _)
  obtain ⟨a3, _, f3⟩ := N _ (.tail _ (.head _))
  obtain ⟨a2, _, f2⟩ := N _ (.tail _ (.tail _ (.head _)))
  obtain ⟨a1, _, f1⟩ := N _ (.tail _ (.tail _ (.tail _ (.head _))))
  obtain ⟨a0, _, f0⟩ := N _ (.tail _ (.tail _ (.tail _ (.tail _ (.head _)))))
  refine ⟨F.keep, fun q hq => ?_, ?_⟩
  · simp only [List.mem_cons, List.not_mem_nil, or_false] at hq
    rcases hq with rfl | rfl | rfl | rfl | rfl | rfl
    · refine ⟨At.of_ns F.ns, ?_⟩
      cases e : g0.get? L with
      | none => rfl
      | some o => exact absurd (Heap.lt_size e) (Nat.not_lt.mpr F.above)
    · exact ⟨⟨_, a1, c1⟩, f1⟩
    · exact ⟨⟨_, a2, c2⟩, f2⟩
    · exact ⟨⟨_, a3, c3⟩, f3⟩
    · exact ⟨⟨_, a4, c4⟩, f4⟩
    · exact ⟨⟨_, a0, rfl⟩, f0⟩
  · have e : ∀ (L : Nat), 106 < L → [L, L + 1, L + 2, L + 3, L + 4, 106].Nodup := by
      intro L hl
      simp only [List.nodup_cons, List.mem_cons, List.not_mem_nil, or_false, not_or, List.nodup_nil, and_true, not_false_eq_true]
      omega
    exact e L hl
end
theorem end_good {c : ClaimW} {cl : Str → Option Addr} {mean : ExcName → Option Value} {args : List WData} {s₁ : Shared} {h : Heap} {t : Nat} {c1 c2 : Addr} {r : List (Addr × Itm)} (D : Led s₁.heap h (tabE (some (c1, c2)) ++ r)) (hg : s₁.gens = #[])
    (hr : ∀ cls, c.raises args cls = false) (hp : c.post args (.bool true) args = true) : GoodW c cl mean args s₁ (.ok (.ret (.bool true))) { heap := h, gens := s₁.gens, drawn := s₁.drawn, toks := t, os := s₁.os } ∧ GrownAll [(110, 106)] h :=
  ⟨⟨.inl ⟨_, _, [], rfl, hr, ReadsW.bool true, hp, fun _ => ⟨List.nodup_nil, fun _ hm => (nomatch hm)⟩⟩, D.keep, rfl, hg⟩, ⟨_, D.ob 0 rfl⟩, trivial⟩
end Mine
end
-- Fin2
section
open PySem PySem.W PyProof.Rows PySem.Calls
set_option Elab.async false
set_option maxRecDepth 100000
set_option maxHeartbeats 8000000
namespace Mine
theorem fin : PySem.Challenge.rw_re0006_01.Holds := hd (by
  k_go0
  rename_i _ _ _ _ _ _ _ _ _ _ _ _ _ _ _ _ _ _ _ _ _ hI _ hcond _ hD h₁ tk w4 w3 w2 w1 c4 c3 c2 c1 X0 X' T' K' F' N' l0
  have G : Gr _ _ _ _ := ⟨X', T'.g, T'.b, T'.nolimit, T'.builtins, codeHd, T'.bmain⟩
  have D0 := led0 F' N' l0 c4 c3 c2 c1
  refine la_body (QF := fun f s' => _) G ⟨rfl, rfl, rfl, rfl, rfl, rfl⟩ lifted hI (by omega) D0 (Nat.le_of_ble_eq_true rfl) rfl (Nat.le_of_ble_eq_true rfl) fun h' tk' cc cc2 r D' => ?_
  refine end_good D' (by first | assumption | (show Shared.gens _ = _; assumption)) (fun _ => rfl) (by first | rfl | wrow_post))
end Mine
end
theorem PySem.Challenge.cw_re0006_01_holds : PySem.Challenge.rw_re0006_01.Holds := by
  exact Mine.fin
