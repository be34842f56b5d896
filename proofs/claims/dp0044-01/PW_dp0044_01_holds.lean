import PyProof.Rows.All
import Wide.All
import OpenK.AllK
import Wide.FinOn
import PyProof.ExcStrCall
import PyProof.ExcStrAll.IndexError
import PySem.Challenge.RW_dp0044_01
open PySem PySem.W PyProof.Rows PySem.Calls
set_option Elab.async false
set_option maxRecDepth 100000
set_option maxHeartbeats 8000000
set_option linter.unusedVariables false
namespace Mine
open_top hd for PySem.Challenge.rw_dp0044_01

abbrev Fm := Str → Option Value
abbrev Ls := Addr → Option (List Value)

/-- what is known of a heap: the base kept, the frames on the stack, the lists made, the pinned records -/
structure Wd (b : Heap) (fs : List (Addr × Fm)) (ls : Ls) (ps : List (Addr × Obj)) (h : Heap) : Prop where
  keep : b.StaysIn h
  fr : ∀ p ∈ fs, h.Ns p.1 p.2 ∧ b.get? p.1 = none
  nd : (fs.map (·.1)).Nodup
  li : ∀ a vs, ls a = some vs → (∃ n, IsL h a vs.toArray n) ∧ b.get? a = none
  pi : ∀ p ∈ ps, h.get? p.1 = some p.2 ∧ b.get? p.1 = none ∧ ∃ vs, p.2.data = .fields vs
  pn : (ps.map (·.1)).Nodup

def setm (m : Fm) (x : Str) (v : Value) : Fm := fun y => if y = x then some v else m y
theorem setm_self {m : Fm} {x : Str} {v : Value} : setm m x v x = some v := if_pos rfl
theorem setm_ne {m : Fm} {x y : Str} {v : Value} {r : Option Value} (h : y ≠ x) (e : m y = r) : setm m x v y = r := (if_neg h).trans e

def upd (ls : Ls) (a : Addr) (vs : List Value) : Ls := fun x => if x = a then some vs else ls x
theorem upd_self {ls : Ls} {a : Addr} {vs : List Value} : upd ls a vs a = some vs := if_pos rfl
theorem upd_ne {ls : Ls} {a x : Addr} {vs : List Value} (h : x ≠ a) : upd ls a vs x = ls x := if_neg h
theorem upd_upd {ls : Ls} {a : Addr} {vs us : List Value} : upd (upd ls a vs) a us = upd ls a us := by
  funext x
  unfold upd
  split <;> rfl
theorem upd_same {ls : Ls} {a : Addr} {vs : List Value} (h : ls a = some vs) : upd ls a vs = ls := by
  funext x
  unfold upd
  split
  · rename_i e; rw [e, h]
  · rfl

section
variable {b h h' : Heap} {fs : List (Addr × Fm)} {ls : Ls} {ps : List (Addr × Obj)} {L a : Addr} {m m' : Fm} {vs vs' : List Value} {o o' : Obj}

theorem none_of_stays (k : b.StaysIn h) (e : h.get? a = none) : b.get? a = none := by
  cases q : b.get? a with
  | none => rfl
  | some o => have := k a o q; rw [e] at this; cases this
theorem ne_of_none (e : b.get? a = none) {c : Addr} (q : b.get? c = some o) : c ≠ a := fun z => by rw [z, e] at q; cases q

theorem Wd.grow (W : Wd b fs ls ps h) (k : h.StaysIn h') : Wd b fs ls ps h' where
  keep := fun c o e => k c o (W.keep c o e)
  fr := fun p hp => ⟨(W.fr p hp).1.keeps k, (W.fr p hp).2⟩
  nd := W.nd
  li := fun a vs e => ⟨let ⟨n, q⟩ := (W.li a vs e).1; ⟨n, k _ _ q⟩, (W.li a vs e).2⟩
  pi := fun p hp => ⟨k _ _ (W.pi p hp).1, (W.pi p hp).2⟩
  pn := W.pn
theorem Wd.push (W : Wd b fs ls ps h) (o : Obj) : Wd b fs ls ps (h.push o) := W.grow fun _ _ e => Heap.get?_push_of_some o e

theorem Wd.ns (W : Wd b ((L, m) :: fs) ls ps h) : h.Ns L m := (W.fr (L, m) (.head _)).1
theorem Wd.ne_list (W : Wd b fs ls ps h) (hn : h.Ns L m) (e : ls a = some vs) : a ≠ L := fun z => by
  obtain ⟨n, q⟩ := (W.li a vs e).1
  obtain ⟨o, es, ep, ho, hd, _⟩ := hn
  rw [z] at q
  cases ho.symm.trans q
  cases hd
theorem Wd.ne_pin (W : Wd b fs ls ps h) (hn : h.Ns L m) {p : Addr × Obj} (hp : p ∈ ps) : p.1 ≠ L := fun z => by
  obtain ⟨q, _, vs, hv⟩ := W.pi p hp
  obtain ⟨o, es, ep, ho, hd, _⟩ := hn
  rw [z, ho] at q
  cases q
  rw [hd] at hv
  cases hv
theorem Wd.list_pin (W : Wd b fs ls ps h) (e : ls a = some vs) {p : Addr × Obj} (hp : p ∈ ps) : p.1 ≠ a := fun z => by
  obtain ⟨q, _, vs, hv⟩ := W.pi p hp
  obtain ⟨n, r⟩ := (W.li _ _ e).1
  rw [z] at q
  rw [← Option.some.inj (r.symm.trans q)] at hv
  cases hv

theorem Wd.pop (W : Wd b ((L, m) :: fs) ls ps h) : Wd b fs ls ps h where
  keep := W.keep
  fr := fun p hp => W.fr p (.tail _ hp)
  nd := (List.nodup_cons.mp W.nd).2
  li := W.li
  pi := W.pi
  pn := W.pn

theorem Wd.setLocal (W : Wd b ((L, m) :: fs) ls ps h) (hn : h'.Ns L m') (hs : Heap.SameBut L h h') : Wd b ((L, m') :: fs) ls ps h' where
  keep := fun c o e => (hs.2 c (ne_of_none (W.fr (L, m) (.head _)).2 e)).trans (W.keep c o e)
  fr := fun p hp => by
    rcases List.mem_cons.mp hp with rfl | hp
    · exact ⟨hn, (W.fr (L, m) (.head _)).2⟩
    · have := W.fr p (.tail _ hp)
      exact ⟨this.1.sameBut hs fun z => (List.nodup_cons.mp W.nd).1 (by rw [← z]; exact List.mem_map_of_mem (f := (·.1)) hp), this.2⟩
  nd := W.nd
  li := fun a vs e => ⟨let ⟨n, q⟩ := (W.li a vs e).1; ⟨n, (hs.2 a (W.ne_list W.ns e)).trans q⟩, (W.li a vs e).2⟩
  pi := fun p hp => ⟨(hs.2 _ (W.ne_pin W.ns hp)).trans (W.pi p hp).1, (W.pi p hp).2⟩
  pn := W.pn

theorem Wd.setList (W : Wd b fs ls ps h) (hl : ls a = some vs) {n : Nat} (hn : IsL h' a vs'.toArray n) (hs : Heap.SameBut a h h') : Wd b fs (upd ls a vs') ps h' where
  keep := fun c o e => (hs.2 c (ne_of_none (W.li a vs hl).2 e)).trans (W.keep c o e)
  fr := fun p hp => ⟨(W.fr p hp).1.sameBut hs fun z => W.ne_list (W.fr p hp).1 hl z.symm, (W.fr p hp).2⟩
  nd := W.nd
  li := fun c us e => by
    unfold upd at e
    split at e
    · rename_i q
      cases e
      subst q
      exact ⟨⟨n, hn⟩, (W.li _ vs hl).2⟩
    · rename_i q
      have := W.li c us e
      exact ⟨let ⟨k, r⟩ := this.1; ⟨k, (hs.2 c q).trans r⟩, this.2⟩
  pi := fun p hp => ⟨(hs.2 _ (W.list_pin hl hp)).trans (W.pi p hp).1, (W.pi p hp).2⟩
  pn := W.pn

theorem Wd.fresh (W : Wd b fs ls ps h) : ls h.objs.size = none := by
  cases q : ls h.objs.size with
  | none => rfl
  | some vs =>
    obtain ⟨n, e⟩ := (W.li _ _ q).1
    exact absurd (Heap.lt_size e) (Nat.lt_irrefl _)
theorem Wd.lt (W : Wd b fs ls ps h) (e : ls a = some vs) : a < h.objs.size := let ⟨_, q⟩ := (W.li _ _ e).1; Heap.lt_size q
theorem Wd.bfresh (W : Wd b fs ls ps h) : b.get? h.objs.size = none := none_of_stays W.keep (Heap.get?_none_of_le (Nat.le_refl _))

/-- a list object that the call made goes onto the ledger -/
theorem Wd.addList (W : Wd b fs ls ps h) {n : Nat} (hn : IsL h a vs.toArray n) (hb : b.get? a = none) : Wd b fs (upd ls a vs) ps h where
  keep := W.keep
  fr := W.fr
  nd := W.nd
  li := fun c us e => by
    unfold upd at e
    split at e
    · rename_i q
      cases e
      subst q
      exact ⟨⟨n, hn⟩, hb⟩
    · exact W.li c us e
  pi := W.pi
  pn := W.pn
theorem Wd.newList (W : Wd b fs ls ps h) (vs : List Value) : Wd b fs (upd ls h.objs.size vs) ps (h.push { cls := .type "list", data := .seq vs.toArray }) :=
  (W.push _).addList (IsL.new h vs.toArray) W.bfresh

theorem Wd.pin (W : Wd b fs ls ps h) (ho : h.get? a = some o) (hb : b.get? a = none) {ws : Array Value} (hd : o.data = .fields ws) (hn : ∀ p ∈ ps, p.1 ≠ a) : Wd b fs ls ((a, o) :: ps) h where
  keep := W.keep
  fr := W.fr
  nd := W.nd
  li := W.li
  pi := fun p hp => by
    rcases List.mem_cons.mp hp with rfl | hp
    · exact ⟨ho, hb, ws, hd⟩
    · exact W.pi p hp
  pn := List.nodup_cons.mpr ⟨fun q => by
    obtain ⟨p, hp, e⟩ := List.mem_map.mp q
    exact hn p hp e, W.pn⟩
theorem Wd.unpin {p : Addr × Obj} (W : Wd b fs ls (p :: ps) h) : Wd b fs ls ps h where
  keep := W.keep
  fr := W.fr
  nd := W.nd
  li := W.li
  pi := fun p hp => W.pi p (.tail _ hp)
  pn := (List.nodup_cons.mp W.pn).2
theorem Wd.pushPin (W : Wd b fs ls ps h) {o : Obj} {ws : Array Value} (hd : o.data = .fields ws) : Wd b fs ls ((h.objs.size, o) :: ps) (h.push o) :=
  (W.push o).pin (Heap.get?_push_size h (Obj.isFreed_of_fields hd)) W.bfresh hd fun p hp => Nat.ne_of_lt (Heap.lt_size (W.pi p hp).1)
/-- the topmost pinned record turns -/
theorem Wd.setPin (W : Wd b fs ls ((a, o) :: ps) h) (ho : h'.get? a = some o') {ws : Array Value} (hd : o'.data = .fields ws) (hs : Heap.ExtBut a h h') : Wd b fs ls ((a, o') :: ps) h' where
  keep := fun c x e => hs c x (ne_of_none (W.pi (a, o) (.head _)).2.1 e) (W.keep c x e)
  fr := fun p hp => ⟨(W.fr p hp).1.extBut hs fun z => W.ne_pin (W.fr p hp).1 (.head _) z.symm, (W.fr p hp).2⟩
  nd := W.nd
  li := fun c us e => ⟨let ⟨n, q⟩ := (W.li c us e).1; ⟨n, hs c _ (fun z => W.list_pin e (.head _) z.symm) q⟩, (W.li c us e).2⟩
  pi := fun p hp => by
    rcases List.mem_cons.mp hp with rfl | hp
    · exact ⟨ho, (W.pi (a, o) (.head _)).2.1, ws, hd⟩
    · have := W.pi p (.tail _ hp)
      exact ⟨hs _ _ (fun z => (List.nodup_cons.mp W.pn).1 (by rw [← z]; exact List.mem_map_of_mem (f := (·.1)) hp)) this.1, this.2⟩
  pn := W.pn
theorem Wd.losePin (W : Wd b fs ls ((a, o) :: ps) h) (hs : Heap.ExtBut a h h') : Wd b fs ls ps h' where
  keep := fun c x e => hs c x (ne_of_none (W.pi (a, o) (.head _)).2.1 e) (W.keep c x e)
  fr := fun p hp => ⟨(W.fr p hp).1.extBut hs fun z => W.ne_pin (W.fr p hp).1 (.head _) z.symm, (W.fr p hp).2⟩
  nd := W.nd
  li := fun c us e => ⟨let ⟨n, q⟩ := (W.li c us e).1; ⟨n, hs c _ (fun z => W.list_pin e (.head _) z.symm) q⟩, (W.li c us e).2⟩
  pi := fun p hp => by
    have := W.pi p (.tail _ hp)
    exact ⟨hs _ _ (fun z => (List.nodup_cons.mp W.pn).1 (by rw [← z]; exact List.mem_map_of_mem (f := (·.1)) hp)) this.1, this.2⟩
  pn := (List.nodup_cons.mp W.pn).2
/-- a new frame -/
theorem Wd.frame (W : Wd b fs ls ps h) (k : h.StaysIn h') (hn : h'.Ns h.objs.size m) : Wd b ((h.objs.size, m) :: fs) ls ps h' where
  keep := (W.grow k).keep
  fr := fun p hp => by
    rcases List.mem_cons.mp hp with rfl | hp
    · exact ⟨hn, W.bfresh⟩
    · exact (W.grow k).fr p hp
  nd := List.nodup_cons.mpr ⟨fun q => by
    obtain ⟨p, hp, e⟩ := List.mem_map.mp q
    exact absurd (W.fr p hp).1.lt (by rw [e]; exact Nat.lt_irrefl _), W.nd⟩
  li := (W.grow k).li
  pi := (W.grow k).pi
  pn := W.pn
theorem Wd.isList (W : Wd b fs ls ps h) (e : ls a = some vs) : h.IsList a vs.toArray := let ⟨_, q⟩ := (W.li _ _ e).1; IsL.isList q
end

/-! the rules -/
section
variable {prog : Program} {w : World} {A : Around} {E : Value → Shared → Prop} {s : Shared} {b : Heap} {fs : List (Addr × Fm)} {ls : Ls} {ps : List (Addr × Obj)} {m : Fm} {env : Env} {x : Str} {a : Addr} {vs : List Value}

theorem ldw {M : Model} {pos : Pos} {v : Value} {Q : Value → Shared → Prop} (W : Wd b ((env.locals, m) :: fs) ls ps s.heap) (hv : m x = some v) (h : Q v s)
    (hk : env.scope.kind = .function := by rfl) (hl : env.kindOf x = some .local := by rfl) (hd : (x == ("__debug__" : Str)) = false := by decide) :
    wpAny M A (eval (.Name x pos) env) Q E s := wpAny_Name (wpAny_loadName_local hk hl W.ns hv h) hd
theorem stw {M : Model} {v : Value} {L : Addr} {Q : Unit → Shared → Prop} (W : Wd b ((L, m) :: fs) ls ps s.heap)
    (h : ∀ h' tk, Wd b ((L, setm m x v) :: fs) ls ps h' → Q () { s with heap := h', toks := tk })
    (hL : env.locals = L := by rfl) (hk : env.scope.kind = .function := by rfl) (hl : env.kindOf x = some .local := by rfl) :
    wpAny M A (storeName env x v) Q E s := by
  subst hL
  exact wpAny_storeName_local hl W.ns (fun h' hn hs => h h' _ (W.setLocal hn hs)) (by rw [hk]; rfl)

theorem getw {k : Int} {t : Tok} {v : Value} {Q : Value → Shared → Prop} (W : Wd b fs ls ps s.heap) (e : ls a = some vs) (h0 : 0 ≤ k) (h1 : k < 2 ^ 63) (hx : vs[k.toNat]? = some v) (h : Q v s) :
    wpAny (model prog w) A (getItem (.ref a) (.int k t)) Q E s := wpAny_getItem_list (W.isList e) h0 h1 (by simpa using hx) h
theorem setw {k : Int} {t : Tok} {v : Value} {Q : Unit → Shared → Prop} (W : Wd b fs ls ps s.heap) (e : ls a = some vs) (h0 : 0 ≤ k) (h1 : k < 2 ^ 63) (hx : k < (vs.length : Int))
    (h : ∀ h', Wd b fs (upd ls a (vs.set k.toNat v)) ps h' → Q () { s with heap := h' }) : wpAny (model prog w) A (setItem (.ref a) (.int k t) v) Q E s := by
  obtain ⟨n, q⟩ := (W.li _ _ e).1
  refine ki_setAt q h0 h1 (by simpa using hx) (h _ ?_)
  have u := IsL.update q (·.setIfInBounds k.toNat v)
  rw [show vs.toArray.setIfInBounds k.toNat v = (vs.set k.toNat v).toArray from by simp] at u
  exact W.setList e u (Heap.SameBut.update ..)
theorem subw {value slice : PySem.Expr} {k : Int} {u : Tok} {v : Value} {Q : Value → Shared → Prop} (W : Wd b fs ls ps s.heap) (e : ls a = some vs) (h0 : 0 ≤ k) (h1 : k < 2 ^ 63) (hx : vs[k.toNat]? = some v) (h : Q v s)
    (hs : subscripted slice false (.ref a) (.int k u) = operate [.ref a, .int k u] (getItem (.ref a) (.int k u)) := by with_unfolding_all rfl) :
    wpAny (model prog w) A (subscriptTail value slice (.ref a) (.int k u)) Q E s :=
  tail_any (W.isList e).typeIs slot_list_getitem.lookup (getw W e h0 h1 hx h) hs
theorem lenw {Q : Value → Shared → Prop} (W : Wd b fs ls ps s.heap) (e : ls a = some vs) (hz : vs.length < 2 ^ 63) (h : ∀ t tk, Q (.int vs.length t) { s with toks := tk }) :
    wpAny (model prog w) A (call (.builtin "len") [.ref a]) Q E s :=
  call_len_list (W.isList e) (by simp; omega) (by simpa using h _ _)
theorem appendw {v : Value} {Q : Value → Shared → Prop} (W : Wd b fs ls ps s.heap) (e : ls a = some vs) (hz : vs.length ≤ sizeLine)
    (h : ∀ h', Wd b fs (upd ls a (vs ++ [v])) ps h' → Q .none { s with heap := h' }) : wpAny (model prog w) A (call (.builtin "list.append") [.ref a, v]) Q E s := by
  obtain ⟨n, q⟩ := (W.li _ _ e).1
  refine call_meets PySem.F.slot_list_append ⟨_, q, rfl⟩ PySem.F.entry_list_append (PySem.F.args_list_append_2 _ _) (PySem.list_append a vs.toArray n v (by simpa using hz)) ⟨q, h _ ?_⟩
  have u := IsL.update q (·.push v)
  rw [show vs.toArray.push v = (vs ++ [v]).toArray from by simp] at u
  exact W.setList e u (Heap.SameBut.update ..)
theorem popw {v : Value} {Q : Value → Shared → Prop} (W : Wd b fs ls ps s.heap) (e : ls a = some (vs ++ [v])) (hz : vs.length < sizeLine)
    (h : ∀ h', Wd b fs (upd ls a vs) ps h' → Q v { s with heap := h' }) : wpAny (model prog w) A (call (.builtin "list.pop") [.ref a]) Q E s := by
  obtain ⟨n, q⟩ := (W.li _ _ e).1
  refine call_meets PySem.F.slot_list_pop ⟨_, q, rfl⟩ PySem.F.entry_list_pop (PySem.F.args_list_pop_1 _) (PySem.MeetsSeq.list_pop_last a _ n v (by simp) (by simp; omega)) ⟨q, h _ ?_⟩
  have u := IsL.update q (fun xs => xs.eraseIdxIfInBounds ((vs ++ [v]).toArray.size - 1))
  have z : (vs ++ [v]).toArray.eraseIdxIfInBounds ((vs ++ [v]).toArray.size - 1) = vs.toArray := by
    apply Array.toList_inj.mp
    simp [List.eraseIdx_append_of_length_le]
  rw [z] at u
  exact W.setList e u (Heap.SameBut.update ..)
theorem truthw {Q : Bool → Shared → Prop} (W : Wd b fs ls ps s.heap) (e : ls a = some vs) (hz : vs.length < 2 ^ 63) (h : ∀ tk, Q (!vs.isEmpty) { s with toks := tk }) : wpAny (model prog w) A (truthy (.ref a)) Q E s :=
  wpAny_truthy_list (W.isList e) (by simp; omega) (by simpa using h _)
theorem neww {M : Model} {Q : Value → Shared → Prop} (W : Wd b fs ls ps s.heap) (hz : vs.length ≤ sizeLine) (h : ∀ D h', ls D = none → b.get? D = none → Wd b fs (upd ls D vs) ps h' → Q (.ref D) { s with heap := h' }) :
    wpAny M A (newList vs) Q E s := wpAny_newList (h _ _ W.fresh W.bfresh (W.newList vs)) hz
theorem addw {c : Addr} {us : List Value} {Q : Value → Shared → Prop} (W : Wd b fs ls ps s.heap) (e : ls a = some vs) (e' : ls c = some us) (hz : vs.length + us.length ≤ sizeLine)
    (h : ∀ D h', ls D = none → b.get? D = none → Wd b fs (upd ls D (vs ++ us)) ps h' → Q (.ref D) { s with heap := h' }) : wpAny (model prog w) A (binaryOp .Add (.ref a) (.ref c)) Q E s := by
  obtain ⟨n, q⟩ := (W.li _ _ e).1
  obtain ⟨n', q'⟩ := (W.li _ _ e').1
  refine P.add_list q q' ?_ (by simpa using hz)
  rw [show vs.toArray ++ us.toArray = (vs ++ us).toArray from by simp]
  exact h _ _ W.fresh W.bfresh (W.newList _)
end

/-- what stays of the top -/
structure Cx (w : World) (mg mb : Fm) (b : Heap) : Prop where
  X : (Mine.hd.heap_39 w.params).In b
  T : TopRead Mine.hd.view_39 (looseW Mine.hd.view_39 []) mg mb b

section
variable {prog : Program} {w : World} {A : Around} {E : Value → Shared → Prop} {s : Shared} {b : Heap} {fs : List (Addr × Fm)} {ls : Ls} {ps : List (Addr × Obj)} {m mg mb : Fm} {x : Str} {a : Addr} {vs : List Value}
  {L : Addr} {cn : Str} {cs : Scope} {ccd : Value}

theorem glw {M : Model} {pos : Pos} {v : Value} {Q : Value → Shared → Prop} (C : Cx w mg mb b) (W : Wd b fs ls ps s.heap) (e : nsIn (Mine.hd.heap_39 w.params) mainGlobals x = some (some v)) (h : Q v s)
    (hk : cs.kind = .function := by rfl) (hx : (envOf cn cs L a ccd).kindOf x = some .globalImplicit := by rfl) (hd : (x == ("__debug__" : Str)) = false := by decide) :
    wpAny M A (eval (.Name x pos) (envOf cn cs L a ccd)) Q E s :=
  Calls.Name_function_global hk hx (Calls.loadGlobal_global (env := envOf cn cs L a ccd) (C.T.g.keeps W.keep) (mg_of C.X C.T.g e) h) hd
theorem blw {M : Model} {pos : Pos} {v : Value} {Q : Value → Shared → Prop} (C : Cx w mg mb b) (W : Wd b fs ls ps s.heap) (e : nsIn (Mine.hd.heap_39 w.params) mainGlobals x = some none) (hv : bootBuiltins x = some v) (hn : x ≠ "__name__") (h : Q v s)
    (hk : cs.kind = .function := by rfl) (hx : (envOf cn cs L a ccd).kindOf x = some .globalImplicit := by rfl) (hd : (x == ("__debug__" : Str)) = false := by decide) :
    wpAny M A (eval (.Name x pos) (envOf cn cs L a ccd)) Q E s :=
  Calls.Name_function_global hk hx (Calls.loadGlobal_builtin (env := envOf cn cs L a ccd) (C.T.g.keeps W.keep) (mg_none_of C.X C.T.g e) (C.T.b.keeps W.keep) ((C.T.builtins x hn).trans hv) h) hd

theorem Cx.at {h : Heap} (C : Cx w mg mb b) (W : Wd b fs ls ps h) : (Mine.hd.heap_39 w.params).In h := C.X.keeps W.keep

theorem callw {f : Addr} {args : List Value} {binds : List (Str × Value)} {name qual : Str} {params : Arguments} {body : List Stmt} {scope : Scope} {dV kV doc pm cdv ct oc : Value} {an od : Option Addr} {osl : Array (Option Value)} {Q : Value → Shared → Prop}
    (C : Cx w mg mb b) (W : Wd b fs ls ps s.heap) (ho : (Mine.hd.heap_39 w.params).lookup f = some ⟨oc, od, .func (fnOf name qual params body scope dV kV doc pm an cdv ct), osl⟩) (hcd : codeIn (Mine.hd.heap_39 w.params) cdv qual = true) (hroom : A.depth < recursionLimit)
    (hbind : BindsTo s (fnOf name qual params body scope dV kV doc pm an cdv ct) ⟨args, []⟩ binds) (hloc : ∀ y ∈ binds, scope.names.lookup y.1 = some .local)
    (h : ∀ L' h₁ tk, Wd b ((L', fun y => binds.reverse.lookup y) :: fs) ls ps h₁ →
      wpAny (model prog w) (A.deeper (envOf qual scope L' f cdv)) (execs body (envOf qual scope L' f cdv)) (fun fl s' => Q (match fl with | .ret v => v | _ => .none) s')
        (fun e s' => wpAny (model prog w) (A.deeper (envOf qual scope L' f cdv)) (leaving (envOf qual scope L' f cdv) e) (fun _ s'' => E e s'') (fun e' s'' => E e' s'') s') { s with heap := h₁, toks := tk })
    (hco : scope.isCoroutine = false) (hgen : scope.isGenerator = false) (hk : scope.kind = .function) (hcell : ∀ x ∈ scope.names, x.2 ≠ .cell) :
    wpAny (model prog w) A (call (.ref f) args) Q E s :=
  wpAny_call (codeAny_call_def (fd := fnOf name qual params body scope dV kV doc pm an cdv ct) (body := body) (binds := binds) hroom (C.at W _ _ ho) rfl (C.T.nolimit.keeps W.keep) (codeRec_of (C.at W) hcd) rfl hbind hcell hloc
    (fun h₁ hns hk₁ => h _ h₁ _ (W.frame hk₁ hns)) hco hgen hk)

theorem cww {M : Model} {pos : Pos} {f : Value} {first : List Value} {env : Env} {e : Expr} {rest : List Expr} {Q : Value → Shared → Prop} (C : Cx w mg mb b) (hk : keepIn (Mine.hd.heap_39 w.params) f = true)
    (h : wpAny M A (spliced (backTo pos (starEach (e :: rest) env))) (fun vs s₁ => (Mine.hd.heap_39 w.params).In s₁.heap ∧ wpAny M A (call f (first ++ vs)) Q E s₁) E s)
    (he : starEach (e :: rest) env = (false, eval e env) :: starEach rest env := by rfl) (hplain : (backTo pos (starEach rest env)).any (·.1) = false := by rfl) :
    wpAny M A (callWith pos f first (backTo pos (starEach (e :: rest) env)) []) Q E s := callWith_K C.X hk h he hplain
end
section
open PySem.AutoSeq1 (wpAny_loadPart')
open PySem.MeetsSeq3 (plain_eq_loop entry_eq_loop)

theorem lt_end (l c : Addr) (v v' : Value) (n n2 : Nat) :
    Meets (Builtin.«list.__eq__.loop» ⟨[.ref l, .ref c, rawInt 1, rawInt 0], []⟩)
      (fun _ R s => IsL s.heap l #[v] n ∧ IsL s.heap c #[v'] n2 ∧ R (.ok (.ret (.bool false))) s) := by
  intro prog w A R s h
  obtain ⟨hp, g, d, tk, os⟩ := s; obtain ⟨hl, hb, h⟩ := h
  wp_walk using wpAny_loadPart' hl, wpAny_loadPart' hb
  exact h

theorem lt_loop (l c : Addr) (x y : Int) (t u : Tok) (n n2 : Nat) :
    Meets (Builtin.«list.__eq__.loop» ⟨[.ref l, .ref c, rawInt 0, rawInt 0], []⟩)
      (fun _ R s => IsL s.heap l #[.int x t] n ∧ IsL s.heap c #[.int y u] n2 ∧ R (.ok (.ret (.bool (decide (x < y))))) s) := by
  intro prog w A R s h
  obtain ⟨hp, g, d, tk, os⟩ := s; obtain ⟨hl, hb, h⟩ := h
  wp_walk using wpAny_loadPart' hl, wpAny_loadPart' hb
  show wpAny _ _ (eqBool (.int x t) (.int y u)) _ _ _
  refine wpAny_eqBool_int ?_
  by_cases e : x = y
  · subst e
    simp only [beq_self_eq_true, if_true]
    wp_walk
    refine ⟨plainId_quiet plain_eq_loop _, codeAny_builtin entry_eq_loop ?_⟩
    rw [Around.under_plainId plain_eq_loop _]
    refine lt_end l c (.int x t) (.int x u) n n2 prog w A R _ ⟨hl, hb, ?_⟩
    simpa using h
  · rw [show (x == y) = false from by simpa using e]
    simp only [Bool.false_eq_true, if_false]
    refine wpAny_bind (wpAny_listItems hl rfl (wpAny_bind (wpAny_listItems hb rfl ?_)))
    refine wpAny_bind (m := richCompare .Lt (.int x t) (.int y u)) (wpAny_lt_int ?_)
    exact wpAny_pure h

theorem list_lt (l c : Addr) (x y : Int) (t u : Tok) (n n2 : Nat) :
    Meets (Builtin.«list.__lt__» ⟨[.ref l, .ref c], []⟩)
      (fun _ R s => IsL s.heap l #[.int x t] n ∧ IsL s.heap c #[.int y u] n2 ∧ R (.ok (.ret (.bool (decide (x < y))))) s) := by
  intro prog w A R s h
  obtain ⟨hp, g, d, tk, os⟩ := s; obtain ⟨hl, hb, h⟩ := h
  have f3 := AutoSeq1.sub_list_list
  wp_walk using wpAny_loadPart' hl, wpAny_loadPart' hb
  refine ⟨plainId_quiet plain_eq_loop _, codeAny_builtin entry_eq_loop ?_⟩
  rw [Around.under_plainId plain_eq_loop _]
  exact lt_loop l c x y t u n n2 prog w A R _ ⟨hl, hb, h⟩
end

section
variable {prog : Program} {w : World} {A : Around} {E : Value → Shared → Prop} {s : Shared} {b : Heap} {fs : List (Addr × Fm)} {ls : Ls} {ps : List (Addr × Obj)} {a c : Addr}
theorem ltw {x y : Int} {t u : Tok} {Q : Value → Shared → Prop} (W : Wd b fs ls ps s.heap) (e : ls a = some [.int x t]) (e' : ls c = some [.int y u]) (hu : A.units < cLine)
    (h : Q (.bool (decide (x < y))) s) : wpAny (model prog w) A (compareOp .Lt (.ref a) (.ref c)) Q E s := by
  obtain ⟨n, q⟩ := (W.li _ _ e).1
  obtain ⟨n', q'⟩ := (W.li _ _ e').1
  refine cmp_ofLt (wpAny_richCompare_same_room (op := .Lt) (T := "list") ⟨_, q, rfl⟩ ⟨_, q', rfl⟩ PySem.F.slot_list_lt ?_ hu)
  exact call_meets PySem.F.slot_list_lt ⟨_, q, rfl⟩ PySem.F.entry_list_lt (PySem.F.args_list_lt_2 _ _) (list_lt a c x y t u n n') ⟨q, q', (fun z => by cases z), h⟩
end
def Nxt (I : Nat → Shared → Prop) (n : Nat) (s : Shared) : Prop := ∃ k, k < n ∧ I k s
section
variable {prog : Program} {w : World} {A : Around} {E : Value → Shared → Prop} {s : Shared} {env : Env}
theorem whilew {test : Expr} {body : List Stmt} {pos : Pos} {Q : Flow → Shared → Prop} (I : Nat → Shared → Prop)
    (turn : ∀ n s, I n s → wpAny (model prog w) A (isTrue test env (eval test env)) (fun c s₂ => if c = true then
        wpAny (model prog w) A (execs body env) (fun f s₃ => match f with
          | .next => Nxt I n s₃
          | .cont => Nxt I n s₃
          | .brk => Q .next s₃
          | .ret v => Q (.ret v) s₃) (fun _ _ => False) s₂
      else Q .next s₂) (fun _ _ => False) s)
    (n : Nat) (h : I n s) : wpAny (model prog w) A (exec (.While test body [] pos) env) Q E s := by
  have hE : PassesOwn (model prog w) A env (fun _ _ => False) := fun _ _ x => x.elim
  have all : ∀ n s, I n s → WhlRest prog w A (fun _ _ => False) env test body [] Q 0 s := by
    intro n
    induction n using Nat.strongRecOn with
    | ind n ih =>
      intro s hI
      refine whl_turn (k := 0) hE (wpAny_mono (turn n s hI) (fun c s₂ h₂ => ?_) fun _ _ x => x)
      cases c with
      | true =>
        refine WhlIf.yes rfl (wpAny_mono h₂ (fun f s₃ h₃ => ?_) fun _ _ x => x)
        cases f with
        | next => obtain ⟨k, hk, hI'⟩ := h₃; exact ih k hk _ hI'
        | cont => obtain ⟨k, hk, hI'⟩ := h₃; exact ih k hk _ hI'
        | brk => exact h₃
        | ret v => exact h₃
      | false => exact WhlIf.no rfl (wpAny_execs_nil h₂)
  exact wpAny_mono (whl_start 0 (all n s h)) (fun _ _ x => x) fun _ _ x => x.elim
end

/-! the plain functions -/
noncomputable def sdLoop (lt : Nat → Nat → Bool) (start new : Nat) : Nat → List Nat → Nat → List Nat
  | 0, hp, pos => hp.set pos new
  | f + 1, hp, pos => if start < pos then (if lt new (hp.getD ((pos - 1) / 2) 0) = true then sdLoop lt start new f (hp.set pos (hp.getD ((pos - 1) / 2) 0)) ((pos - 1) / 2) else hp.set pos new) else hp.set pos new
noncomputable def sdA (lt : Nat → Nat → Bool) (hp : List Nat) (start pos : Nat) : List Nat := sdLoop lt start (hp.getD pos 0) pos hp pos
def suChild (lt : Nat → Nat → Bool) (hp : List Nat) (pos : Nat) : Nat :=
  if 2 * pos + 2 < hp.length then (if lt (hp.getD (2 * pos + 1) 0) (hp.getD (2 * pos + 2) 0) = true then 2 * pos + 1 else 2 * pos + 2) else 2 * pos + 1
noncomputable def suLoop (lt : Nat → Nat → Bool) : Nat → List Nat → Nat → List Nat × Nat
  | 0, hp, pos => (hp, pos)
  | f + 1, hp, pos => if 2 * pos + 1 < hp.length then suLoop lt f (hp.set pos (hp.getD (suChild lt hp pos) 0)) (suChild lt hp pos) else (hp, pos)
noncomputable def suA (lt : Nat → Nat → Bool) (hp : List Nat) (pos : Nat) : List Nat :=
  sdA lt ((suLoop lt hp.length hp pos).1.set (suLoop lt hp.length hp pos).2 (hp.getD pos 0)) pos (suLoop lt hp.length hp pos).2

theorem getD_mem {hp : List Nat} {k : Nat} (h : k < hp.length) : hp.getD k 0 ∈ hp := by
  rw [List.getD_eq_getElem?_getD, List.getElem?_eq_getElem h]
  exact List.getElem_mem h
theorem getD_get {hp : List Nat} {k : Nat} (h : k < hp.length) : hp[k]? = some (hp.getD k 0) := by
  rw [List.getD_eq_getElem?_getD, List.getElem?_eq_getElem h]
  rfl
theorem mem_set' {hp : List Nat} {k x y : Nat} (h : y ∈ hp.set k x) : y = x ∨ y ∈ hp := (List.mem_or_eq_of_mem_set h).symm
theorem sdLoop_len {lt : Nat → Nat → Bool} {start new : Nat} : ∀ (f : Nat) (hp : List Nat) (pos : Nat), (sdLoop lt start new f hp pos).length = hp.length
  | 0, hp, pos => List.length_set ..
  | f + 1, hp, pos => by
    unfold sdLoop
    split
    · split
      · rw [sdLoop_len f]; exact List.length_set ..
      · exact List.length_set ..
    · exact List.length_set ..
theorem sdLoop_mem {lt : Nat → Nat → Bool} {start new x : Nat} : ∀ (f : Nat) (hp : List Nat) (pos : Nat), pos < hp.length → x ∈ sdLoop lt start new f hp pos → x = new ∨ x ∈ hp
  | 0, hp, pos, _, h => mem_set' h
  | f + 1, hp, pos, hl, h => by
    unfold sdLoop at h
    split at h
    · split at h
      · rcases sdLoop_mem f _ _ (by rw [List.length_set]; omega) h with e | e
        · exact .inl e
        · rcases mem_set' e with e | e
          · exact .inr (e ▸ getD_mem (by omega))
          · exact .inr e
      · exact mem_set' h
    · exact mem_set' h
theorem sdA_len {lt : Nat → Nat → Bool} {hp : List Nat} {start pos : Nat} : (sdA lt hp start pos).length = hp.length := sdLoop_len ..
theorem sdA_mem {lt : Nat → Nat → Bool} {hp : List Nat} {start pos x : Nat} (hl : pos < hp.length) (h : x ∈ sdA lt hp start pos) : x ∈ hp := by
  rcases sdLoop_mem _ _ _ hl h with e | e
  · exact e ▸ getD_mem hl
  · exact e
theorem suChild_lt {lt : Nat → Nat → Bool} {hp : List Nat} {pos : Nat} (h : 2 * pos + 1 < hp.length) : suChild lt hp pos < hp.length ∧ pos < suChild lt hp pos := by
  unfold suChild
  split
  · split <;> omega
  · omega
theorem suLoop_len {lt : Nat → Nat → Bool} : ∀ (f : Nat) (hp : List Nat) (pos : Nat), pos < hp.length → (suLoop lt f hp pos).1.length = hp.length ∧ (suLoop lt f hp pos).2 < hp.length
  | 0, hp, pos, h => ⟨rfl, h⟩
  | f + 1, hp, pos, h => by
    unfold suLoop
    split
    · rename_i q
      have := suLoop_len (lt := lt) f (hp.set pos (hp.getD (suChild lt hp pos) 0)) (suChild lt hp pos) (by rw [List.length_set]; exact (suChild_lt q).1)
      rw [List.length_set] at this
      exact this
    · exact ⟨rfl, h⟩
theorem suLoop_mem {lt : Nat → Nat → Bool} {x : Nat} : ∀ (f : Nat) (hp : List Nat) (pos : Nat), x ∈ (suLoop lt f hp pos).1 → x ∈ hp
  | 0, hp, pos, h => h
  | f + 1, hp, pos, h => by
    unfold suLoop at h
    split at h
    · rename_i q
      rcases mem_set' (suLoop_mem f _ _ h) with e | e
      · exact e ▸ getD_mem (suChild_lt q).1
      · exact e
    · exact h
theorem suA_len {lt : Nat → Nat → Bool} {hp : List Nat} {pos : Nat} (h : pos < hp.length) : (suA lt hp pos).length = hp.length := by
  unfold suA
  rw [sdA_len, List.length_set]
  exact (suLoop_len _ _ _ h).1
theorem suA_mem {lt : Nat → Nat → Bool} {hp : List Nat} {pos x : Nat} (h : pos < hp.length) (hx : x ∈ suA lt hp pos) : x ∈ hp := by
  have l := suLoop_len (lt := lt) hp.length hp pos h
  rcases mem_set' (sdA_mem (by rw [List.length_set, l.1]; exact l.2) hx) with e | e
  · exact e ▸ getD_mem h
  · exact suLoop_mem _ _ _ e

/-! the items: the lists of one number -/
def V (adr : Nat → Addr) (i : Nat) : Value := .ref (adr i)
def It (adr : Nat → Addr) (key : Nat → Int) (n : Nat) (ls : Ls) : Prop := ∀ i, i < n → ∃ t, ls (adr i) = some [.int (key i) t]
theorem It.ne {adr : Nat → Addr} {key : Nat → Int} {n : Nat} {ls : Ls} (I : It adr key n ls) {H : Addr} {hp : List Nat} (e : ls H = some (hp.map (V adr))) {i : Nat} (h : i < n) : adr i ≠ H := fun z => by
  obtain ⟨t, q⟩ := I i h
  rw [z, e] at q
  have q := Option.some.inj q
  cases hp with
  | nil => cases q
  | cons x r => rw [List.map_cons] at q; cases (List.cons.inj q).1
theorem It.upd {adr : Nat → Addr} {key : Nat → Int} {n : Nat} {ls : Ls} (I : It adr key n ls) {H : Addr} {vs : List Value} (h : ∀ i, i < n → adr i ≠ H) : It adr key n (upd ls H vs) := fun i q => by
  obtain ⟨t, e⟩ := I i q
  exact ⟨t, by rw [upd_ne (h i q)]; exact e⟩

theorem map_get {adr : Nat → Addr} {hp : List Nat} {k : Int} {j : Nat} (e : k = j) (h : j < hp.length) : (hp.map (V adr))[k.toNat]? = some (V adr (hp.getD j 0)) := by
  subst e
  rw [List.getElem?_map, Int.toNat_natCast, getD_get h]
  rfl
theorem map_set {adr : Nat → Addr} {hp : List Nat} {k : Int} {j x : Nat} (e : k = j) : (hp.map (V adr)).set k.toNat (V adr x) = (hp.set j x).map (V adr) := by
  subst e
  rw [Int.toNat_natCast, List.map_set]
section
variable {prog : Program} {w : World} {A : Around} {E : Value → Shared → Prop} {s : Shared} {b : Heap} {fs : List (Addr × Fm)} {ls : Ls} {ps : List (Addr × Obj)} {H : Addr} {adr : Nat → Addr} {hp : List Nat} {k : Int} {j : Nat}
theorem shr1 {p : Nat} {t u : Tok} {Q : Value → Shared → Prop} (h0 : 0 < p) (h : ∀ tk, Q (.int (((p - 1) / 2 : Nat) : Int) s.toks) { s with toks := tk }) :
    wpAny (model prog w) A (binaryOp .RShift (.int ((p : Int) - 1) t) (.int 1 u)) Q E s := by
  refine wpAny_rshift1_int (by omega) ?_
  rw [show ((p : Int) - 1) / 2 = (((p - 1) / 2 : Nat) : Int) from by omega]
  exact h _
theorem subh {value slice : PySem.Expr} {u : Tok} {Q : Value → Shared → Prop} (W : Wd b fs ls ps s.heap) (hH : ls H = some (hp.map (V adr))) (e : k = j) (hj : j < hp.length) (hlen : hp.length < 2 ^ 60) (h : Q (V adr (hp.getD j 0)) s)
    (hs : subscripted slice false (.ref H) (.int k u) = operate [.ref H, .int k u] (getItem (.ref H) (.int k u)) := by with_unfolding_all rfl) :
    wpAny (model prog w) A (subscriptTail value slice (.ref H) (.int k u)) Q E s := subw W hH (by omega) (by omega) (map_get e hj) h hs
theorem seth {t : Tok} {x : Nat} {Q : Unit → Shared → Prop} (W : Wd b fs ls ps s.heap) (hH : ls H = some (hp.map (V adr))) (e : k = j) (hj : j < hp.length) (hlen : hp.length < 2 ^ 60)
    (h : ∀ h', Wd b fs (Mine.upd ls H ((hp.set j x).map (V adr))) ps h' → Q () { s with heap := h' }) : wpAny (model prog w) A (setItem (.ref H) (.int k t) (V adr x)) Q E s :=
  setw W hH (by omega) (by omega) (by rw [List.length_map]; omega) fun h' W' => h h' (by rw [map_set e] at W'; exact W')
end
section
variable {α : Type} {M : Model} {A : Around} {E : Value → Shared → Prop} {s : Shared}
theorem raiseM {cls msg : String} {Q : α → Shared → Prop} (hp : PlainExc cls) (hh : A.handled = none)
    (h : ∀ h' tk e t, Heap.MadeExc s.heap h' e cls [.str msg t] → E (.ref e) { s with heap := h', toks := tk }) :
    wpAny M A (raiseErrorWords cls msg : Sem α) Q E s := by
  unfold raiseErrorWords
  refine wpAny_bind (wpAny_mkText (wpAny_bind (wpAny_newExc_plain hp fun h' e x => ?_)))
  exact wpAny_raiseNew_none hh (h _ _ _ _ x)
end

section
variable {prog : Program} {w : World} {A : Around} {E : Value → Shared → Prop} {s : Shared}
theorem getOutM {l : Addr} {items : Array Value} {k : Int} {t : Tok} {Q : Value → Shared → Prop} (hA : A.handled = none) (hl : s.heap.IsList l items)
    (hout : (items.size : Int) ≤ k) (hhi : k < 2 ^ 63)
    (hE : ∀ h' tk e t, Heap.MadeExc s.heap h' e "IndexError" [.str ("list index out of range" : String) t] → E (.ref e) { s with heap := h', toks := tk }) :
    wpAny (model prog w) A (getItem (.ref l) (.int k t)) Q E s := by
  obtain ⟨o, ho, hc, ne, hd⟩ := id hl
  unfold getItem
  try with_reducible refine wpAny_holding ?_
  first | refine wpAny_bind (wpAny_pure ?_) | skip
  refine wpAny_bind (wpAny_sequenceKey hl.typeIs (by decide) ?_)
  refine wpAny_bind (wpAny_callSpecial?_slot (name := Str.ofString "__getitem__") hl.typeIs slot_list_getitem
    (wpAny_call_entry slot_list_getitem hl.typeIs entry_list_getitem ?_ (args_list_getitem _ _)))
  show wpAny _ _ (Builtin.List.listSubscript? (.int k t) >>= _) _ _ s
  refine wpAny_bind (wpAny_listSubscript_int (fitsIndex_both (by omega) hhi) ?_)
  clear hhi
  obtain ⟨j, rfl⟩ := Int.eq_ofNat_of_zero_le (a := k) (by omega)
  have hx : items[j]? = none := Array.getElem?_eq_none (by omega)
  show wpAny _ _ ((seqItemAt l j >>= fun r => pure (r.map (j, ·))) >>= _) _ _ s
  refine wpAny_bind (wpAny_bind (wpAny_seqItemAt ho hd (wpAny_pure ?_)))
  rw [hx]
  first
    | exact wpAny_bind (wpAny_rule (raiseM plainExc_IndexError hA hE))
    | exact wpAny_bind (wpAny_rule (wpAny_bind (raiseM plainExc_IndexError hA hE)))
    | exact wpAny_bind (wpAny_bind (wpAny_rule (raiseM plainExc_IndexError hA hE)))
    | exact wpAny_rule (raiseM plainExc_IndexError hA hE)

theorem popEmptyM (l : Addr) (n : Nat) :
    Meets (Builtin.«list.pop» ⟨[.ref l], []⟩) (fun A R s => IsL s.heap l #[] n ∧ A.handled = none ∧ ∀ h' tk e t, Heap.MadeExc s.heap h' e "IndexError" [.str ("pop from empty list" : String) t] → R (.error (.ref e)) { s with heap := h', toks := tk }) := by
  intro prog w A R s h
  obtain ⟨hp, g, d, tk, os⟩ := s
  obtain ⟨hl, hA, h⟩ := h
  wp_walk using AutoSeq1.wpAny_loadPart' hl
  exact raiseM plainExc_IndexError hA h
end

/-- what the heap under an exception's flight still holds -/
structure Hold (B b : Heap) (ls : Ls) (ps : List (Addr × Obj)) : Prop where
  base : b.StaysIn B
  li : ∀ a vs, ls a = some vs → ∃ n, IsL B a vs.toArray n
  pi : ∀ p ∈ ps, B.get? p.1 = some p.2

section
variable {b h h' B : Heap} {fs : List (Addr × Fm)} {ls : Ls} {ps : List (Addr × Obj)} {L a : Addr} {m m' : Fm}
theorem Wd.fly (W : Wd b fs ls ps h) (T : Hold B b ls ps) (k : B.StaysIn h') (u : h.UpToSlots h') : Wd b fs ls ps h' where
  keep := fun c o e => k c o (T.base c o e)
  fr := fun p hp => ⟨u.ns (W.fr p hp).1, (W.fr p hp).2⟩
  nd := W.nd
  li := fun a vs e => ⟨let ⟨n, q⟩ := T.li a vs e; ⟨n, k _ _ q⟩, (W.li a vs e).2⟩
  pi := fun p hp => ⟨k _ _ (T.pi p hp), (W.pi p hp).2⟩
  pn := W.pn
theorem Wd.hold (W : Wd b fs ls ps h) : Hold (hideAll h (fs.map (·.1))) b ls ps where
  base := fun c o e => hideAll_get _ (W.keep c o e) fun q => by
    obtain ⟨p, hp, z⟩ := List.mem_map.mp q
    rw [← z, (W.fr p hp).2] at e
    cases e
  li := fun a vs e => by
    obtain ⟨n, q⟩ := (W.li a vs e).1
    refine ⟨n, hideAll_get _ q fun q' => ?_⟩
    obtain ⟨p, hp, z⟩ := List.mem_map.mp q'
    exact W.ne_list (W.fr p hp).1 e z.symm
  pi := fun p hp => hideAll_get _ (W.pi p hp).1 fun q' => by
    obtain ⟨r, hr, z⟩ := List.mem_map.mp q'
    exact W.ne_pin (W.fr r hr).1 hp z.symm
/-- the frames of the stack are the frames known -/
noncomputable def Fit : List Env → List (Addr × Fm) → Prop
  | [], [] => True
  | env :: envs, p :: fs => env.scope.kind ≠ .module ∧ env.frame = some p.1 ∧ Fit envs fs
  | _, _ => False
theorem Fit.fun {h B : Heap} : ∀ {envs : List Env} {fs : List (Addr × Fm)}, Fit envs fs → (∀ p ∈ fs, h.Ns p.1 p.2 ∧ B.get? p.1 = none) → h.FunFrames B envs
  | [], [], _, _ => trivial
  | env :: envs, p :: fs, ⟨x1, x2, x3⟩, H => by
    obtain ⟨⟨o, es, ep, ho, hd, _⟩, hb⟩ := H p (.head _)
    exact ⟨x1, ⟨p.1, o, x2, hb, ho, fun vs q => by rw [hd] at q; cases q⟩, Fit.fun x3 fun q hq => H q (.tail _ hq)⟩
  | [], _ :: _, h, _ => h.elim
  | _ :: _, [], h, _ => h.elim

/-- an IndexError with its words in flight -/
def Flew (b : Heap) (fs : List (Addr × Fm)) (ls : Ls) (ps : List (Addr × Obj)) (envs : List Env) (msg : String) (e : Addr) (h : Heap) : Prop :=
  Wd b fs ls ps h ∧ ∃ B t tk, Hold B b ls ps ∧ Heap.FlyingW B envs e (.type "IndexError") (.ref t) h ∧ h.TupAt t [.str msg tk]

theorem leavew {M : Model} {A : Around} {E : Value → Shared → Prop} {s : Shared} {env : Env} {envs : List Env} {e : Addr} {msg : String} {t : Tok} {Q : Unit → Shared → Prop}
    (W : Wd b ((L, m) :: fs) ls ps h) (hfr : A.frames = some envs) (ft : Fit envs fs) (hx : Heap.MadeExc h s.heap e "IndexError" [.str msg t])
    (hQ : ∀ h', Flew b fs ls ps envs msg e h' → Q () { s with heap := h' }) (hf : env.frame = some L := by rfl) (hk : env.scope.kind = .function := by rfl) :
    wpAny M (A.deeper env) (leaving env (.ref e)) Q E s := by
  have ft' : Fit (env :: envs) ((L, m) :: fs) := ⟨by rw [hk]; decide, hf, ft⟩
  refine wpAny_leaves_madeW (base := hideAll h (((L, m) :: fs).map (·.1))) (h := h) (Around.frames_deeper hfr) hf (fun b o q => of_hideAll _ q)
    (ft'.fun fun p hp => ⟨(W.fr p hp).1, hideAll_none _ (List.mem_map_of_mem hp)⟩) (Heap.MadeExc.of hx) fun h' t' x1 x2 x3 x4 => hQ h' ⟨?_, _, t', t, W.hold, x1, x2⟩
  exact (W.fly W.hold x1.1 ((Heap.UpToSlots.of_keeps hx.keeps).trans x4)).pop
end

section
variable {prog : Program} {w : World} {A : Around} {E : Value → Shared → Prop} {s : Shared} {b : Heap} {fs : List (Addr × Fm)} {ls : Ls} {ps : List (Addr × Obj)} {a : Addr} {vs : List Value}
theorem suboutw {value slice : PySem.Expr} {k : Int} {u : Tok} {Q : Value → Shared → Prop} (hA : A.handled = none) (W : Wd b fs ls ps s.heap) (e : ls a = some vs) (h0 : (vs.length : Int) ≤ k) (h1 : k < 2 ^ 63)
    (h : ∀ h' tk e t, Heap.MadeExc s.heap h' e "IndexError" [.str ("list index out of range" : String) t] → E (.ref e) { s with heap := h', toks := tk })
    (hs : subscripted slice false (.ref a) (.int k u) = operate [.ref a, .int k u] (getItem (.ref a) (.int k u)) := by with_unfolding_all rfl) :
    wpAny (model prog w) A (subscriptTail value slice (.ref a) (.int k u)) Q E s :=
  tail_any (W.isList e).typeIs slot_list_getitem.lookup (getOutM hA (W.isList e) (by simpa using h0) h1 h) hs
theorem popoutw {Q : Value → Shared → Prop} (hA : A.handled = none) (W : Wd b fs ls ps s.heap) (e : ls a = some [])
    (h : ∀ h' tk e t, Heap.MadeExc s.heap h' e "IndexError" [.str ("pop from empty list" : String) t] → E (.ref e) { s with heap := h', toks := tk }) :
    wpAny (model prog w) A (call (.builtin "list.pop") [.ref a]) Q E s := by
  obtain ⟨n, q⟩ := (W.li _ _ e).1
  exact call_meets PySem.F.slot_list_pop ⟨_, q, rfl⟩ PySem.F.entry_list_pop (PySem.F.args_list_pop_1 _) (popEmptyM a n) ⟨q, hA, h⟩
end
/-! reversed(range(n)), loops over ranges -/
abbrev rit (x left step : Int) : Obj := { cls := .type "range_iterator", dict := none, data := .fields #[rawInt x, rawInt left, rawInt step], slots := #[] }

section
variable {prog : Program} {w : World} {A : Around} {E : Value → Shared → Prop} {s : Shared}
theorem rangeFields_of {r : Addr} {a b c : Int} {t u v : Tok} {Q : Int × Int × Int → Shared → Prop} (hr : IsRange s.heap r a b c t u v) (h : Q (a, b, c) s) : wpAny (model prog w) A (Builtin.Range.rangeFields (.ref r)) Q E s := by
  unfold Builtin.Range.rangeFields
  refine wpAny_bind (wpAny_field hr rfl (x := .int a t) rfl ?_)
  refine wpAny_bind (wpAny_of_eq (a := some a) rfl ?_)
  refine wpAny_bind (wpAny_field hr rfl (x := .int b u) rfl ?_)
  refine wpAny_bind (wpAny_of_eq (a := some b) rfl ?_)
  refine wpAny_bind (wpAny_field hr rfl (x := .int c v) rfl ?_)
  refine wpAny_bind (wpAny_of_eq (a := some c) rfl ?_)
  exact wpAny_pure h

theorem call_range_reversed {r : Addr} {n : Nat} {t u v : Tok} {Q : Value → Shared → Prop} (hn : (n : Int) < 2 ^ 62) (hr : IsRange s.heap r 0 n 1 t u v)
    (h : Q (.ref s.heap.objs.size) { s with heap := s.heap.push (rit ((n : Int) - 1) n (-1)) }) : wpAny (model prog w) A (call (.builtin "range.__reversed__") [.ref r]) Q E s := by
  have hT : s.TypeIs (.ref r) "range" := ⟨_, hr, rfl⟩
  refine wpAny_call_entry F.slot_range_reversed hT F.entry_range_reversed ?_ (F.args_range_reversed_1 _)
  unfold Builtin.«range.__reversed__»
  refine wpAny_bind (wpAny_of_eq (a := Value.ref r) rfl ?_)
  refine wpAny_bind (rangeFields_of hr ?_)
  have e1 : Builtin.Range.rangeSize 0 (n : Int) 1 = n := by rw [rangeSize_one]; split <;> omega
  have e2 : (Builtin.Range.rangeFitsLong 0 && Builtin.Range.rangeFitsLong (n : Int) && Builtin.Range.rangeFitsLong 1 && Builtin.Range.rangeFitsLong (-1) && Builtin.Range.rangeFitsLong (0 - 1) && Builtin.Range.rangeFitsLong (n : Int)) = true := by
    simp only [Builtin.Range.rangeFitsLong, Bool.and_eq_true, decide_eq_true_eq]
    omega
  dsimp only
  rw [e1, e2]
  simp only [Bool.not_true, Bool.false_eq_true, if_false, if_true]
  have e3 : (0 : Int) + (↑n - 1) * 1 = ↑n - 1 := by omega
  rw [e3]
  exact wpAny_bind (wpAny_newObj_type (wpAny_pure ⟨_, rfl, h⟩))

theorem code_reversed_range {r : Addr} {n : Nat} {t u v : Tok} {Q₁ : Value → Shared → Prop} (hn : (n : Int) < 2 ^ 62) (hr : IsRange s.heap r 0 n 1 t u v)
    (h : Q₁ (.ref s.heap.objs.size) { s with heap := s.heap.push (rit ((n : Int) - 1) n (-1)) }) :
    codeAny (model prog w) A (.call (.builtin "reversed.__new__") ⟨[.type "reversed", .ref r], []⟩) (wants Q₁ E) s := by
  have hT : s.TypeIs (.ref r) "range" := ⟨_, hr, rfl⟩
  refine codeAny_of_tree ?_
  show wpAny _ A.in1 (do checkBuiltinCall "reversed.__new__" ⟨[.type "reversed", .ref r], []⟩; again (.builtin "reversed.__new__" ⟨[.type "reversed", .ref r], []⟩)) _ _ s
  refine wpAny_bind (wpAny_of_eq (F.newCall_reversed_1 _) (wpAny_pure ⟨plainId_quiet F.plain_reversed_new _, codeAny_builtin F.entry_reversed_new ?_⟩))
  rw [Around.under_plainId F.plain_reversed_new _]
  unfold Builtin.«reversed.__new__»
  refine wpAny_bind (wpAny_of_eq (newClass_reversed _) ?_)
  try dsimp only
  refine wpAny_bind (wpAny_of_eq (a := ()) (by first | rfl | kernel_rfl) ?_)
  refine wpAny_bind (wpAny_of_eq (a := ()) (by first | rfl | kernel_rfl) ?_)
  try dsimp only
  refine wpAny_bind (wpAny_specialOf hT F.slot_range_reversed.lookup ?_)
  try dsimp only
  refine wpAny_bind (wpAny_of_eq (F.slot_range_reversed.bind _) ?_)
  try dsimp only
  first
  | rw [if_neg (show ¬ ((Value.builtin "range.__reversed__" == Value.none) = true) from Bool.false_ne_true)]
  | (show wpAny _ _ (if (Value.builtin "range.__reversed__" == Value.none) = true then _ else _) _ _ _; rw [if_neg (show ¬ ((Value.builtin "range.__reversed__" == Value.none) = true) from Bool.false_ne_true)])
  refine wpAny_bind (wpAny_rule ?_)
  refine wpAny_bind (m := runValue (.call (.builtin "range.__reversed__") ⟨[.ref r], []⟩)) (show wpAny _ _ (call (.builtin "range.__reversed__") [.ref r]) _ _ _ from call_range_reversed hn hr ?_)
  first
  | exact wpAny_pure h
  | exact wpAny_bind (wpAny_pure (wpAny_pure h))

theorem sub_ri_reversed : isSubtype (.type "range_iterator") (.type "reversed") = pure false := by rw [isSubtype_type]; kernel_rfl
theorem call_reversed_range {r : Addr} {n : Nat} {t u v : Tok} {Q : Value → Shared → Prop} (hn : (n : Int) < 2 ^ 62) (hr : IsRange s.heap r 0 n 1 t u v)
    (h : Q (.ref s.heap.objs.size) { s with heap := s.heap.push (rit ((n : Int) - 1) n (-1)) }) : wpAny (model prog w) A (call (.type "reversed") [.ref r]) Q E s := by
  refine callType_other (U := "range_iterator") (Q₁ := fun obj s₁ => obj = .ref s.heap.objs.size ∧ s₁ = { s with heap := s.heap.push (rit ((n : Int) - 1) n (-1)) }) (by decide +kernel) F.create_reversed ⟨_, _, F.mro_reversed⟩ F.made_reversed sub_ri_reversed (F.typeCall_reversed_1 _) (code_reversed_range hn hr ⟨rfl, rfl⟩) ?_
  rintro obj s₁ ⟨rfl, rfl⟩
  exact ⟨⟨_, Heap.get?_push_size _ rfl, rfl⟩, h⟩
end

section
variable {prog : Program} {w : World} {A : Around} {E : Value → Shared → Prop} {s : Shared} {b : Heap} {fs : List (Addr × Fm)} {ls : Ls} {ps : List (Addr × Obj)} {m : Fm} {env : Env} {L it : Addr}

/-- the state at a turn's end -/
def Turned (b : Heap) (fs : List (Addr × Fm)) (ps : List (Addr × Obj)) (s₀ : Shared) (L : Addr) (J : Fm → Ls → Prop) (s : Shared) : Prop :=
  ∃ h' tk m' ls', s = { s₀ with heap := h', toks := tk } ∧ Wd b ((L, m') :: fs) ls' ps h' ∧ J m' ls'

theorem forw {x : Str} {px : Pos} {body : List Stmt} {a step : Int} {n : Nat} {Q : Flow → Shared → Prop} (hh : A.handled = none) (W : Wd b ((L, m) :: fs) ls ((it, rit a n step) :: ps) s.heap) (J : Nat → Fm → Ls → Prop) (h0 : J 0 m ls)
    (turn : ∀ i h' tk tk' m' ls', i < n → J i m' ls' → Wd b ((L, setm m' x (.int (a + i * step) tk')) :: fs) ls' ((it, rit (a + (i + 1 : Nat) * step) (((n - (i + 1) : Nat)) : Int) step) :: ps) h' →
      wpAny (model prog w) A (execs body env) (fun f s₃ => match f with
        | .next => Turned b fs ((it, rit (a + (i + 1 : Nat) * step) (((n - (i + 1) : Nat)) : Int) step) :: ps) s L (J (i + 1)) s₃
        | .cont => Turned b fs ((it, rit (a + (i + 1 : Nat) * step) (((n - (i + 1) : Nat)) : Int) step) :: ps) s L (J (i + 1)) s₃
        | _ => False) (fun _ _ => False) { s with heap := h', toks := tk })
    (fin : ∀ h' tk m' ls', J n m' ls' → Wd b ((L, m') :: fs) ls' ps h' → Q .next { s with heap := h', toks := tk })
    (hL : env.locals = L := by rfl) (hk : env.scope.kind = .function := by rfl) (hx : env.kindOf x = some .local := by rfl) :
    codeAny (model prog w) A (.forLoop (.Name x px) (.ref it) body [] env) (fun r s' => match r with | .ok f => Q f s' | .error e => cameBackBy (model prog w) A env E e s') s := by
  subst hL
  refine codeAny_forLoop (fun k s' => ∃ i, k = n - i ∧ i ≤ n ∧ Turned b fs ((it, rit (a + (i : Nat) * step) (((n - i : Nat)) : Int) step) :: ps) s env.locals (J i) s') ?_ n
    ⟨0, rfl, Nat.zero_le _, s.heap, s.toks, m, ls, rfl, by simpa using W, h0⟩
  rintro k s' ⟨i, rfl, hi, h', tk, m', ls', rfl, W', hJ⟩
  have hit : IsRangeIter h' it (a + (i : Nat) * step) (((n - i : Nat)) : Int) step := (W'.pi _ (.head _)).1
  by_cases hlt : i < n
  · refine wpAny_pyNext_range_item hit (by omega) fun h₁ hit₁ hs₁ => ?_
    have e1 : a + (i : Int) * step + step = a + ((i + 1 : Nat) : Int) * step := by
      rw [show ((i + 1 : Nat) : Int) = (i : Int) + 1 from by omega, Int.add_mul]
      omega
    have e2 : ((n - i : Nat) : Int) - 1 = ((n - (i + 1) : Nat) : Int) := by omega
    rw [e1, e2] at hit₁
    have W₁ := W'.setPin hit₁ rfl hs₁.extBut
    refine wpAny_assign_Name (stw W₁ ?_ rfl hk hx)
    intro h₂ tk₂ W₂
    refine wpAny_mono (turn i h₂ tk₂ _ m' ls' hlt hJ W₂) (fun f s₃ h₃ => ?_) fun _ _ x => x.elim
    cases f with
    | next => exact ⟨n - (i + 1), by omega, i + 1, rfl, hlt, h₃⟩
    | cont => exact ⟨n - (i + 1), by omega, i + 1, rfl, hlt, h₃⟩
    | brk => exact h₃.elim
    | ret v => exact h₃.elim
  · have : i = n := by omega
    subst this
    exact wpAny_pyNext_range_end hh hit (by omega) fun h₁ he₁ => wpAny_execs_nil (fin h₁ tk m' ls' hJ (W'.losePin he₁))

theorem rangew1 {n : Int} {t : Tok} {Q : Value → Shared → Prop} (W : Wd b fs ls ps s.heap)
    (h : ∀ r t' v h' tk, IsRange h' r 0 n 1 t' t v → Wd b fs ls ps h' → Q (.ref r) { s with heap := h', toks := tk }) : wpAny (model prog w) A (call (.type "range") [.int n t]) Q E s :=
  call_range_1 (h _ _ _ _ _ (IsRange.new ..) (W.push _))
theorem rangew2 {a c : Int} {t u : Tok} {Q : Value → Shared → Prop} (W : Wd b fs ls ps s.heap)
    (h : ∀ r v h' tk, IsRange h' r a c 1 t u v → Wd b fs ls ps h' → Q (.ref r) { s with heap := h', toks := tk }) : wpAny (model prog w) A (call (.type "range") [.int a t, .int c u]) Q E s :=
  call_range_2 (h _ _ _ _ (IsRange.new ..) (W.push _))
/-- iter() of a range by ones -/
theorem iterw {r : Addr} {a c : Int} {t u v : Tok} {n : Nat} {Q : Value → Shared → Prop} (W : Wd b fs ls ps s.heap) (hr : IsRange s.heap r a c 1 t u v) (ha : 0 ≤ a) (hc : c < 2 ^ 62) (ha' : a ≤ c) (hn : c - a = n)
    (h : ∀ it h', Wd b fs ls ((it, rit a n 1) :: ps) h' → Q (.ref it) { s with heap := h' }) : wpAny (model prog w) A (pyIter (.ref r)) Q E s := by
  refine wpAny_pyIter_range hr (small_one (by omega) (by omega) (by omega) hc) ?_
  have e : Builtin.Range.rangeSize a c 1 = n := by rw [rangeSize_one]; split <;> omega
  rw [e]
  exact h _ _ (W.pushPin rfl)
theorem revw {r : Addr} {n : Nat} {t u v : Tok} {Q : Value → Shared → Prop} (W : Wd b fs ls ps s.heap) (hr : IsRange s.heap r 0 n 1 t u v) (hn : (n : Int) < 2 ^ 62)
    (h : ∀ it h', Wd b fs ls ((it, rit ((n : Int) - 1) n (-1)) :: ps) h' → Q (.ref it) { s with heap := h' }) : wpAny (model prog w) A (call (.type "reversed") [.ref r]) Q E s :=
  call_reversed_range hn hr (h _ _ (W.pushPin rfl))
theorem iteritw {x left step : Int} {Q : Value → Shared → Prop} (W : Wd b fs ls ((it, rit x left step) :: ps) s.heap) (h : Q (.ref it) s) : wpAny (model prog w) A (pyIter (.ref it)) Q E s :=
  wpAny_pyIter_rangeiter (W.pi _ (.head _)).1 h
end
def popV (hp : List Nat) : Nat := if hp.length ≤ 1 then hp.getD (hp.length - 1) 0 else hp.getD 0 0
noncomputable def popH (lt : Nat → Nat → Bool) (hp : List Nat) : List Nat := if hp.length ≤ 1 then [] else suA lt (hp.dropLast.set 0 (hp.getD (hp.length - 1) 0)) 0
noncomputable def repH (lt : Nat → Nat → Bool) (hp : List Nat) (x : Nat) : List Nat := suA lt (hp.set 0 x) 0
noncomputable def pushH (lt : Nat → Nat → Bool) (hp : List Nat) (x : Nat) : List Nat := sdA lt (hp ++ [x]) 0 hp.length
noncomputable def bldLoop (lt : Nat → Nat → Bool) : Nat → List Nat → List Nat
  | 0, hp => hp
  | k + 1, hp => bldLoop lt k (suA lt hp k)
noncomputable def bldH (lt : Nat → Nat → Bool) (hp : List Nat) : List Nat := bldLoop lt (hp.length / 2) hp

theorem bldLoop_len {lt : Nat → Nat → Bool} : ∀ (k : Nat) (hp : List Nat), k ≤ hp.length → (bldLoop lt k hp).length = hp.length
  | 0, _, _ => rfl
  | k + 1, hp, h => by
    have e := suA_len (lt := lt) (hp := hp) (pos := k) h
    rw [bldLoop, bldLoop_len k _ (by omega), e]
theorem bldLoop_mem {lt : Nat → Nat → Bool} {x : Nat} : ∀ (k : Nat) (hp : List Nat), k ≤ hp.length → x ∈ bldLoop lt k hp → x ∈ hp
  | 0, _, _, h => h
  | k + 1, hp, h, hx => by
    have e := suA_len (lt := lt) (hp := hp) (pos := k) h
    exact suA_mem h (bldLoop_mem k _ (by omega) hx)
theorem bldH_len {lt : Nat → Nat → Bool} {hp : List Nat} : (bldH lt hp).length = hp.length := bldLoop_len _ _ (by omega)
theorem bldH_mem {lt : Nat → Nat → Bool} {hp : List Nat} {x : Nat} (h : x ∈ bldH lt hp) : x ∈ hp := bldLoop_mem _ _ (by omega) h
theorem split_last {hp : List Nat} (h : 0 < hp.length) : hp = hp.dropLast ++ [hp.getD (hp.length - 1) 0] := by
  have hne : hp ≠ [] := fun e => by rw [e] at h; exact absurd h (Nat.lt_irrefl _)
  have e := List.dropLast_concat_getLast hne
  rw [List.getLast_eq_getElem] at e
  rw [List.getD_eq_getElem?_getD, List.getElem?_eq_getElem (by omega)]
  exact e.symm
theorem popH_len {lt : Nat → Nat → Bool} {hp : List Nat} : (popH lt hp).length = hp.length - 1 := by
  unfold popH
  split
  · rw [List.length_nil]; omega
  · rw [suA_len (by rw [List.length_set, List.length_dropLast]; omega), List.length_set, List.length_dropLast]
theorem popH_mem {lt : Nat → Nat → Bool} {hp : List Nat} {x : Nat} (h : x ∈ popH lt hp) : x ∈ hp := by
  unfold popH at h
  split at h
  · cases h
  · rcases mem_set' (suA_mem (by rw [List.length_set, List.length_dropLast]; omega) h) with e | e
    · exact e ▸ getD_mem (by omega)
    · exact List.dropLast_subset _ e
theorem popV_mem {hp : List Nat} (h : 0 < hp.length) : popV hp ∈ hp := by
  unfold popV
  split
  · exact getD_mem (by omega)
  · exact getD_mem h
theorem repH_len {lt : Nat → Nat → Bool} {hp : List Nat} {x : Nat} (h : 0 < hp.length) : (repH lt hp x).length = hp.length := by
  unfold repH
  rw [suA_len (by rw [List.length_set]; exact h), List.length_set]
theorem repH_mem {lt : Nat → Nat → Bool} {hp : List Nat} {x y : Nat} (h : 0 < hp.length) (hy : y ∈ repH lt hp x) : y = x ∨ y ∈ hp :=
  mem_set' (suA_mem (by rw [List.length_set]; exact h) hy)
theorem pushH_len {lt : Nat → Nat → Bool} {hp : List Nat} {x : Nat} : (pushH lt hp x).length = hp.length + 1 := by
  unfold pushH
  rw [sdA_len, List.length_append]
  rfl
theorem pushH_mem {lt : Nat → Nat → Bool} {hp : List Nat} {x y : Nat} (hy : y ∈ pushH lt hp x) : y = x ∨ y ∈ hp := by
  rcases List.mem_append.mp (sdA_mem (by rw [List.length_append]; exact Nat.lt_succ_self _) hy) with e | e
  · exact .inr e
  · exact .inl (List.mem_singleton.mp e)

section
variable {prog : Program} {w : World} {A : Around} {E : Value → Shared → Prop} {s : Shared}
theorem divNat {n k : Nat} {c : Int} {t u : Tok} {Q : Value → Shared → Prop} (e : c = (k : Int)) (h0 : 0 < k) (h1 : k < 100) (h : ∀ tk, Q (.int ((n / k : Nat) : Int) s.toks) { s with toks := tk }) :
    wpAny (model prog w) A (binaryOp .FloorDiv (.int (n : Int) t) (.int c u)) Q E s := by
  subst e
  refine floordiv_int (by omega) ?_ (Or.inl (PyProof.noPylong_small (by omega)))
  rw [show (n : Int).fdiv (k : Int) = ((n / k : Nat) : Int) from by rw [Int.fdiv_eq_ediv_of_nonneg _ (by omega)]; rfl]
  exact h _
end

section
variable {prog : Program} {w : World} {A : Around} {E : Value → Shared → Prop} {s : Shared} {b : Heap} {fs : List (Addr × Fm)} {ls : Ls} {ps : List (Addr × Obj)} {a H : Addr} {vs : List Value} {adr : Nat → Addr} {hp : List Nat}
theorem methw {name : Str} {id : String} {pl : Sem Bool} {Q : Value × List Value → Shared → Prop} (W : Wd b fs ls ps s.heap) (e : ls a = some vs) (slot : Slot "list" name id) (hty : typeOf (.builtin id) = pure (.type "method_descriptor"))
    (h : Q (.builtin id, [.ref a]) s) : wpAny (model prog w) A (getMethod (.ref a) name pl) Q E s := by
  obtain ⟨n, q⟩ := (W.li _ _ e).1
  exact getMethod_builtin ⟨_, q, rfl⟩ PySem.F.plainAttrs_list slot hty (fun a e => by cases e; exact ⟨_, q, rfl⟩) h
theorem poph {Q : Value → Shared → Prop} (W : Wd b fs ls ps s.heap) (e : ls H = some (hp.map (V adr))) (h0 : 0 < hp.length) (hz : hp.length < 2 ^ 20)
    (h : ∀ h', Wd b fs (upd ls H (hp.dropLast.map (V adr))) ps h' → Q (V adr (hp.getD (hp.length - 1) 0)) { s with heap := h' }) : wpAny (model prog w) A (call (.builtin "list.pop") [.ref H]) Q E s := by
  have e' : hp.map (V adr) = hp.dropLast.map (V adr) ++ [V adr (hp.getD (hp.length - 1) 0)] := by
    have q := congrArg (List.map (V adr)) (split_last h0)
    rw [List.map_append, List.map_cons, List.map_nil] at q
    exact q
  rw [e'] at e
  exact popw W e (by rw [List.length_map, List.length_dropLast, PySem.sizeLine_eq]; omega) h
theorem apph {x : Nat} {Q : Value → Shared → Prop} (W : Wd b fs ls ps s.heap) (e : ls H = some (hp.map (V adr))) (hz : hp.length < 2 ^ 20)
    (h : ∀ h', Wd b fs (upd ls H ((hp ++ [x]).map (V adr))) ps h' → Q .none { s with heap := h' }) : wpAny (model prog w) A (call (.builtin "list.append") [.ref H, V adr x]) Q E s :=
  appendw W e (by rw [List.length_map, PySem.sizeLine_eq]; omega) fun h' W' => h h' (by rw [List.map_append]; exact W')
end
/-! comprehensions over a list -/
section
variable {prog : Program} {w : World} {A : Around} {E : Value → Shared → Prop} {s : Shared} {b : Heap} {fs : List (Addr × Fm)} {ls : Ls} {ps : List (Addr × Obj)} {env : Env} {l : Addr} {vs : List Value}

/-- the state behind an element -/
def Elt (b : Heap) (fs : List (Addr × Fm)) (ps : List (Addr × Obj)) (s₀ : Shared) (C D l : Addr) (vs ys : List Value) (J : Ls → List Value → Prop) (y : Value) (s : Shared) : Prop :=
  ∃ h' tk m' ls', s = { s₀ with heap := h', toks := tk } ∧ Wd b ((C, m') :: fs) ls' ps h' ∧ ls' D = some ys ∧ ls' l = some vs ∧ J (upd ls' D (ys ++ [y])) (ys ++ [y])

theorem compR {elt iter : Expr} {x : Str} {px pos : Pos} {scope : Scope} {RR : Value → Env → Result → Shared → Prop} (hh : A.handled = none) (W : Wd b fs ls ps s.heap) (e : ls l = some vs) (hz : vs.length ≤ 2 ^ 20)
    (J : Addr → Nat → Ls → List Value → Prop) (h0 : ∀ D, ls D = none → J D 0 (upd ls D []) [])
    (turn : ∀ D C p i v m' h' tk ls' ys, ls D = none → vs[i]? = some v → ys.length = i → J D i ls' ys → ls' D = some ys → ls' l = some vs → Wd b ((C, setm m' x v) :: fs) ls' (p :: ps) h' →
      wpAny (model prog w) A (eval elt (compEnv scope C env)) (Elt b fs (p :: ps) s C D l vs ys (J D (i + 1))) (fun _ _ => False) { s with heap := h', toks := tk })
    (fin : ∀ D C h' tk m' ls' ys, ls D = none → ys.length = vs.length → J D vs.length ls' ys → ls' D = some ys → Wd b ((C, m') :: fs) ls' ps h' → RR (.ref D) (compEnv scope C env) (.ok .next) { s with heap := h', toks := tk })
    (hcell : ∀ y ∈ scope.names, y.2 ≠ .cell) (hkind : scope.kind = .function) (hx : scope.names.lookup x = some .local) :
    wpAny (model prog w) A (pyIter (.ref l)) (fun it s₂ => wpAny (model prog w) A (newList []) (fun acc s₃ =>
      wpAny (model prog w) A (newFunctionEnv scope env.globals [] [] env.qual none .none (some env)) (fun cenv s₄ =>
        codeAny (model prog w) A (.compStart (.ListComp elt [⟨.Name x px, iter, [], 0⟩] scope pos) 0 it acc { cenv with scope := scope }) (RR acc { cenv with scope := scope }) s₄) E s₃) E s₂) E s := by
  refine wpAny_pyIter_list (W.isList e) ?_
  have W₁ := W.pushPin (o := { cls := .type "list_iterator", data := .fields #[.ref l, .int 0 0] }) rfl
  refine neww (vs := []) W₁ (Nat.zero_le _) fun D h₂ hD hbD W₂ => ?_
  refine wpAny_newFunctionEnv hcell (by intro y hy; simp at hy) (fun h₃ hns hsb => ?_) hkind
  have W₃ := W₂.frame (fun c o q => hsb.extBut c o (Nat.ne_of_lt (Heap.lt_size q)) (Heap.get?_push_of_some _ q)) hns
  have hlD : l ≠ D := fun z => by rw [z, hD] at e; cases e
  have loop : ∀ s₂ : Shared, s₂ = { s with heap := h₃, toks := s.toks + ([] : List (Str × Value)).length } →
      codeAny (model prog w) A (.compLoop (.ListComp elt [⟨.Name x px, iter, [], 0⟩] scope pos) 0 (.ref s.heap.objs.size) (.ref D) (compEnv scope h₂.objs.size env))
        (RR (.ref D) (compEnv scope h₂.objs.size env)) s₂ := by
    rintro s₂ rfl
    refine codeAny_compLoop_list (fun k s' => ∃ i h' tk m' ls' ys o, k = vs.length - i ∧ i ≤ vs.length ∧ s' = { s with heap := h', toks := tk } ∧ Wd b ((h₂.objs.size, m') :: fs) ls' ((s.heap.objs.size, o) :: ps) h' ∧
      o.cls = .type "list_iterator" ∧ o.data = .fields #[.ref l, .int i 0] ∧ ys.length = i ∧ J D i ls' ys ∧ ls' D = some ys ∧ ls' l = some vs) ?_ vs.length
      ⟨0, h₃, _, _, _, [], _, rfl, Nat.zero_le _, rfl, W₃, rfl, rfl, rfl, h0 D hD, upd_self, by rw [upd_ne hlD]; exact e⟩
    rintro k s' ⟨i, h', tk, m', ls', ys, o, rfl, hi, rfl, W', k1, k2, k3, k4, k5, k6⟩
    have hit : h'.IsListIter s.heap.objs.size l i := ⟨o, (W'.pi _ (.head _)).1, k1, k2⟩
    have hlst : h'.IsList l vs.toArray := W'.isList k6
    by_cases hlt : i < vs.length
    · have hv : vs.toArray[i]? = some vs[i] := by simp [hlt]
      refine wpAny_pyNext_list_item hit hlst hv fun h₄ hit₄ hs₄ => ?_
      obtain ⟨o', ho', hc', hd'⟩ := hit₄
      have W₄ := W'.setPin ho' hd' hs₄.extBut
      refine wpAny_assign_Name (stw W₄ ?_ rfl hkind hx)
      intro h₅ tk₅ W₅
      refine wpAny_mono (turn D h₂.objs.size _ i vs[i] m' h₅ tk₅ ls' ys hD (by simp [hlt]) k3 k4 k5 k6 W₅) (fun y s₃ h₃ => ?_) fun _ _ x => x.elim
      obtain ⟨h₆, tk₆, m₆, ls₆, rfl, W₆, q1, q2, q3⟩ := h₃
      refine appendw W₆ q1 (by rw [k3, PySem.sizeLine_eq]; omega) fun h₇ W₇ => ?_
      exact ⟨vs.length - (i + 1), by omega, i + 1, h₇, tk₆, m₆, _, _, o', rfl, hlt, rfl, W₇, hc', hd', by rw [List.length_append, k3]; rfl, q3, upd_self, by rw [upd_ne hlD]; exact q2⟩
    · have hi' : i = vs.length := by omega
      subst hi'
      exact wpAny_pyNext_list_end hh hit hlst (by simp) fun h₄ he₄ => fin D h₂.objs.size h₄ tk m' ls' ys hD k3 k4 k5 (W'.losePin he₄)
  refine codeAny_compStart_list (loop _ rfl) (wpAny_pyIter_listiter ⟨_, (W₃.pi _ (.head _)).1, rfl, rfl⟩ (loop _ rfl))

theorem Wd.lose {C : Addr} {m' : Fm} {h h₅ : Heap} (W₄ : Wd b ((C, m') :: fs) ls ps h) (hs₅ : Heap.SameBut C h h₅) : Wd b fs ls ps h₅ := by
  refine ⟨fun c o q => ?_, fun p hp => ?_, W₄.pop.nd, fun c us q => ?_, fun p hp => ?_, W₄.pop.pn⟩
  · exact (hs₅.2 c (ne_of_none (W₄.fr _ (.head _)).2 q)).trans (W₄.keep c o q)
  · exact ⟨(W₄.fr p (.tail _ hp)).1.sameBut hs₅ fun z => (List.nodup_cons.mp W₄.nd).1 (by rw [← z]; exact List.mem_map_of_mem (f := (·.1)) hp), (W₄.fr p (.tail _ hp)).2⟩
  · exact ⟨let ⟨n, r⟩ := (W₄.li c us q).1; ⟨n, (hs₅.2 c (W₄.ne_list W₄.ns q)).trans r⟩, (W₄.li c us q).2⟩
  · exact ⟨(hs₅.2 _ (W₄.ne_pin W₄.ns hp)).trans (W₄.pi p hp).1, (W₄.pi p hp).2⟩
theorem Wd.swap {p q : Addr × Fm} {h : Heap} (W : Wd b (p :: q :: fs) ls ps h) : Wd b (q :: p :: fs) ls ps h where
  keep := W.keep
  fr := fun r hr => W.fr r (by simp at hr ⊢; rcases hr with e | e | e <;> simp [e])
  nd := by
    have := W.nd
    simp only [List.map_cons, List.nodup_cons, List.mem_cons, not_or] at this ⊢
    exact ⟨⟨fun e => this.1.1 e.symm, this.2.1⟩, this.1.2, this.2.2⟩
  li := W.li
  pi := W.pi
  pn := W.pn

theorem compw {elt iter : Expr} {x : Str} {px pos : Pos} {scope : Scope} {Q : Value → Shared → Prop} (hh : A.handled = none) (W : Wd b fs ls ps s.heap) (e : ls l = some vs) (hz : vs.length ≤ 2 ^ 20)
    (J : Addr → Nat → Ls → List Value → Prop) (h0 : ∀ D, ls D = none → J D 0 (upd ls D []) [])
    (turn : ∀ D C p i v m' h' tk ls' ys, ls D = none → vs[i]? = some v → ys.length = i → J D i ls' ys → ls' D = some ys → ls' l = some vs → Wd b ((C, setm m' x v) :: fs) ls' (p :: ps) h' →
      wpAny (model prog w) A (eval elt (compEnv scope C env)) (Elt b fs (p :: ps) s C D l vs ys (J D (i + 1))) (fun _ _ => False) { s with heap := h', toks := tk })
    (fin : ∀ D h' tk ls' ys, ls D = none → ys.length = vs.length → J D vs.length ls' ys → ls' D = some ys → Wd b fs ls' ps h' → Q (.ref D) { s with heap := h', toks := tk })
    (hcell : ∀ y ∈ scope.names, y.2 ≠ .cell := by decide) (hkind : scope.kind = .function := by rfl) (hx : scope.names.lookup x = some .local := by rfl) :
    wpAny (model prog w) A (pyIter (.ref l)) (fun it s₂ => wpAny (model prog w) A (newList []) (fun acc s₃ =>
      wpAny (model prog w) A (newFunctionEnv scope env.globals [] [] env.qual none .none (some env)) (fun cenv s₄ =>
        codeAny (model prog w) A (.compStart (.ListComp elt [⟨.Name x px, iter, [], 0⟩] scope pos) 0 it acc { cenv with scope := scope })
          (fun r s' => ∃ m, s'.heap.Ns cenv.locals m ∧ ∀ h', Heap.SameBut cenv.locals s'.heap h' →
            match r with | .ok _ => Q acc { s' with heap := h' } | .error x => wpAny (model prog w) A (passOn "comprehension.variables-let-go" x { cenv with scope := scope }) Q E { s' with heap := h' }) s₄) E s₃) E s₂) E s :=
  compR (RR := fun acc cenv r s' => ∃ m, s'.heap.Ns cenv.locals m ∧ ∀ h', Heap.SameBut cenv.locals s'.heap h' →
      match r with | .ok _ => Q acc { s' with heap := h' } | .error x => wpAny (model prog w) A (passOn "comprehension.variables-let-go" x cenv) Q E { s' with heap := h' }) hh W e hz J h0 turn
    (fun D C h' tk m' ls' ys o1 o2 o3 o4 W' => ⟨m', W'.ns, fun h₅ hs₅ => fin D h₅ tk ls' ys o1 o2 o3 o4 (W'.lose hs₅)⟩) hcell hkind hx

/-- a comprehension that is stored under a local name -/
theorem compSet {elt : Expr} {x y : Str} {px py pos spos : Pos} {scope : Scope} {Q : Flow → Shared → Prop} {m : Fm} {L : Addr} {z : Str} {pz : Pos} (hh : A.handled = none) (W : Wd b ((L, m) :: fs) ls ps s.heap) (hz' : m z = some (.ref l)) (e : ls l = some vs) (hz : vs.length ≤ 2 ^ 20)
    (J : Addr → Nat → Ls → List Value → Prop) (h0 : ∀ D, ls D = none → J D 0 (upd ls D []) [])
    (turn : ∀ D C p i v m' h' tk ls' ys, ls D = none → vs[i]? = some v → ys.length = i → J D i ls' ys → ls' D = some ys → ls' l = some vs → Wd b ((C, setm m' x v) :: (L, m) :: fs) ls' (p :: ps) h' →
      wpAny (model prog w) A (eval elt (compEnv scope C env)) (Elt b ((L, m) :: fs) (p :: ps) s C D l vs ys (J D (i + 1))) (fun _ _ => False) { s with heap := h', toks := tk })
    (fin : ∀ D h' tk ls' ys, ls D = none → ys.length = vs.length → J D vs.length ls' ys → ls' D = some ys → Wd b ((L, setm m y (.ref D)) :: fs) ls' ps h' → Q .next { s with heap := h', toks := tk })
    (hsw : swapsWith (.ListComp elt [⟨.Name x px, .Name z pz, [], 0⟩] scope pos) (some (.Name y py)) spos.line env = pure true) (hfree : ∀ z ∈ scope.names, z.2 ≠ .free) (hcell : ∀ y ∈ scope.names, y.2 ≠ .cell) (hkind : scope.kind = .function)
    (hnames : ∀ z ∈ scope.names, z.2 = .local → scope.names.lookup z.1 = some .local) (hx : scope.names.lookup x = some .local)
    (hL : env.locals = L) (hk : env.scope.kind = .function) (hy : env.kindOf y = some .local) (hzl : env.kindOf z = some .local) (hd : (z == ("__debug__" : Str)) = false) :
    wpAny (model prog w) A (exec (.Assign [.Name y py] (.ListComp elt [⟨.Name x px, .Name z pz, [], 0⟩] scope pos) spos) env) Q E s := by
  subst hL
  rw [exec_Assign_Name_used _ _ _ _ hsw]
  refine wpAny_bind (wpAny_standAt (wpAny_bind ?_))
  show wpAny _ A (do let _ ← comprehension (.ListComp elt [⟨.Name x px, .Name z pz, [], 0⟩] scope pos) scope env _ (newList []) false (eval (.Name z pz) env) (some (assign (.Name y py) env))) _ _ s
  refine wpAny_bind (wpAny_mono (wpAny_comprehension_use (Q := fun _ s' => Q .next s') rfl (fun _ => rfl) hfree hkind hnames (ldw W hz' ?_ hk hzl hd))
    (fun _ s' hq => wpAny_pure (wpAny_pure hq)) fun _ _ e => e)
  refine compR (RR := fun acc cenv r s' => match r with
      | .ok _ => wpAny (model prog w) A (assign (.Name y py) env acc) (fun _ s'' => ∃ m, s''.heap.Ns cenv.locals m ∧ ∀ h', Heap.SameBut cenv.locals s''.heap h' → Q .next { s'' with heap := h' }) E s'
      | .error x => ∃ m, s'.heap.Ns cenv.locals m ∧ ∀ h', Heap.SameBut cenv.locals s'.heap h' → wpAny (model prog w) A (passOn "comprehension.variables-let-go" x cenv) (fun _ s' => Q .next s') E { s' with heap := h' }) hh W e hz J h0 turn ?_ hcell hkind hx
  intro D C h' tk m' ls' ys o1 o2 o3 o4 W'
  refine wpAny_assign_Name (stw W'.swap ?_ rfl hk hy)
  intro h₂ tk₂ W₂
  exact ⟨m', W₂.swap.ns, fun h₃ hs₃ => fin D h₃ tk₂ ls' ys o1 o2 o3 o4 (W₂.swap.lose hs₃)⟩
end
/-! the handler -/
section
variable {prog : Program} {w : World} {A : Around} {E : Value → Shared → Prop} {s : Shared} {b : Heap} {fs : List (Addr × Fm)} {ls : Ls} {ps : List (Addr × Obj)} {m mg mb : Fm} {L a e : Addr} {cn : Str} {cs : Scope} {ccd : Value}

theorem catchw {envs : List Env} {msg : String} {n : Str} {b₀ : Stmt} {suite : List Stmt} {pos np : Pos} {rest : List ExceptHandler} {Q : Flow → Shared → Prop} (C : Cx w mg mb b)
    (hfr : A.frames = some (envOf cn cs L a ccd :: envs)) (fl : Flew b ((L, m) :: fs) ls ps (envOf cn cs L a ccd :: envs) msg e s.heap)
    (hg : nsIn (Mine.hd.heap_39 w.params) mainGlobals (Str.ofString "IndexError") = some none)
    (k : ∀ h' tk t tk', Wd b ((L, setm m n (.ref e)) :: fs) ls ps h' → h'.ExcAt e "IndexError" (.ref t) → h'.TupAt t [.str msg tk'] →
      wpAny (model prog w) (A.mark (some (.ref e))) (execs (b₀ :: suite) (envOf cn cs L a ccd))
        (fun f s₄ => wpAny (model prog w) A (do bindName (envOf cn cs L a ccd) n .none; unbindBehindTheSuite (envOf cn cs L a ccd) n pos) (fun _ s₅ => Q f s₅) E s₄) (fun _ _ => False) { s with heap := h', toks := tk })
    (hk : cs.kind = .function := by rfl) (hlo : (envOf cn cs L a ccd).kindOf n = some .local := by rfl) (hx : (envOf cn cs L a ccd).kindOf (Str.ofString "IndexError") = some .globalImplicit := by rfl) :
    wpAny (model prog w) A (noteFrame (.ref e) (envOf cn cs L a ccd))
      (fun _ s₂ => wpAny (model prog w) A (setFlight (.ref e) none) (fun _ s₃ =>
        wpAny (model prog w) A (handleBy (.ref e) (envOf cn cs L a ccd) (.ExceptHandler (some (.Name (Str.ofString "IndexError") np)) (some n) (b₀ :: suite) pos :: rest)) Q E s₃) E s₂) E s := by
  obtain ⟨W, B, t, tk, hB, hfl, htup⟩ := fl
  refine wpAny_looks_onW hfr rfl hfl fun h₄ hheld₄ hsm₄ => ?_
  refine wpAny_landsW hheld₄ fun h₅ hheld hsm₅' => ?_
  have hsm₅ := hsm₄.trans hsm₅'
  have W₅ := W.fly hB hheld.1 hsm₅
  obtain ⟨ob, hob, hobc⟩ := hheld.there
  refine wpAny_handleBy_builtin_as (X := "IndexError") (T := "IndexError") (b := true) PySem.F.isExc_IndexError PySem.F.notTuple_IndexError (by rw [isSubtype_type]; kernel_rfl)
    (blw C W₅ hg PyProof.Rows.Boot.«IndexError» (by decide) ⟨rfl, ⟨ob, hob, hobc⟩, ?_⟩ hk hx (by decide))
  refine lands_againW hheld fun h₆ hfl₆ hsm₆ => ?_
  have W₆ := W₅.fly hB hfl₆.1 hsm₆
  obtain ⟨oe, ws, hoe, hoec, hoed, hoe0⟩ := hfl₆.first
  obtain ⟨ot, nt, hot, hotc, hotd⟩ := (htup.of_slots hsm₅).of_slots hsm₆
  have hns := W₆.ns
  refine wpAny_storeName_local hlo hns (fun h₇ hn₇ hs₇ => ?_) (by show (cs.kind == .class || (cs.kind == .module && L != mainGlobals)) = false; rw [hk]; rfl)
  have neE : e ≠ L := fun z => by
    obtain ⟨o, es, ep, ho, hd, _⟩ := hns
    rw [z] at hoe
    cases ho.symm.trans hoe
    cases hd.symm.trans hoed
  have neT : t ≠ L := fun z => by
    obtain ⟨o, es, ep, ho, hd, _⟩ := hns
    rw [z] at hot
    cases ho.symm.trans hot
    cases hd.symm.trans hotd
  exact wpAny_mono (k h₇ _ t tk (W₆.setLocal hn₇ hs₇) ⟨oe, ws, (hs₇.2 e neE).trans hoe, hoec, hoed, hoe0⟩ ⟨ot, nt, (hs₇.2 t neT).trans hot, hotc, hotd⟩) (fun _ _ x => x) fun _ _ x => x.elim

theorem goesw {M : Model} {n : Str} {pos : Pos} {env : Env} {Q : Unit → Shared → Prop} (W : Wd b ((L, m) :: fs) ls ps s.heap)
    (h : ∀ h' tk m', (∀ x, x ≠ n → m' x = m x) → Wd b ((L, m') :: fs) ls ps h' → Q () { s with heap := h', toks := tk })
    (hL : env.locals = L := by rfl) (hk : env.scope.kind = .function := by rfl) (hl : env.kindOf n = some .local := by rfl) :
    wpAny M A (do bindName env n .none; unbindBehindTheSuite env n pos) Q E s := by
  subst hL
  refine wpAny_nameGoes_keeps hl W.ns (by rw [hk]; rfl) fun h' v hn hs => h h' _ _ (fun x hx => if_neg hx) (W.setLocal hn hs)
end
/-! what the run tells -/
inductive Ans where
  | no
  | it (i : Nat)
  | err (m : String)

def outOf : String := "list index out of range"
def popOf : String := "pop from empty list"

noncomputable def stepA (lt : Nat → Nat → Bool) (x : Int) (k : Nat) (hp : List Nat) : Ans × List Nat :=
  if x.fmod 7 = 0 then (if hp.length = 0 then (.err popOf, hp) else (.it (popV hp), popH lt hp))
  else if x.fmod 7 = 1 then (if hp.length = 0 then (.err outOf, hp) else (.it (hp.getD 0 0), repH lt hp k))
  else if x.fmod 7 = 2 then (.no, pushH lt hp k)
  else if x.fmod 7 = 3 then (if ((x.fdiv 7).fmod ((hp.length : Int) + 1)).toNat < hp.length then (.no, suA lt hp ((x.fdiv 7).fmod ((hp.length : Int) + 1)).toNat) else (.err outOf, hp))
  else if x.fmod 7 = 4 then (if ((x.fdiv 7).fmod ((hp.length : Int) + 1)).toNat < hp.length then (.no, sdA lt hp ((x.fdiv 49).fmod ((hp.length : Int) + 1)).toNat ((x.fdiv 7).fmod ((hp.length : Int) + 1)).toNat) else (.err outOf, hp))
  else if x.fmod 7 = 5 then (.no, bldH lt hp)
  else (.no, hp ++ [k])

noncomputable def runTo (lt : Nat → Nat → Bool) (nums : List Int) (n₀ : Nat) : Nat → List Nat × List (Ans × List Nat)
  | 0 => (bldH lt (List.range n₀), [(.no, bldH lt (List.range n₀))])
  | i + 1 => ((stepA lt (nums.getD (n₀ + i) 0) (n₀ + i) (runTo lt nums n₀ i).1).2, (runTo lt nums n₀ i).2 ++ [stepA lt (nums.getD (n₀ + i) 0) (n₀ + i) (runTo lt nums n₀ i).1])

theorem stepA_len {lt : Nat → Nat → Bool} {x : Int} {k : Nat} {hp : List Nat} : (stepA lt x k hp).2.length ≤ hp.length + 1 := by
  unfold stepA
  split
  · split
    · exact Nat.le_succ _
    · show (popH lt hp).length ≤ _
      rw [popH_len]; omega
  split
  · split
    · exact Nat.le_succ _
    · show (repH lt hp k).length ≤ _
      rw [repH_len (by omega)]; omega
  split
  · show (pushH lt hp k).length ≤ _
    rw [pushH_len]; omega
  split
  · split
    · rename_i q
      show (suA lt hp _).length ≤ _
      rw [suA_len q]; omega
    · exact Nat.le_succ _
  split
  · split
    · show (sdA lt hp _ _).length ≤ _
      rw [sdA_len]; omega
    · exact Nat.le_succ _
  split
  · show (bldH lt hp).length ≤ _
    rw [bldH_len]; omega
  · show (hp ++ [k]).length ≤ _
    rw [List.length_append]; exact Nat.le_refl _
theorem runTo_len {lt : Nat → Nat → Bool} {nums : List Int} {n₀ : Nat} : ∀ i, (runTo lt nums n₀ i).1.length ≤ n₀ + i
  | 0 => by
    show (bldH lt (List.range n₀)).length ≤ _
    rw [bldH_len, List.length_range]; omega
  | i + 1 => by
    have := runTo_len (lt := lt) (nums := nums) (n₀ := n₀) i
    have := stepA_len (lt := lt) (x := nums.getD (n₀ + i) 0) (k := n₀ + i) (hp := (runTo lt nums n₀ i).1)
    show (stepA lt (nums.getD (n₀ + i) 0) (n₀ + i) (runTo lt nums n₀ i).1).2.length ≤ _
    omega
theorem runTo_told {lt : Nat → Nat → Bool} {nums : List Int} {n₀ : Nat} : ∀ i, (runTo lt nums n₀ i).2.length = i + 1
  | 0 => rfl
  | i + 1 => by
    show ((runTo lt nums n₀ i).2 ++ [_]).length = _
    rw [List.length_append, runTo_told i]
    rfl

theorem runTo_rows {lt : Nat → Nat → Bool} {nums : List Int} {n₀ : Nat} : ∀ i, ∀ x ∈ (runTo lt nums n₀ i).2, x.2.length ≤ n₀ + i
  | 0, x, h => by
    rcases List.mem_singleton.mp h with rfl
    show (bldH lt (List.range n₀)).length ≤ _
    rw [bldH_len, List.length_range]; omega
  | i + 1, x, h => by
    rcases List.mem_append.mp h with h | h
    · have := runTo_rows i x h
      omega
    · rcases List.mem_singleton.mp h with rfl
      exact runTo_len (lt := lt) (nums := nums) (n₀ := n₀) (i + 1)

/-! the state of the run -/
structure Apart (ls₀ : Ls) (AN AI H T : Addr) (adr : Nat → Addr) (N : Nat) : Prop where
  nH : AN ≠ H
  nT : AN ≠ T
  iH : AI ≠ H
  iT : AI ≠ T
  tH : T ≠ H
  aH : ∀ i, i < N → adr i ≠ H
  aT : ∀ i, i < N → adr i ≠ T
  aN : ∀ i, i < N → adr i ≠ AN
  aI : ∀ i, i < N → adr i ≠ AI
  oH : ls₀ H = none
  oT : ls₀ T = none
  inj : ∀ i j, i < N → j < N → adr i = adr j → i = j
def Good (H T : Addr) (adr : Nat → Addr) (N : Nat) (r : Addr) : Prop := r ≠ H ∧ r ≠ T ∧ ∀ i, i < N → r ≠ adr i
def AnsV (H T : Addr) (adr : Nat → Addr) (N : Nat) (ls : Ls) (v : Value) : Ans → Prop
  | .no => v = .none
  | .it i => v = V adr i ∧ i < N
  | .err m => ∃ ea tk, v = .ref ea ∧ ls ea = some [.str m tk] ∧ Good H T adr N ea
def RowIs (H T : Addr) (adr : Nat → Addr) (N : Nat) (ls : Ls) (x : Ans × List Nat) (r : Addr) : Prop :=
  (∃ v, ls r = some (v :: x.2.map (V adr)) ∧ AnsV H T adr N ls v x.1) ∧ Good H T adr N r ∧ ∀ i ∈ x.2, i < N
structure RunS (ls₀ : Ls) (AN AI H T : Addr) (vals : List Value) (adr : Nat → Addr) (key : Nat → Int) (N : Nat) (hp : List Nat) (told : List (Ans × List Nat)) (ls : Ls) : Prop where
  num : ls AN = some vals
  its : ls AI = some ((List.range N).map (V adr))
  hps : ls H = some (hp.map (V adr))
  itm : It adr key N ls
  tol : ∃ rs : List Addr, ls T = some (rs.map Value.ref) ∧ Paired (RowIs H T adr N ls) told rs
  old : ∀ a vs, ls₀ a = some vs → ls a = some vs
  mem : ∀ i ∈ hp, i < N

section
variable {ls₀ ls ls' : Ls} {AN AI H T D : Addr} {vals us : List Value} {adr : Nat → Addr} {key : Nat → Int} {N : Nat} {hp hp' : List Nat} {told : List (Ans × List Nat)}
theorem Paired.mono {α β : Type} {F G : α → β → Prop} (h : ∀ a b, F a b → G a b) : ∀ {l : List α} {l' : List β}, Paired F l l' → Paired G l l'
  | _, _, .nil => .nil
  | _, _, .cons x r => .cons (h _ _ x) (Paired.mono h r)
theorem AnsV.mono (k : ∀ a us, Good H T adr N a → ls a = some us → ls' a = some us) {v : Value} : ∀ {x : Ans}, AnsV H T adr N ls v x → AnsV H T adr N ls' v x
  | .no, h => h
  | .it _, h => h
  | .err _, ⟨ea, tk, h1, h2, h3⟩ => ⟨ea, tk, h1, k _ _ h3 h2, h3⟩
theorem RowIs.mono (k : ∀ a us, Good H T adr N a → ls a = some us → ls' a = some us) {x : Ans × List Nat} {r : Addr} (h : RowIs H T adr N ls x r) : RowIs H T adr N ls' x r :=
  let ⟨⟨v, h1, h2⟩, h3, h4⟩ := h
  ⟨⟨v, k _ _ h3 h1, h2.mono k⟩, h3, h4⟩
theorem RunS.heap (S : RunS ls₀ AN AI H T vals adr key N hp told ls) (P : Apart ls₀ AN AI H T adr N) (hm : ∀ i ∈ hp', i < N) : RunS ls₀ AN AI H T vals adr key N hp' told (upd ls H (hp'.map (V adr))) where
  num := (upd_ne P.nH).trans S.num
  its := (upd_ne P.iH).trans S.its
  hps := upd_self
  itm := S.itm.upd P.aH
  tol := let ⟨rs, h1, h2⟩ := S.tol; ⟨rs, (upd_ne P.tH).trans h1, Paired.mono (fun _ _ h => h.mono fun a us g q => (upd_ne g.1).trans q) h2⟩
  old := fun a vs q => (upd_ne fun z => by rw [z, P.oH] at q; cases q).trans (S.old a vs q)
  mem := hm
theorem ne_fresh {a : Addr} {vs : List Value} (hD : ls D = none) (q : ls a = some vs) : a ≠ D := fun z => by rw [z, hD] at q; cases q
theorem RunS.new (S : RunS ls₀ AN AI H T vals adr key N hp told ls) (hD : ls D = none) : RunS ls₀ AN AI H T vals adr key N hp told (upd ls D us) where
  num := (upd_ne (ne_fresh hD S.num)).trans S.num
  its := (upd_ne (ne_fresh hD S.its)).trans S.its
  hps := (upd_ne (ne_fresh hD S.hps)).trans S.hps
  itm := S.itm.upd fun i q => let ⟨_, e⟩ := S.itm i q; ne_fresh hD e
  tol := let ⟨rs, h1, h2⟩ := S.tol; ⟨rs, (upd_ne (ne_fresh hD h1)).trans h1, Paired.mono (fun _ _ h => h.mono fun a us _ q => (upd_ne (ne_fresh hD q)).trans q) h2⟩
  old := fun a vs q => (upd_ne (ne_fresh hD (S.old a vs q))).trans (S.old a vs q)
  mem := S.mem
theorem RunS.fresh (S : RunS ls₀ AN AI H T vals adr key N hp told ls) (hD : ls D = none) : Good H T adr N D :=
  ⟨(ne_fresh hD S.hps).symm, (let ⟨_, h1, _⟩ := S.tol; (ne_fresh hD h1).symm), fun i q => let ⟨_, e⟩ := S.itm i q; (ne_fresh hD e).symm⟩
/-- a row more -/
theorem RunS.row (S : RunS ls₀ AN AI H T vals adr key N hp told ls) (P : Apart ls₀ AN AI H T adr N) {x : Ans × List Nat} {r : Addr} {vs : List Value} (hx : RowIs H T adr N ls x r) (hT : ls T = some vs) :
    RunS ls₀ AN AI H T vals adr key N hp (told ++ [x]) (upd ls T (vs ++ [.ref r])) where
  num := (upd_ne P.nT).trans S.num
  its := (upd_ne P.iT).trans S.its
  hps := (upd_ne P.tH.symm).trans S.hps
  itm := S.itm.upd P.aT
  tol := by
    obtain ⟨rs, h1, h2⟩ := S.tol
    rw [hT] at h1
    cases Option.some.inj h1
    refine ⟨rs ++ [r], by rw [upd_self, List.map_append]; rfl, ?_⟩
    exact Paired.snoc (Paired.mono (fun _ _ h => h.mono fun a us g q => (upd_ne g.2.1).trans q) h2) (hx.mono fun a us g q => (upd_ne g.2.1).trans q)
  old := fun a vs q => (upd_ne fun z => by rw [z, P.oT] at q; cases q).trans (S.old a vs q)
  mem := S.mem
end
section
variable {prog : Program} {w : World} {A : Around} {E : Value → Shared → Prop} {s : Shared} {b : Heap} {fs : List (Addr × Fm)} {ls : Ls} {ps : List (Addr × Obj)} {m : Fm} {env : Env} {x : Str} {l : Addr} {vs : List Value}
theorem pick_upto (n : Nat) (hn : n ≤ vs.length) : slicePick vs.toArray none (some (n : Int)) none = (vs.take n).toArray := by
  rw [kms_pick_eq]
  have e1 : kms_lo none vs.toArray.toList.length = 0 := rfl
  have e2 : kms_hi (some (n : Int)) vs.toArray.toList.length = n := by
    have e : ¬ ((n : Int) < 0) := by omega
    unfold kms_hi
    dsimp only
    rw [if_neg e]
    simp
    omega
  unfold kms_pick
  rw [e1, e2]
  simp
def SliceTo (b : Heap) (fs : List (Addr × Fm)) (ls : Ls) (ps : List (Addr × Obj)) (vs : List Value) (Q : Value → Shared → Prop) (vu : Value) (s : Shared) : Prop :=
  ∃ (n : Nat) (t : Tok), vu = .int (n : Int) t ∧ n ≤ vs.length ∧ Wd b fs ls ps s.heap ∧ ∀ D h', ls D = none → b.get? D = none → Wd b fs (upd ls D (vs.take n)) ps h' → Q (.ref D) { s with heap := h' }
theorem slicew {px p pos : Pos} {upper : Expr} {Q : Value → Shared → Prop} (W : Wd b ((env.locals, m) :: fs) ls ps s.heap) (hv : m x = some (.ref l)) (e : ls l = some vs) (hz : vs.length ≤ 2 ^ 20)
    (h : wpAny (model prog w) A (eval upper env) (SliceTo b ((env.locals, m) :: fs) ls ps vs Q) E s)
    (hk : env.scope.kind = .function := by rfl) (hl : env.kindOf x = some .local := by rfl) (hd : (x == ("__debug__" : Str)) = false := by decide)
    : wpAny (model prog w) A (eval (.Subscript (.Name x px) (.Slice none (some upper) none p) pos) env) Q E s := by
  refine wpAny_Subscript_list_slice (ldw W hv (wpAny_evalPart_none (wpAny_evalPart_some (wpAny_mono h (fun vu s₃ h₃ => ?_) fun _ _ x => x))) hk hl hd)
  obtain ⟨n, t, rfl, hn, W₃, k⟩ := h₃
  refine ⟨l, vs.toArray, none, some (n : Int), rfl, W₃.isList e, by rw [List.size_toArray, PySem.sizeLine_eq]; omega, IsPart.none, IsPart.int _ _, ?_⟩
  rw [pick_upto n hn]
  have W₄ := W₃.push { cls := .type "slice", data := .fields #[.none, .int (n : Int) t, .none] }
  have e1 : (s₃.heap.push { cls := .type "slice", data := .fields #[.none, .int (n : Int) t, .none] }).objs.size = s₃.heap.objs.size + 1 := Heap.size_push ..
  have k' := k _ _ W₄.fresh W₄.bfresh (W₄.newList (vs.take n))
  rw [e1] at k'
  exact k'
end

theorem up_keep {ls : Ls} {D a : Addr} {us vs : List Value} (hD : ls D = none) (q : ls a = some vs) : upd ls D us a = some vs := (upd_ne (ne_fresh hD q)).trans q
theorem It.keep {adr : Nat → Addr} {key : Nat → Int} {n : Nat} {ls : Ls} {D : Addr} {us : List Value} (I : It adr key n ls) (hD : ls D = none) : It adr key n (Mine.upd ls D us) := fun i q => let ⟨t, e⟩ := I i q; ⟨t, up_keep hD e⟩
theorem none_of_upd {ls : Ls} {D a : Addr} {us : List Value} (h : upd ls D us a = none) : ls a = none ∧ a ≠ D := by
  unfold upd at h
  split at h
  · cases h
  · exact ⟨h, by assumption⟩

theorem run_start {ls : Ls} {AN AI H D1 D2 T : Addr} {vals : List Value} {adr : Nat → Addr} {key : Nat → Int} {N : Nat} {hp : List Nat} (hAN : ls AN = some vals) (hAI : ls AI = some ((List.range N).map (V adr))) (I : It adr key N ls)
    (inj : ∀ i j, i < N → j < N → adr i = adr j → i = j) (hn : 3 ≤ N) (hv : vals.length = N)
    (hm : ∀ i ∈ hp, i < N) (oH : ls H = none) (o1 : upd ls H (hp.map (V adr)) D1 = none) (o2 : upd (upd ls H (hp.map (V adr))) D1 [.none] D2 = none)
    (oT : upd (upd (upd ls H (hp.map (V adr))) D1 [.none]) D2 ([.none] ++ hp.map (V adr)) T = none) :
    Apart ls AN AI H T adr N ∧ RunS ls AN AI H T vals adr key N hp [(.no, hp)] (upd (upd (upd (upd ls H (hp.map (V adr))) D1 [.none]) D2 ([.none] ++ hp.map (V adr))) T [.ref D2]) := by
  have oT3 := none_of_upd oT
  have oT2 := none_of_upd oT3.1
  have oT1 := none_of_upd oT2.1
  have o22 := none_of_upd o2
  have o21 := none_of_upd o22.1
  have o11 := none_of_upd o1
  have oth : ∀ {a vs}, ls a = some vs → upd (upd (upd (upd ls H (hp.map (V adr))) D1 [.none]) D2 ([.none] ++ hp.map (V adr))) T [.ref D2] a = some vs := fun q => up_keep oT (up_keep o2 (up_keep o1 (up_keep oH q)))
  have ap : Apart ls AN AI H T adr N := {
    nH := ne_fresh oH hAN
    nT := ne_fresh oT1.1 hAN
    iH := ne_fresh oH hAI
    iT := ne_fresh oT1.1 hAI
    tH := oT1.2
    aH := fun i q => let ⟨_, e⟩ := I i q; ne_fresh oH e
    aT := fun i q => let ⟨_, e⟩ := I i q; ne_fresh oT1.1 e
    aN := fun i q z => by
      obtain ⟨t, e⟩ := I i q
      rw [z, hAN] at e
      have e' := congrArg List.length (Option.some.inj e)
      rw [hv] at e'
      have : N = 1 := e'
      omega
    aI := fun i q => I.ne hAI q
    oH := oH
    oT := oT1.1
    inj := inj }
  refine ⟨ap, ?_⟩
  exact {
    num := oth hAN
    its := oth hAI
    hps := up_keep oT (up_keep o2 (up_keep o1 upd_self))
    itm := fun i q => let ⟨t, e⟩ := I i q; ⟨t, oth e⟩
    tol := ⟨[D2], upd_self, .cons ⟨⟨.none, up_keep oT upd_self, rfl⟩, ⟨o21.2, oT3.2.symm, fun i q z => by
      obtain ⟨t, e⟩ := I i q
      rw [← z, o21.1] at e
      cases e⟩, hm⟩ .nil⟩
    old := fun a vs q => oth q
    mem := hm }

/-! what the run hands back -/
inductive Dv where
  | no
  | n (k : Nat)
  | t (m : String)
def DvV : Dv → Value → Prop
  | .no, v => v = .none
  | .n k, v => ∃ t, v = .int (k : Int) t
  | .t m, v => ∃ t, v = .str m t
def ansD : Ans → Dv
  | .no => .no
  | .it i => .n i
  | .err m => .t m
def rowD (x : Ans × List Nat) : List Dv := ansD x.1 :: x.2.map Dv.n
def Cell (ls : Ls) (d : Dv) (u : Value) : Prop := (d = .no ∧ u = .none) ∨ ∃ a us z, u = .ref a ∧ ls a = some (us ++ [z]) ∧ us.length < 2 ∧ DvV d z
def OutRow (ls : Ls) (row : List Dv) (d : Addr) : Prop := ∃ us, ls d = some us ∧ Paired DvV row us
def Res (ls : Ls) (R : Addr) (rows : List (List Dv)) : Prop := ∃ ds : List Addr, ls R = some (ds.map Value.ref) ∧ Paired (OutRow ls) rows ds

def ResF (ls₀ ls : Ls) (R : Addr) (rows : List (List Dv)) : Prop := ls₀ R = none ∧ ∃ ds : List Addr, ls R = some (ds.map Value.ref) ∧ Paired (fun row d => OutRow ls row d ∧ ls₀ d = none) rows ds

theorem Paired.get {α β : Type} {F : α → β → Prop} : ∀ {l : List α} {l' : List β}, Paired F l l' → ∀ {i : Nat} {b : β}, l'[i]? = some b → ∃ a, l[i]? = some a ∧ F a b
  | _, _, .nil, i, b, h => by simp at h
  | _, _, .cons x r, 0, b, h => ⟨_, rfl, by cases Option.some.inj h; exact x⟩
  | _, _, .cons x r, i + 1, b, h => Paired.get r (i := i) h
theorem take_more {α : Type} {l : List α} {i : Nat} {a : α} (h : l[i]? = some a) : l.take (i + 1) = l.take i ++ [a] := by
  rw [List.take_add_one, h]
  rfl
theorem map_cells {ls : Ls} {adr : Nat → Addr} {N : Nat} (hi : ∀ i, i < N → ∃ x t t', ls (adr i) = some [.int x t, .int (i : Int) t']) : ∀ {hp : List Nat}, (∀ i ∈ hp, i < N) → Paired (Cell ls) (hp.map Dv.n) (hp.map (V adr))
  | [], _ => .nil
  | i :: r, h => by
    obtain ⟨x, t, t', e⟩ := hi i (h i (.head _))
    exact .cons (.inr ⟨adr i, [.int x t], .int (i : Int) t', rfl, e, Nat.lt_succ_self 1, t', rfl⟩) (map_cells hi fun j q => h j (.tail _ q))
theorem row_cells {H T : Addr} {ls : Ls} {adr : Nat → Addr} {N : Nat} (hi : ∀ i, i < N → ∃ x t t', ls (adr i) = some [.int x t, .int (i : Int) t']) {x : Ans × List Nat} {r : Addr} (h : RowIs H T adr N ls x r) :
    ∃ vs, ls r = some vs ∧ vs.length = x.2.length + 1 ∧ Paired (Cell ls) (rowD x) vs := by
  obtain ⟨⟨v, h1, h2⟩, _, h4⟩ := h
  refine ⟨_, h1, by rw [List.length_cons, List.length_map], .cons ?_ (map_cells hi h4)⟩
  obtain ⟨a, hp⟩ := x
  cases a with
  | no => exact .inl ⟨rfl, h2⟩
  | it i =>
    obtain ⟨rfl, hN⟩ := h2
    obtain ⟨x, t, t', e⟩ := hi i hN
    exact .inr ⟨adr i, [.int x t], .int (i : Int) t', rfl, e, Nat.lt_succ_self 1, t', rfl⟩
  | err m =>
    obtain ⟨ea, tk, rfl, e, _⟩ := h2
    exact .inr ⟨ea, [], .str m tk, rfl, e, Nat.zero_lt_succ 1, tk, rfl⟩

/-- the second loop's state -/
structure Run2 (ls₀ : Ls) (AI H T : Addr) (adr : Nat → Addr) (N : Nat) (told : List (Ans × List Nat)) (i : Nat) (ls : Ls) : Prop where
  its : ls AI = some ((List.range N).map (V adr))
  tol : ∃ rs : List Addr, ls T = some (rs.map Value.ref) ∧ Paired (RowIs H T adr N ls) told rs
  done : ∀ j, j < i → ∃ x t t', ls (adr j) = some [.int x t, .int (j : Int) t']
  rest : ∀ j, i ≤ j → j < N → ∃ x t, ls (adr j) = some [.int x t]
  old : ∀ a vs, ls₀ a = some vs → (∀ j, j < N → a ≠ adr j) → ls a = some vs
theorem RunS.two {ls₀ ls : Ls} {AN AI H T : Addr} {vals : List Value} {adr : Nat → Addr} {key : Nat → Int} {N : Nat} {hp : List Nat} {told : List (Ans × List Nat)} (S : RunS ls₀ AN AI H T vals adr key N hp told ls) : Run2 ls₀ AI H T adr N told 0 ls where
  its := S.its
  tol := S.tol
  done := fun j h => absurd h (Nat.not_lt_zero _)
  rest := fun j _ h => let ⟨t, e⟩ := S.itm j h; ⟨_, t, e⟩
  old := fun a vs q _ => S.old a vs q
theorem Run2.step {ls₀ ls : Ls} {AN AI H T : Addr} {adr : Nat → Addr} {N i : Nat} {told : List (Ans × List Nat)} (S : Run2 ls₀ AI H T adr N told i ls) (P : Apart ls₀ AN AI H T adr N) (hi : i < N) {x : Int} {t t' : Tok} :
    Run2 ls₀ AI H T adr N told (i + 1) (upd ls (adr i) [.int x t, .int (i : Int) t']) where
  its := (upd_ne (P.aI i hi).symm).trans S.its
  tol := let ⟨rs, h1, h2⟩ := S.tol; ⟨rs, (upd_ne (P.aT i hi).symm).trans h1, Paired.mono (fun _ _ h => h.mono fun a us g q => (upd_ne (g.2.2 i hi)).trans q) h2⟩
  done := fun j h => by
    by_cases e : j = i
    · subst e; exact ⟨x, t, t', upd_self⟩
    · obtain ⟨y, u, u', q⟩ := S.done j (by omega)
      exact ⟨y, u, u', (upd_ne fun z => e (P.inj j i (by omega) hi z)).trans q⟩
  rest := fun j h1 h2 => by
    obtain ⟨y, u, q⟩ := S.rest j (by omega) h2
    exact ⟨y, u, (upd_ne fun z => by have := P.inj j i h2 hi z; omega).trans q⟩
  old := fun a vs q h => (upd_ne (h i hi)).trans (S.old a vs q h)

theorem Run2.none {ls₀ ls : Ls} {AI H T D : Addr} {adr : Nat → Addr} {N : Nat} {told : List (Ans × List Nat)} (S : Run2 ls₀ AI H T adr N told N ls) (h : ls D = none) : ls₀ D = none := by
  cases q : ls₀ D with
  | none => rfl
  | some vs =>
    exfalso
    by_cases e : ∃ j, j < N ∧ D = adr j
    · obtain ⟨j, hj, rfl⟩ := e
      obtain ⟨x, t, t', z⟩ := S.done j hj
      rw [h] at z
      cases z
    · have := S.old D vs q fun j hj z => e ⟨j, hj, z⟩
      rw [h] at this
      cases this
theorem none_back {ls ls' : Ls} {D : Addr} (k : ∀ a us, ls a = some us → ls' a = some us) (h : ls' D = none) : ls D = none := by
  cases q : ls D with
  | none => rfl
  | some vs => have := k D vs q; rw [h] at this; cases this

section
variable {prog : Program} {w : World} {A : Around} {E : Value → Shared → Prop} {s : Shared} {b : Heap} {fs : List (Addr × Fm)} {ls : Ls} {ps : List (Addr × Obj)} {a : Addr} {vs : List Value}
theorem lastw {value slice : PySem.Expr} {u : Tok} {v : Value} {Q : Value → Shared → Prop} (W : Wd b fs ls ps s.heap) (e : ls a = some (vs ++ [v])) (hz : vs.length < 2) (h : Q v s)
    (hs : subscripted slice false (.ref a) (.int (-1) u) = operate [.ref a, .int (-1) u] (getItem (.ref a) (.int (-1) u)) := by with_unfolding_all rfl) :
    wpAny (model prog w) A (subscriptTail value slice (.ref a) (.int (-1) u)) Q E s :=
  tail_any (W.isList e).typeIs slot_list_getitem.lookup (wpAny_getItem_list_neg (k := -1) (W.isList e) (by omega) (by simp; omega) (by omega) (by
    have q : ((-1 : Int) + ((vs ++ [v]).toArray.size : Int)).toNat = vs.length := by simp; omega
    rw [q]
    simp) h) hs
end
section
open PySem.SeqAt
variable {A : Around} {s : Shared} {b : Heap} {fs : List (Addr × Fm)} {ls : Ls} {ps : List (Addr × Obj)}
theorem ResF.res {ls₀ ls : Ls} {R : Addr} {rows : List (List Dv)} (h : ResF ls₀ ls R rows) : Res ls R rows := let ⟨_, ds, h1, h2⟩ := h; ⟨ds, h1, Paired.mono (fun _ _ q => q.1) h2⟩
theorem ResF.keep {ls₀ ls ls' : Ls} {R : Addr} {rows : List (List Dv)} (h : ResF ls₀ ls R rows) (k : ∀ a vs, ls a = some vs → ls₀ a = none → ls' a = some vs) : Res ls' R rows := by
  obtain ⟨h0, ds, h1, h2⟩ := h
  refine ⟨ds, k _ _ h1 h0, Paired.mono (fun row d q => ?_) h2⟩
  obtain ⟨⟨us, q1, q2⟩, q3⟩ := q
  exact ⟨us, k _ _ q1 q3, q2⟩
theorem all_true (n : Nat) : (List.range n).all (fun _ => true) = true := by simp
theorem eqCell {d : Dv} {u v : Value} (h1 : DvV d u) (h2 : DvV d v) : EqAt A s u v true := by
  cases d with
  | no => cases h1; cases h2; exact EqAt.same _
  | n k =>
    obtain ⟨t, rfl⟩ := h1
    obtain ⟨t', rfl⟩ := h2
    have := EqAt.int_int (A := A) (s := s) (k : Int) t (k : Int) t'
    rw [beq_self_eq_true] at this
    exact this
  | t m =>
    obtain ⟨t, rfl⟩ := h1
    obtain ⟨t', rfl⟩ := h2
    have := EqAt.str_str (A := A) (s := s) m t m t'
    rw [beq_self_eq_true] at this
    exact this
theorem paired_at {α β γ : Type} {F : α → β → Prop} {G : α → γ → Prop} : ∀ {l : List α} {m : List β} {n : List γ}, Paired F l m → Paired G l n → ∀ (j : Nat) (h1 : j < m.length) (h2 : j < n.length), ∃ a, F a m[j] ∧ G a n[j]
  | _, _, _, .nil, .nil, j, h1, _ => absurd h1 (Nat.not_lt_zero _)
  | _, _, _, .cons x r, .cons y q, 0, _, _ => ⟨_, x, y⟩
  | _, _, _, .cons x r, .cons y q, j + 1, h1, h2 => paired_at r q j (Nat.lt_of_succ_lt_succ h1) (Nat.lt_of_succ_lt_succ h2)
theorem eqRow {row : List Dv} {d d' : Addr} (W : Wd b fs ls ps s.heap) (hu : A.units < cLine) (h1 : OutRow ls row d) (h2 : OutRow ls row d') : EqAt A s (.ref d) (.ref d') true := by
  by_cases e : d = d'
  · subst e; exact EqAt.same _
  · obtain ⟨us, q1, q2⟩ := h1
    obtain ⟨vs, r1, r2⟩ := h2
    refine EqAt.of_refs e ?_
    have l1 := Paired.length q2
    have l2 := Paired.length r2
    have := RcAt.lists (A := A) (e := fun _ => true) (W.isList q1) (W.isList r1) (by simp; omega) hu fun j h1 h2 => by
      obtain ⟨x, y1, y2⟩ := paired_at q2 r2 j (by simpa using h1) (by simpa using h2)
      exact eqCell (by simpa using y1) (by simpa using y2)
    rw [all_true] at this
    exact this
theorem eqw {prog : Program} {w : World} {E : Value → Shared → Prop} {rows : List (List Dv)} {R R' : Addr} {Q : Value → Shared → Prop} (W : Wd b fs ls ps s.heap) (hu : A.units + 2 < cLine) (h1 : Res ls R rows) (h2 : Res ls R' rows) (h : Q (.bool true) s) :
    wpAny (model prog w) A (compareOp .Eq (.ref R) (.ref R')) Q E s := by
  obtain ⟨ds, q1, q2⟩ := h1
  obtain ⟨es, r1, r2⟩ := h2
  have l1 := Paired.length q2
  have l2 := Paired.length r2
  refine eq_listAt (e := fun _ => true) (W.isList q1) (W.isList r1) (by simp; omega) (by omega) (fun j h1 h2 => ?_) (by rw [all_true]; exact h)
  obtain ⟨x, y1, y2⟩ := paired_at q2 r2 j (by simpa using h1) (by simpa using h2)
  have := eqRow (A := A.in1) W (by show A.units + 1 < cLine; omega) y1 y2
  simpa using this
end
theorem fill : (fun (_ : OpenLaw) (_ : Params → Frag) => True) PySem.Challenge.rw_dp0044_01 Mine.hd.heap_39 := by
  k_fill
  trivial
local macro_rules | `(tactic| walk_at "lk") => `(tactic| first | (with_reducible assumption) | (with_reducible exact setm_self) | (with_reducible refine setm_ne (by decide) ?_; walk_at "lk"))
local macro_rules | `(tactic| walk_at "eval Name") => `(tactic| (plain_pass; k_dflt (refine' blw ?c ?w ?e ?v ?n ?_; (case c => assumption); (case w => assumption); (case e => k_is); (case v => boot_by_name); (case n => decide))))
local macro_rules | `(tactic| walk_at "eval Name") => `(tactic| (plain_pass; k_dflt (refine' glw ?c ?w ?e ?_; (case c => assumption); (case w => assumption); (case e => k_is))))
local macro_rules | `(tactic| walk_at "eval Name") => `(tactic| (refine ldw (by assumption) (by walk_at "lk") ?_))
local macro_rules | `(tactic| walk_at "callWith ref") => `(tactic| (k_dflt (refine' cww ?c ?k ?_; (case c => assumption); (case k => k_is))))
local macro_rules | `(tactic| walk_at "And") => `(tactic| (refine ⟨Cx.at (by assumption) (by assumption), ?_⟩; (try dsimp only [List.nil_append, List.cons_append])))
local macro_rules | `(tactic| walk_at "call builtin:len") => `(tactic| (refine' lenw ?w ?e ?z ?_; (case w => assumption); (case e => first | assumption | exact upd_self); (case z => first | omega | (simp only [List.length_map]; omega) | (simp only [List.length_map, List.length_range]; omega)); intro t' tk'; (try simp only [List.length_map, List.length_range])))
local macro_rules | `(tactic| walk_at "go") => `(tactic| repeat (first | walk1 | (dsimp only; walk1)))
local macro_rules | `(tactic| walk_at "enter") => `(tactic| ((case ho => k_is); (case hcd => k_is); (case hb => exact BindsTo.of_eq rfl); (case hl => exact locs rfl); (case c1 => exact rfl); (case c2 => exact rfl); (case c3 => exact rfl); (case c4 => decide)))
local macro_rules | `(tactic| walk_at "storeName") => `(tactic| (refine stw (by assumption) ?_; intro h' tk' W'; (try dsimp only)))
local macro_rules | `(tactic| walk_at "binaryOp RShift int int") => `(tactic| (refine shr1 (by omega) ?_; intro tk'))
local macro_rules | `(tactic| walk_at "getMethod ref") => `(tactic| ((with_reducible show wpAny _ _ (getMethod _ (Str.ofString "pop") _) _ _ _); refine' methw ?w ?e PySem.F.slot_list_pop PySem.F.type_list_pop ?_; (case w => assumption); (case e => first | assumption | exact upd_self)))
local macro_rules | `(tactic| walk_at "getMethod ref") => `(tactic| ((with_reducible show wpAny _ _ (getMethod _ (Str.ofString "append") _) _ _ _); refine' methw ?w ?e PySem.F.slot_list_append PySem.F.type_list_append ?_; (case w => assumption); (case e => first | assumption | exact upd_self)))
local macro_rules | `(tactic| walk_at "binaryOp FloorDiv int int") => `(tactic| (first | (refine divNat (k := 2) rfl (by decide) (by decide) ?_; intro tk') | (refine divNat (k := 3) rfl (by decide) (by decide) ?_; intro tk')))
local macro_rules | `(tactic| walk_at "call type:range") => `(tactic| (refine rangew1 (by assumption) ?_; intro r' t' v' h' tk' R' W'))
local macro_rules | `(tactic| walk_at "call type:range") => `(tactic| (refine rangew2 (by assumption) ?_; intro r' v' h' tk' R' W'))
local macro_rules | `(tactic| walk_at "call type:reversed") => `(tactic| (refine revw (by assumption) (by assumption) (by omega) ?_; intro it' h' W'))
local macro_rules | `(tactic| walk_at "exec For") => `(tactic| (refine wpAny_For ?_))
local macro_rules | `(tactic| walk_at "callWith ref") => `(tactic| (k_dflt (refine' cww ?c ?k ?_; (case c => assumption); (case k => with_reducible assumption))))
/-- what holds between the turns of _siftdown -/
def SdI (b : Heap) (fs : List (Addr × Fm)) (ls : Ls) (ps : List (Addr × Obj)) (s₀ : Shared) (L H : Addr) (adr : Nat → Addr) (lt : Nat → Nat → Bool) (start new N ln : Nat) (t : Tok) (res : List Nat) (n : Nat) (s : Shared) : Prop :=
  ∃ h' tk m hp pos tp, s = { s₀ with heap := h', toks := tk } ∧ Wd b ((L, m) :: fs) (upd ls H (hp.map (V adr))) ps h' ∧
    m (Str.ofString "heap") = some (.ref H) ∧ m (Str.ofString "startpos") = some (.int start t) ∧ m (Str.ofString "pos") = some (.int (pos : Nat) tp) ∧ m (Str.ofString "newitem") = some (V adr new) ∧
    pos < hp.length ∧ hp.length = ln ∧ (∀ i ∈ hp, i < N) ∧ pos ≤ n ∧ sdLoop lt start new n hp pos = res

theorem sdMin {prog : Program} {w : World} {A : Around} {E : Value → Shared → Prop} {s : Shared} {b : Heap} {fs : List (Addr × Fm)} {ls : Ls} {ps : List (Addr × Obj)} {mg mb : Fm} {H : Addr} {start pos N : Nat} {t u : Tok}
    {adr : Nat → Addr} {key : Nat → Int} {lt : Nat → Nat → Bool} {hp : List Nat}
    {Q : Value → Shared → Prop} (C : Cx w mg mb b) (W : Wd b fs ls ps s.heap) (hH : ls H = some (hp.map (V adr))) (I : It adr key N ls) (hN : ∀ i ∈ hp, i < N) (hc : ∀ i j, lt i j = decide (key i < key j))
    (hpos : pos < hp.length) (hlen : hp.length < 2 ^ 60) (hroom : A.depth < recursionLimit) (hu : A.units + 8 < cLine)
    (h : ∀ h' tk, Wd b fs (upd ls H ((sdA lt hp start pos).map (V adr))) ps h' → Q .none { s with heap := h', toks := tk }) :
    wpAny (model prog w) A (call (.ref 70) [.ref H, .int start t, .int pos u]) Q E s := by
  refine' callw (binds := [(Str.ofString "heap", .ref H), (Str.ofString "startpos", .int start t), (Str.ofString "pos", .int pos u)]) C W ?ho ?hcd hroom ?hb ?hl ?_ ?c1 ?c2 ?c3 ?c4
  walk_at "enter"
  intro L' h' tk' W'
  generalize hm : (fun y => List.lookup y [(Str.ofString "heap", Value.ref H), (Str.ofString "startpos", .int start t), (Str.ofString "pos", .int pos u)].reverse) = m at W'
  have m1 : m (Str.ofString "heap") = some (.ref H) := by rw [← hm]; rfl
  have m2 : m (Str.ofString "startpos") = some (.int start t) := by rw [← hm]; rfl
  have m3 : m (Str.ofString "pos") = some (.int pos u) := by rw [← hm]; rfl
  clear hm
  have hne : ∀ i, i < N → adr i ≠ H := fun i q => I.ne hH q
  walk_at "go"
  refine subh W' hH rfl hpos hlen ?_
  walk_at "go"
  refine whilew (SdI b fs ls ps s L' H adr lt start (hp.getD pos 0) N hp.length t (sdA lt hp start pos)) ?_ pos
    ⟨_, _, _, hp, pos, u, rfl, by rw [upd_same hH]; assumption, by walk_at "lk", by walk_at "lk", by walk_at "lk", by walk_at "lk", hpos, rfl, hN, Nat.le_refl _, rfl⟩
  clear W' m1 m2 m3
  rintro n s' ⟨h₁, tk₁, m', hp', pos', tp, rfl, W₁, k1, k2, k3, k4, k5, k6, k7, k8, k9⟩
  have hnew : hp.getD pos 0 < N := hN _ (getD_mem hpos)
  have I' : It adr key N (upd ls H (hp'.map (V adr))) := I.upd hne
  have last : ∀ h₂ tk₂ m₂, hp'.set pos' (hp.getD pos 0) = sdA lt hp start pos → Wd b ((L', m₂) :: fs) (upd (upd ls H (hp'.map (V adr))) H ((hp'.set pos' (hp.getD pos 0)).map (V adr))) ps h₂ → Q .none { s with heap := h₂, toks := tk₂ } := fun h₂ tk₂ m₂ e W₂ => by
    rw [upd_upd, e] at W₂
    exact h _ _ W₂.pop
  walk_at "go"
  · rename_i hgt _ _ W₂
    have hgt' : start < pos' := by omega
    obtain ⟨n, rfl⟩ : ∃ j, n = j + 1 := ⟨n - 1, by omega⟩
    have hpp : (pos' - 1) / 2 < hp'.length := by omega
    have hparN : hp'.getD ((pos' - 1) / 2) 0 < N := k7 _ (getD_mem hpp)
    rw [sdLoop, if_pos hgt'] at k9
    refine subh W₂ upd_self rfl hpp (by omega) ?_
    walk_at "go"
    obtain ⟨ta, ea⟩ := I' _ hnew
    obtain ⟨tb, eb⟩ := I' _ hparN
    refine ltw (by assumption) ea eb (by show A.units + 3 < cLine; omega) ?_
    rw [← hc]
    walk_at "go"
    · rename_i hlt
      rw [if_pos hlt] at k9
      refine seth (by assumption) upd_self rfl k5 (by omega) ?_
      intro h₃ W₃
      rw [upd_upd] at W₃
      walk_at "go"
      exact ⟨n, Nat.lt_succ_self n, _, _, _, _, _, _, rfl, (by assumption), by walk_at "lk", by walk_at "lk", by walk_at "lk", by walk_at "lk", by rw [List.length_set]; exact hpp, by rw [List.length_set]; exact k6,
        fun i hi => (mem_set' hi).elim (fun e => e ▸ hparN) (k7 i), by omega, k9⟩
    · rename_i hlt
      rw [if_neg (by rw [hlt]; decide)] at k9
      walk_at "go"
      refine seth (by assumption) upd_self rfl k5 (by omega) ?_
      intro h₃ W₃
      walk_at "go"
      exact last _ _ _ k9 W₃
  · rename_i hgt
    have k9' : hp'.set pos' (hp.getD pos 0) = sdA lt hp start pos := by
      rw [← k9]
      cases n with
      | zero => rfl
      | succ n => rw [sdLoop, if_neg (by omega)]
    walk_at "go"
    refine seth (by assumption) upd_self rfl k5 (by omega) ?_
    intro h₃ W₃
    walk_at "go"
    exact last _ _ _ k9' W₃

theorem sdMax {prog : Program} {w : World} {A : Around} {E : Value → Shared → Prop} {s : Shared} {b : Heap} {fs : List (Addr × Fm)} {ls : Ls} {ps : List (Addr × Obj)} {mg mb : Fm} {H : Addr} {start pos N : Nat} {t u : Tok}
    {adr : Nat → Addr} {key : Nat → Int} {lt : Nat → Nat → Bool} {hp : List Nat}
    {Q : Value → Shared → Prop} (C : Cx w mg mb b) (W : Wd b fs ls ps s.heap) (hH : ls H = some (hp.map (V adr))) (I : It adr key N ls) (hN : ∀ i ∈ hp, i < N) (hc : ∀ i j, lt i j = decide (key j < key i))
    (hpos : pos < hp.length) (hlen : hp.length < 2 ^ 60) (hroom : A.depth < recursionLimit) (hu : A.units + 8 < cLine)
    (h : ∀ h' tk, Wd b fs (upd ls H ((sdA lt hp start pos).map (V adr))) ps h' → Q .none { s with heap := h', toks := tk }) :
    wpAny (model prog w) A (call (.ref 84) [.ref H, .int start t, .int pos u]) Q E s := by
  refine' callw (binds := [(Str.ofString "heap", .ref H), (Str.ofString "startpos", .int start t), (Str.ofString "pos", .int pos u)]) C W ?ho ?hcd hroom ?hb ?hl ?_ ?c1 ?c2 ?c3 ?c4
  walk_at "enter"
  intro L' h' tk' W'
  generalize hm : (fun y => List.lookup y [(Str.ofString "heap", Value.ref H), (Str.ofString "startpos", .int start t), (Str.ofString "pos", .int pos u)].reverse) = m at W'
  have m1 : m (Str.ofString "heap") = some (.ref H) := by rw [← hm]; rfl
  have m2 : m (Str.ofString "startpos") = some (.int start t) := by rw [← hm]; rfl
  have m3 : m (Str.ofString "pos") = some (.int pos u) := by rw [← hm]; rfl
  clear hm
  have hne : ∀ i, i < N → adr i ≠ H := fun i q => I.ne hH q
  walk_at "go"
  refine subh W' hH rfl hpos hlen ?_
  walk_at "go"
  refine whilew (SdI b fs ls ps s L' H adr lt start (hp.getD pos 0) N hp.length t (sdA lt hp start pos)) ?_ pos
    ⟨_, _, _, hp, pos, u, rfl, by rw [upd_same hH]; assumption, by walk_at "lk", by walk_at "lk", by walk_at "lk", by walk_at "lk", hpos, rfl, hN, Nat.le_refl _, rfl⟩
  clear W' m1 m2 m3
  rintro n s' ⟨h₁, tk₁, m', hp', pos', tp, rfl, W₁, k1, k2, k3, k4, k5, k6, k7, k8, k9⟩
  have hnew : hp.getD pos 0 < N := hN _ (getD_mem hpos)
  have I' : It adr key N (upd ls H (hp'.map (V adr))) := I.upd hne
  have last : ∀ h₂ tk₂ m₂, hp'.set pos' (hp.getD pos 0) = sdA lt hp start pos → Wd b ((L', m₂) :: fs) (upd (upd ls H (hp'.map (V adr))) H ((hp'.set pos' (hp.getD pos 0)).map (V adr))) ps h₂ → Q .none { s with heap := h₂, toks := tk₂ } := fun h₂ tk₂ m₂ e W₂ => by
    rw [upd_upd, e] at W₂
    exact h _ _ W₂.pop
  walk_at "go"
  · rename_i hgt _ _ W₂
    have hgt' : start < pos' := by omega
    obtain ⟨n, rfl⟩ : ∃ j, n = j + 1 := ⟨n - 1, by omega⟩
    have hpp : (pos' - 1) / 2 < hp'.length := by omega
    have hparN : hp'.getD ((pos' - 1) / 2) 0 < N := k7 _ (getD_mem hpp)
    rw [sdLoop, if_pos hgt'] at k9
    refine subh W₂ upd_self rfl hpp (by omega) ?_
    walk_at "go"
    obtain ⟨ta, ea⟩ := I' _ hnew
    obtain ⟨tb, eb⟩ := I' _ hparN
    refine ltw (by assumption) eb ea (by show A.units + 3 < cLine; omega) ?_
    rw [← hc]
    walk_at "go"
    · rename_i hlt
      rw [if_pos hlt] at k9
      refine seth (by assumption) upd_self rfl k5 (by omega) ?_
      intro h₃ W₃
      rw [upd_upd] at W₃
      walk_at "go"
      exact ⟨n, Nat.lt_succ_self n, _, _, _, _, _, _, rfl, (by assumption), by walk_at "lk", by walk_at "lk", by walk_at "lk", by walk_at "lk", by rw [List.length_set]; exact hpp, by rw [List.length_set]; exact k6,
        fun i hi => (mem_set' hi).elim (fun e => e ▸ hparN) (k7 i), by omega, k9⟩
    · rename_i hlt
      rw [if_neg (by rw [hlt]; decide)] at k9
      walk_at "go"
      refine seth (by assumption) upd_self rfl k5 (by omega) ?_
      intro h₃ W₃
      walk_at "go"
      exact last _ _ _ k9 W₃
  · rename_i hgt
    have k9' : hp'.set pos' (hp.getD pos 0) = sdA lt hp start pos := by
      rw [← k9]
      cases n with
      | zero => rfl
      | succ n => rw [sdLoop, if_neg (by omega)]
    walk_at "go"
    refine seth (by assumption) upd_self rfl k5 (by omega) ?_
    intro h₃ W₃
    walk_at "go"
    exact last _ _ _ k9' W₃

/-- what holds between the turns of _siftup -/
def SuI (b : Heap) (fs : List (Addr × Fm)) (ls : Ls) (ps : List (Addr × Obj)) (s₀ : Shared) (L H : Addr) (adr : Nat → Addr) (lt : Nat → Nat → Bool) (start new N ln : Nat) (res : List Nat × Nat) (n : Nat) (s : Shared) : Prop :=
  ∃ h' tk m hp pos p c te ts tp tc, s = { s₀ with heap := h', toks := tk } ∧ Wd b ((L, m) :: fs) (upd ls H (hp.map (V adr))) ps h' ∧
    m (Str.ofString "heap") = some (.ref H) ∧ m (Str.ofString "endpos") = some (.int ln te) ∧ m (Str.ofString "startpos") = some (.int start ts) ∧ m (Str.ofString "pos") = some (.int p tp) ∧ m (Str.ofString "childpos") = some (.int c tc) ∧
    m (Str.ofString "newitem") = some (V adr new) ∧ p = (pos : Nat) ∧ c = 2 * (pos : Int) + 1 ∧
    pos < hp.length ∧ hp.length = ln ∧ (∀ i ∈ hp, i < N) ∧ ln ≤ n + pos ∧ suLoop lt n hp pos = res

theorem suMin {prog : Program} {w : World} {A : Around} {E : Value → Shared → Prop} {s : Shared} {b : Heap} {fs : List (Addr × Fm)} {ls : Ls} {ps : List (Addr × Obj)} {mg mb : Fm} {H : Addr} {pos N : Nat} {u : Tok}
    {adr : Nat → Addr} {key : Nat → Int} {lt : Nat → Nat → Bool} {hp : List Nat}
    {Q : Value → Shared → Prop} (C : Cx w mg mb b) (W : Wd b fs ls ps s.heap) (hH : ls H = some (hp.map (V adr))) (I : It adr key N ls) (hN : ∀ i ∈ hp, i < N) (hc : ∀ i j, lt i j = decide (key i < key j))
    (hpos : pos < hp.length) (hlen : hp.length < 2 ^ 60) (hroom : A.depth + 1 < recursionLimit) (hu : A.units + 16 < cLine)
    (h : ∀ h' tk, Wd b fs (upd ls H ((suA lt hp pos).map (V adr))) ps h' → Q .none { s with heap := h', toks := tk }) :
    wpAny (model prog w) A (call (.ref 77) [.ref H, .int pos u]) Q E s := by
  refine' callw (binds := [(Str.ofString "heap", .ref H), (Str.ofString "pos", .int pos u)]) C W ?ho ?hcd (by omega) ?hb ?hl ?_ ?c1 ?c2 ?c3 ?c4
  walk_at "enter"
  intro L' h' tk' W'
  generalize hm : (fun y => List.lookup y [(Str.ofString "heap", Value.ref H), (Str.ofString "pos", .int pos u)].reverse) = m at W'
  have m1 : m (Str.ofString "heap") = some (.ref H) := by rw [← hm]; rfl
  have m3 : m (Str.ofString "pos") = some (.int pos u) := by rw [← hm]; rfl
  clear hm
  have hne : ∀ i, i < N → adr i ≠ H := fun i q => I.ne hH q
  walk_at "go"
  refine subh (by assumption) hH rfl hpos hlen ?_
  walk_at "go"
  have l := suLoop_len (lt := lt) hp.length hp pos hpos
  have hnew : hp.getD pos 0 < N := hN _ (getD_mem hpos)
  refine whilew (SuI b fs ls ps s L' H adr lt pos (hp.getD pos 0) N hp.length (suLoop lt hp.length hp pos)) ?_ hp.length
    ⟨_, _, _, hp, pos, _, _, _, _, _, _, rfl, by rw [upd_same hH]; assumption, by walk_at "lk", by walk_at "lk", by walk_at "lk", by walk_at "lk", by walk_at "lk", by walk_at "lk", rfl, rfl, hpos, rfl, hN, by omega, rfl⟩
  clear W' m1 m3
  rintro n s' ⟨h₁, tk₁, m', hp', pos', p', c', te, ts, tp, tc, rfl, W₁, k1, k2, k3, k4, k5, k6, rfl, rfl, k7, k8, k9, k10, k11⟩
  have I' : It adr key N (upd ls H (hp'.map (V adr))) := I.upd hne
  walk_at "go"
  · rename_i hq' _ _ _ hr'
    have hq : 2 * pos' + 1 < hp'.length := by omega
    have hr : 2 * pos' + 2 < hp'.length := by omega
    obtain ⟨n, rfl⟩ : ∃ j, n = j + 1 := ⟨n - 1, by omega⟩
    rw [suLoop, if_pos hq] at k11
    refine subh (by assumption) upd_self (j := 2 * pos' + 1) (by omega) hq (by omega) ?_
    walk_at "go"
    refine subh (by assumption) upd_self (j := 2 * pos' + 2) (by omega) hr (by omega) ?_
    obtain ⟨ta, ea⟩ := I' _ (k9 _ (getD_mem hq))
    obtain ⟨tb, eb⟩ := I' _ (k9 _ (getD_mem hr))
    refine ltw (by assumption) ea eb (by show A.units + 3 < cLine; omega) ?_
    rw [← hc]
    walk_at "go"
    · rename (lt _ _ = true) => hlt
      have hch : suChild lt hp' pos' = 2 * pos' + 1 := by rw [suChild, if_pos hr, if_pos hlt]
      walk_at "go"
      refine subh (by assumption) upd_self (j := suChild lt hp' pos') (by rw [hch]; omega) (suChild_lt hq).1 (by omega) ?_
      walk_at "go"
      refine seth (by assumption) upd_self rfl k7 (by omega) ?_
      intro h₃ W₃
      rw [upd_upd] at W₃
      walk_at "go"
      exact ⟨n, Nat.lt_succ_self n, _, _, _, _, suChild lt hp' pos', _, _, _, _, _, _, rfl, (by assumption), by walk_at "lk", by walk_at "lk", by walk_at "lk", by walk_at "lk", by walk_at "lk", by walk_at "lk", by rw [hch]; omega, by rw [hch]; omega,
        by rw [List.length_set]; exact (suChild_lt hq).1, by rw [List.length_set]; exact k8, fun i hi => (mem_set' hi).elim (fun e => e ▸ k9 _ (getD_mem (suChild_lt hq).1)) (k9 i), by have := (suChild_lt (lt := lt) hq).2; omega, k11⟩
    · rename (lt _ _ = false) => hlt
      have hch : suChild lt hp' pos' = 2 * pos' + 2 := by rw [suChild, if_pos hr, if_neg (by rw [hlt]; decide)]
      walk_at "go"
      refine subh (by assumption) upd_self (j := suChild lt hp' pos') (by rw [hch]; omega) (suChild_lt hq).1 (by omega) ?_
      walk_at "go"
      refine seth (by assumption) upd_self rfl k7 (by omega) ?_
      intro h₃ W₃
      rw [upd_upd] at W₃
      walk_at "go"
      exact ⟨n, Nat.lt_succ_self n, _, _, _, _, suChild lt hp' pos', _, _, _, _, _, _, rfl, (by assumption), by walk_at "lk", by walk_at "lk", by walk_at "lk", by walk_at "lk", by walk_at "lk", by walk_at "lk", by rw [hch]; omega, by rw [hch]; omega,
        by rw [List.length_set]; exact (suChild_lt hq).1, by rw [List.length_set]; exact k8, fun i hi => (mem_set' hi).elim (fun e => e ▸ k9 _ (getD_mem (suChild_lt hq).1)) (k9 i), by have := (suChild_lt (lt := lt) hq).2; omega, k11⟩
  · rename_i hq' _ _ _ hr'
    have hq : 2 * pos' + 1 < hp'.length := by omega
    have hch : suChild lt hp' pos' = 2 * pos' + 1 := by rw [suChild, if_neg (by omega)]
    obtain ⟨n, rfl⟩ : ∃ j, n = j + 1 := ⟨n - 1, by omega⟩
    rw [suLoop, if_pos hq] at k11
    rw [if_neg (by decide)]
    walk_at "go"
    refine subh (by assumption) upd_self (j := suChild lt hp' pos') (by rw [hch]; omega) (suChild_lt hq).1 (by omega) ?_
    walk_at "go"
    refine seth (by assumption) upd_self rfl k7 (by omega) ?_
    intro h₃ W₃
    rw [upd_upd] at W₃
    walk_at "go"
    exact ⟨n, Nat.lt_succ_self n, _, _, _, _, suChild lt hp' pos', _, _, _, _, _, _, rfl, (by assumption), by walk_at "lk", by walk_at "lk", by walk_at "lk", by walk_at "lk", by walk_at "lk", by walk_at "lk", by rw [hch]; omega, by rw [hch]; omega,
      by rw [List.length_set]; exact (suChild_lt hq).1, by rw [List.length_set]; exact k8, fun i hi => (mem_set' hi).elim (fun e => e ▸ k9 _ (getD_mem (suChild_lt hq).1)) (k9 i), by have := (suChild_lt (lt := lt) hq).2; omega, k11⟩
  · rename_i hq'
    have k11' : suLoop lt hp.length hp pos = (hp', pos') := by
      rw [← k11]
      cases n with
      | zero => rfl
      | succ n => rw [suLoop, if_neg (by omega)]
    have e1 : suA lt hp pos = sdA lt (hp'.set pos' (hp.getD pos 0)) pos pos' := by rw [suA, k11']
    walk_at "go"
    refine seth (by assumption) upd_self rfl k7 (by omega) ?_
    intro h₃ W₃
    rw [upd_upd] at W₃
    walk_at "go"
    refine sdMin C (by assumption) upd_self (I.upd hne) (fun i hi => (mem_set' hi).elim (fun e => e ▸ hnew) (k9 i)) hc (by rw [List.length_set]; exact k7) (by rw [List.length_set]; omega) hroom (by show A.units + 3 + 8 < cLine; omega) ?_
    intro h₄ tk₄ W₄
    rw [upd_upd, ← e1] at W₄
    walk_at "go"
    exact h _ _ W₄.pop

theorem suMax {prog : Program} {w : World} {A : Around} {E : Value → Shared → Prop} {s : Shared} {b : Heap} {fs : List (Addr × Fm)} {ls : Ls} {ps : List (Addr × Obj)} {mg mb : Fm} {H : Addr} {pos N : Nat} {u : Tok}
    {adr : Nat → Addr} {key : Nat → Int} {lt : Nat → Nat → Bool} {hp : List Nat}
    {Q : Value → Shared → Prop} (C : Cx w mg mb b) (W : Wd b fs ls ps s.heap) (hH : ls H = some (hp.map (V adr))) (I : It adr key N ls) (hN : ∀ i ∈ hp, i < N) (hc : ∀ i j, lt i j = decide (key j < key i))
    (hpos : pos < hp.length) (hlen : hp.length < 2 ^ 60) (hroom : A.depth + 1 < recursionLimit) (hu : A.units + 16 < cLine)
    (h : ∀ h' tk, Wd b fs (upd ls H ((suA lt hp pos).map (V adr))) ps h' → Q .none { s with heap := h', toks := tk }) :
    wpAny (model prog w) A (call (.ref 91) [.ref H, .int pos u]) Q E s := by
  refine' callw (binds := [(Str.ofString "heap", .ref H), (Str.ofString "pos", .int pos u)]) C W ?ho ?hcd (by omega) ?hb ?hl ?_ ?c1 ?c2 ?c3 ?c4
  walk_at "enter"
  intro L' h' tk' W'
  generalize hm : (fun y => List.lookup y [(Str.ofString "heap", Value.ref H), (Str.ofString "pos", .int pos u)].reverse) = m at W'
  have m1 : m (Str.ofString "heap") = some (.ref H) := by rw [← hm]; rfl
  have m3 : m (Str.ofString "pos") = some (.int pos u) := by rw [← hm]; rfl
  clear hm
  have hne : ∀ i, i < N → adr i ≠ H := fun i q => I.ne hH q
  walk_at "go"
  refine subh (by assumption) hH rfl hpos hlen ?_
  walk_at "go"
  have l := suLoop_len (lt := lt) hp.length hp pos hpos
  have hnew : hp.getD pos 0 < N := hN _ (getD_mem hpos)
  refine whilew (SuI b fs ls ps s L' H adr lt pos (hp.getD pos 0) N hp.length (suLoop lt hp.length hp pos)) ?_ hp.length
    ⟨_, _, _, hp, pos, _, _, _, _, _, _, rfl, by rw [upd_same hH]; assumption, by walk_at "lk", by walk_at "lk", by walk_at "lk", by walk_at "lk", by walk_at "lk", by walk_at "lk", rfl, rfl, hpos, rfl, hN, by omega, rfl⟩
  clear W' m1 m3
  rintro n s' ⟨h₁, tk₁, m', hp', pos', p', c', te, ts, tp, tc, rfl, W₁, k1, k2, k3, k4, k5, k6, rfl, rfl, k7, k8, k9, k10, k11⟩
  have I' : It adr key N (upd ls H (hp'.map (V adr))) := I.upd hne
  walk_at "go"
  · rename_i hq' _ _ _ hr'
    have hq : 2 * pos' + 1 < hp'.length := by omega
    have hr : 2 * pos' + 2 < hp'.length := by omega
    obtain ⟨n, rfl⟩ : ∃ j, n = j + 1 := ⟨n - 1, by omega⟩
    rw [suLoop, if_pos hq] at k11
    refine subh (by assumption) upd_self (j := 2 * pos' + 2) (by omega) hr (by omega) ?_
    walk_at "go"
    refine subh (by assumption) upd_self (j := 2 * pos' + 1) (by omega) hq (by omega) ?_
    obtain ⟨ta, ea⟩ := I' _ (k9 _ (getD_mem hq))
    obtain ⟨tb, eb⟩ := I' _ (k9 _ (getD_mem hr))
    refine ltw (by assumption) eb ea (by show A.units + 3 < cLine; omega) ?_
    rw [← hc]
    walk_at "go"
    · rename (lt _ _ = true) => hlt
      have hch : suChild lt hp' pos' = 2 * pos' + 1 := by rw [suChild, if_pos hr, if_pos hlt]
      walk_at "go"
      refine subh (by assumption) upd_self (j := suChild lt hp' pos') (by rw [hch]; omega) (suChild_lt hq).1 (by omega) ?_
      walk_at "go"
      refine seth (by assumption) upd_self rfl k7 (by omega) ?_
      intro h₃ W₃
      rw [upd_upd] at W₃
      walk_at "go"
      exact ⟨n, Nat.lt_succ_self n, _, _, _, _, suChild lt hp' pos', _, _, _, _, _, _, rfl, (by assumption), by walk_at "lk", by walk_at "lk", by walk_at "lk", by walk_at "lk", by walk_at "lk", by walk_at "lk", by rw [hch]; omega, by rw [hch]; omega,
        by rw [List.length_set]; exact (suChild_lt hq).1, by rw [List.length_set]; exact k8, fun i hi => (mem_set' hi).elim (fun e => e ▸ k9 _ (getD_mem (suChild_lt hq).1)) (k9 i), by have := (suChild_lt (lt := lt) hq).2; omega, k11⟩
    · rename (lt _ _ = false) => hlt
      have hch : suChild lt hp' pos' = 2 * pos' + 2 := by rw [suChild, if_pos hr, if_neg (by rw [hlt]; decide)]
      walk_at "go"
      refine subh (by assumption) upd_self (j := suChild lt hp' pos') (by rw [hch]; omega) (suChild_lt hq).1 (by omega) ?_
      walk_at "go"
      refine seth (by assumption) upd_self rfl k7 (by omega) ?_
      intro h₃ W₃
      rw [upd_upd] at W₃
      walk_at "go"
      exact ⟨n, Nat.lt_succ_self n, _, _, _, _, suChild lt hp' pos', _, _, _, _, _, _, rfl, (by assumption), by walk_at "lk", by walk_at "lk", by walk_at "lk", by walk_at "lk", by walk_at "lk", by walk_at "lk", by rw [hch]; omega, by rw [hch]; omega,
        by rw [List.length_set]; exact (suChild_lt hq).1, by rw [List.length_set]; exact k8, fun i hi => (mem_set' hi).elim (fun e => e ▸ k9 _ (getD_mem (suChild_lt hq).1)) (k9 i), by have := (suChild_lt (lt := lt) hq).2; omega, k11⟩
  · rename_i hq' _ _ _ hr'
    have hq : 2 * pos' + 1 < hp'.length := by omega
    have hch : suChild lt hp' pos' = 2 * pos' + 1 := by rw [suChild, if_neg (by omega)]
    obtain ⟨n, rfl⟩ : ∃ j, n = j + 1 := ⟨n - 1, by omega⟩
    rw [suLoop, if_pos hq] at k11
    rw [if_neg (by decide)]
    walk_at "go"
    refine subh (by assumption) upd_self (j := suChild lt hp' pos') (by rw [hch]; omega) (suChild_lt hq).1 (by omega) ?_
    walk_at "go"
    refine seth (by assumption) upd_self rfl k7 (by omega) ?_
    intro h₃ W₃
    rw [upd_upd] at W₃
    walk_at "go"
    exact ⟨n, Nat.lt_succ_self n, _, _, _, _, suChild lt hp' pos', _, _, _, _, _, _, rfl, (by assumption), by walk_at "lk", by walk_at "lk", by walk_at "lk", by walk_at "lk", by walk_at "lk", by walk_at "lk", by rw [hch]; omega, by rw [hch]; omega,
      by rw [List.length_set]; exact (suChild_lt hq).1, by rw [List.length_set]; exact k8, fun i hi => (mem_set' hi).elim (fun e => e ▸ k9 _ (getD_mem (suChild_lt hq).1)) (k9 i), by have := (suChild_lt (lt := lt) hq).2; omega, k11⟩
  · rename_i hq'
    have k11' : suLoop lt hp.length hp pos = (hp', pos') := by
      rw [← k11]
      cases n with
      | zero => rfl
      | succ n => rw [suLoop, if_neg (by omega)]
    have e1 : suA lt hp pos = sdA lt (hp'.set pos' (hp.getD pos 0)) pos pos' := by rw [suA, k11']
    walk_at "go"
    refine seth (by assumption) upd_self rfl k7 (by omega) ?_
    intro h₃ W₃
    rw [upd_upd] at W₃
    walk_at "go"
    refine sdMax C (by assumption) upd_self (I.upd hne) (fun i hi => (mem_set' hi).elim (fun e => e ▸ hnew) (k9 i)) hc (by rw [List.length_set]; exact k7) (by rw [List.length_set]; omega) hroom (by show A.units + 3 + 8 < cLine; omega) ?_
    intro h₄ tk₄ W₄
    rw [upd_upd, ← e1] at W₄
    walk_at "go"
    exact h _ _ W₄.pop

theorem suOutMin {prog : Program} {w : World} {A : Around} {E : Value → Shared → Prop} {s : Shared} {b : Heap} {fs : List (Addr × Fm)} {ls : Ls} {ps : List (Addr × Obj)} {mg mb : Fm} {H : Addr} {pos : Nat} {u : Tok}
    {adr : Nat → Addr} {hp : List Nat} {envs : List Env}
    {Q : Value → Shared → Prop} (C : Cx w mg mb b) (W : Wd b fs ls ps s.heap) (hH : ls H = some (hp.map (V adr)))
    (hpos : hp.length ≤ pos) (hpos' : pos < 2 ^ 60) (hroom : A.depth < recursionLimit) (hA : A.handled = none) (hfr : A.frames = some envs) (ft : Fit envs fs)
    (hE : ∀ h' tk e, Flew b fs ls ps envs "list index out of range" e h' → E (.ref e) { s with heap := h', toks := tk }) :
    wpAny (model prog w) A (call (.ref 77) [.ref H, .int pos u]) Q E s := by
  refine' callw (binds := [(Str.ofString "heap", .ref H), (Str.ofString "pos", .int pos u)]) C W ?ho ?hcd hroom ?hb ?hl ?_ ?c1 ?c2 ?c3 ?c4
  walk_at "enter"
  intro L' h' tk' W'
  generalize hm : (fun y => List.lookup y [(Str.ofString "heap", Value.ref H), (Str.ofString "pos", .int pos u)].reverse) = m at W'
  have m1 : m (Str.ofString "heap") = some (.ref H) := by rw [← hm]; rfl
  have m3 : m (Str.ofString "pos") = some (.int pos u) := by rw [← hm]; rfl
  clear hm
  walk_at "go"
  refine suboutw hA (by assumption) hH (by rw [List.length_map]; omega) (by omega) ?_
  intro h₁ tk₁ e t x
  exact leavew (by assumption) hfr ft x fun h₂ fl => hE _ _ _ fl

theorem sdOutMin {prog : Program} {w : World} {A : Around} {E : Value → Shared → Prop} {s : Shared} {b : Heap} {fs : List (Addr × Fm)} {ls : Ls} {ps : List (Addr × Obj)} {mg mb : Fm} {H : Addr} {start pos : Nat} {t u : Tok}
    {adr : Nat → Addr} {hp : List Nat} {envs : List Env}
    {Q : Value → Shared → Prop} (C : Cx w mg mb b) (W : Wd b fs ls ps s.heap) (hH : ls H = some (hp.map (V adr)))
    (hpos : hp.length ≤ pos) (hpos' : pos < 2 ^ 60) (hroom : A.depth < recursionLimit) (hA : A.handled = none) (hfr : A.frames = some envs) (ft : Fit envs fs)
    (hE : ∀ h' tk e, Flew b fs ls ps envs "list index out of range" e h' → E (.ref e) { s with heap := h', toks := tk }) :
    wpAny (model prog w) A (call (.ref 70) [.ref H, .int start t, .int pos u]) Q E s := by
  refine' callw (binds := [(Str.ofString "heap", .ref H), (Str.ofString "startpos", .int start t), (Str.ofString "pos", .int pos u)]) C W ?ho ?hcd hroom ?hb ?hl ?_ ?c1 ?c2 ?c3 ?c4
  walk_at "enter"
  intro L' h' tk' W'
  generalize hm : (fun y => List.lookup y [(Str.ofString "heap", Value.ref H), (Str.ofString "startpos", .int start t), (Str.ofString "pos", .int pos u)].reverse) = m at W'
  have m1 : m (Str.ofString "heap") = some (.ref H) := by rw [← hm]; rfl
  have m3 : m (Str.ofString "pos") = some (.int pos u) := by rw [← hm]; rfl
  clear hm
  walk_at "go"
  refine suboutw hA (by assumption) hH (by rw [List.length_map]; omega) (by omega) ?_
  intro h₁ tk₁ e t x
  exact leavew (by assumption) hfr ft x fun h₂ fl => hE _ _ _ fl

theorem popOutMin {prog : Program} {w : World} {A : Around} {E : Value → Shared → Prop} {s : Shared} {b : Heap} {fs : List (Addr × Fm)} {ls : Ls} {ps : List (Addr × Obj)} {mg mb : Fm} {H : Addr} {envs : List Env}
    {Q : Value → Shared → Prop} (C : Cx w mg mb b) (W : Wd b fs ls ps s.heap) (hH : ls H = some [])
    (hroom : A.depth < recursionLimit) (hA : A.handled = none) (hfr : A.frames = some envs) (ft : Fit envs fs)
    (hE : ∀ h' tk e, Flew b fs ls ps envs "pop from empty list" e h' → E (.ref e) { s with heap := h', toks := tk }) :
    wpAny (model prog w) A (call (.ref 28) [.ref H]) Q E s := by
  refine' callw (binds := [(Str.ofString "heap", .ref H)]) C W ?ho ?hcd hroom ?hb ?hl ?_ ?c1 ?c2 ?c3 ?c4
  walk_at "enter"
  intro L' h' tk' W'
  generalize hm : (fun y => List.lookup y [(Str.ofString "heap", Value.ref H)].reverse) = m at W'
  have m1 : m (Str.ofString "heap") = some (.ref H) := by rw [← hm]; rfl
  clear hm
  walk_at "go"
  refine popoutw hA (by assumption) hH ?_
  intro h₁ tk₁ e t x
  exact leavew (by assumption) hfr ft x fun h₂ fl => hE _ _ _ fl

theorem popMin {prog : Program} {w : World} {A : Around} {E : Value → Shared → Prop} {s : Shared} {b : Heap} {fs : List (Addr × Fm)} {ls : Ls} {ps : List (Addr × Obj)} {mg mb : Fm} {H : Addr} {N : Nat}
    {adr : Nat → Addr} {key : Nat → Int} {lt : Nat → Nat → Bool} {hp : List Nat}
    {Q : Value → Shared → Prop} (C : Cx w mg mb b) (W : Wd b fs ls ps s.heap) (hH : ls H = some (hp.map (V adr))) (I : It adr key N ls) (hN : ∀ i ∈ hp, i < N) (hc : ∀ i j, lt i j = decide (key i < key j))
    (hlen : hp.length < 2 ^ 20) (hroom : A.depth + 2 < recursionLimit) (hu : A.units + 24 < cLine) (h0 : 0 < hp.length)
    (h : ∀ h' tk, Wd b fs (upd ls H ((popH lt hp).map (V adr))) ps h' → Q (V adr (popV hp)) { s with heap := h', toks := tk }) :
    wpAny (model prog w) A (call (.ref 28) [.ref H]) Q E s := by
  refine' callw (binds := [(Str.ofString "heap", .ref H)]) C W ?ho ?hcd (by omega) ?hb ?hl ?_ ?c1 ?c2 ?c3 ?c4
  walk_at "enter"
  intro L' h' tk' W'
  generalize hm : (fun y => List.lookup y [(Str.ofString "heap", Value.ref H)].reverse) = m at W'
  have m1 : m (Str.ofString "heap") = some (.ref H) := by rw [← hm]; rfl
  clear hm
  have hne : ∀ i, i < N → adr i ≠ H := fun i q => I.ne hH q
  have hl : hp.dropLast.length = hp.length - 1 := List.length_dropLast ..
  walk_at "go"
  refine poph (by assumption) hH h0 hlen ?_
  intro h₁ W₁
  walk_at "go"
  refine truthw (by assumption) upd_self (by rw [List.length_map]; omega) ?_
  intro tk₂
  by_cases h1 : hp.length ≤ 1
  · have e : hp.dropLast = [] := List.eq_nil_of_length_eq_zero (by omega)
    rw [show (!(hp.dropLast.map (V adr)).isEmpty) = false from by rw [e]; rfl]
    rename Wd _ _ _ _ _ => W₂
    rw [e] at W₂
    rw [if_neg (by decide)]
    walk_at "go"
    have e1 : popH lt hp = [] := by rw [popH, if_pos h1]
    have e2 : popV hp = hp.getD (hp.length - 1) 0 := by rw [popV, if_pos h1]
    rw [e1, e2] at h
    exact h _ _ W₂.pop
  · have e : (!(hp.dropLast.map (V adr)).isEmpty) = true := by
      rw [Bool.not_eq_true', List.isEmpty_eq_false_iff_exists_mem]
      exact ⟨_, List.mem_map_of_mem (getD_mem (k := 0) (by omega))⟩
    rw [e]
    walk_at "go"
    refine subh (by assumption) upd_self (j := 0) rfl (by omega) (by omega) ?_
    walk_at "go"
    refine seth (by assumption) upd_self (j := 0) rfl (by omega) (by omega) ?_
    intro h₃ W₃
    rw [upd_upd] at W₃
    walk_at "go"
    refine suMin (pos := 0) C (by assumption) upd_self (I.upd hne) (fun i hi => (mem_set' hi).elim (fun e => e ▸ hN _ (getD_mem (by omega))) fun q => hN _ (List.dropLast_subset _ q)) hc (by rw [List.length_set]; omega) (by rw [List.length_set]; omega) hroom (by show A.units + 3 + 16 < cLine; omega) ?_
    intro h₄ tk₄ W₄
    rw [upd_upd] at W₄
    have e1 : popH lt hp = suA lt (hp.dropLast.set 0 (hp.getD (hp.length - 1) 0)) 0 := by rw [popH, if_neg h1]
    have e2 : popV hp = hp.dropLast.getD 0 0 := by
      rw [popV, if_neg h1]
      conv => lhs; rw [split_last h0]
      rw [List.getD_eq_getElem?_getD, List.getElem?_append_left (by omega), ← List.getD_eq_getElem?_getD]
    rw [e1, e2] at h
    walk_at "go"
    exact h _ _ W₄.pop

theorem repMin {prog : Program} {w : World} {A : Around} {E : Value → Shared → Prop} {s : Shared} {b : Heap} {fs : List (Addr × Fm)} {ls : Ls} {ps : List (Addr × Obj)} {mg mb : Fm} {H : Addr} {N x : Nat}
    {adr : Nat → Addr} {key : Nat → Int} {lt : Nat → Nat → Bool} {hp : List Nat}
    {Q : Value → Shared → Prop} (C : Cx w mg mb b) (W : Wd b fs ls ps s.heap) (hH : ls H = some (hp.map (V adr))) (I : It adr key N ls) (hN : ∀ i ∈ hp, i < N) (hc : ∀ i j, lt i j = decide (key i < key j))
    (hlen : hp.length < 2 ^ 20) (hroom : A.depth + 2 < recursionLimit) (hu : A.units + 24 < cLine) (h0 : 0 < hp.length) (hx : x < N)
    (h : ∀ h' tk, Wd b fs (upd ls H ((repH lt hp x).map (V adr))) ps h' → Q (V adr (hp.getD 0 0)) { s with heap := h', toks := tk }) :
    wpAny (model prog w) A (call (.ref 35) [.ref H, V adr x]) Q E s := by
  refine' callw (binds := [(Str.ofString "heap", .ref H), (Str.ofString "item", V adr x)]) C W ?ho ?hcd (by omega) ?hb ?hl ?_ ?c1 ?c2 ?c3 ?c4
  walk_at "enter"
  intro L' h' tk' W'
  generalize hm : (fun y => List.lookup y [(Str.ofString "heap", Value.ref H), (Str.ofString "item", V adr x)].reverse) = m at W'
  have m1 : m (Str.ofString "heap") = some (.ref H) := by rw [← hm]; rfl
  have m2 : m (Str.ofString "item") = some (V adr x) := by rw [← hm]; rfl
  clear hm
  have hne : ∀ i, i < N → adr i ≠ H := fun i q => I.ne hH q
  walk_at "go"
  refine subh (by assumption) hH (j := 0) rfl h0 (by omega) ?_
  walk_at "go"
  refine seth (by assumption) hH (j := 0) rfl h0 (by omega) ?_
  intro h₃ W₃
  walk_at "go"
  refine suMin (pos := 0) C (by assumption) upd_self (I.upd hne) (fun i hi => (mem_set' hi).elim (fun e => e ▸ hx) fun q => hN _ q) hc (by rw [List.length_set]; omega) (by rw [List.length_set]; omega) hroom (by show A.units + 3 + 16 < cLine; omega) ?_
  intro h₄ tk₄ W₄
  rw [upd_upd] at W₄
  walk_at "go"
  exact h _ _ W₄.pop

theorem repOutMin {prog : Program} {w : World} {A : Around} {E : Value → Shared → Prop} {s : Shared} {b : Heap} {fs : List (Addr × Fm)} {ls : Ls} {ps : List (Addr × Obj)} {mg mb : Fm} {H : Addr} {envs : List Env} {v : Value}
    {Q : Value → Shared → Prop} (C : Cx w mg mb b) (W : Wd b fs ls ps s.heap) (hH : ls H = some [])
    (hroom : A.depth < recursionLimit) (hA : A.handled = none) (hfr : A.frames = some envs) (ft : Fit envs fs)
    (hE : ∀ h' tk e, Flew b fs ls ps envs "list index out of range" e h' → E (.ref e) { s with heap := h', toks := tk }) :
    wpAny (model prog w) A (call (.ref 35) [.ref H, v]) Q E s := by
  refine' callw (binds := [(Str.ofString "heap", .ref H), (Str.ofString "item", v)]) C W ?ho ?hcd hroom ?hb ?hl ?_ ?c1 ?c2 ?c3 ?c4
  walk_at "enter"
  intro L' h' tk' W'
  generalize hm : (fun y => List.lookup y [(Str.ofString "heap", Value.ref H), (Str.ofString "item", v)].reverse) = m at W'
  have m1 : m (Str.ofString "heap") = some (.ref H) := by rw [← hm]; rfl
  clear hm
  walk_at "go"
  refine suboutw hA (by assumption) hH (by decide) (by decide) ?_
  intro h₁ tk₁ e t x
  exact leavew (by assumption) hfr ft x fun h₂ fl => hE _ _ _ fl

theorem pushMin {prog : Program} {w : World} {A : Around} {E : Value → Shared → Prop} {s : Shared} {b : Heap} {fs : List (Addr × Fm)} {ls : Ls} {ps : List (Addr × Obj)} {mg mb : Fm} {H : Addr} {N x : Nat}
    {adr : Nat → Addr} {key : Nat → Int} {lt : Nat → Nat → Bool} {hp : List Nat}
    {Q : Value → Shared → Prop} (C : Cx w mg mb b) (W : Wd b fs ls ps s.heap) (hH : ls H = some (hp.map (V adr))) (I : It adr key N ls) (hN : ∀ i ∈ hp, i < N) (hc : ∀ i j, lt i j = decide (key i < key j))
    (hlen : hp.length < 2 ^ 20) (hroom : A.depth + 2 < recursionLimit) (hu : A.units + 24 < cLine) (hx : x < N)
    (h : ∀ h' tk, Wd b fs (upd ls H ((pushH lt hp x).map (V adr))) ps h' → Q .none { s with heap := h', toks := tk }) :
    wpAny (model prog w) A (call (.ref 21) [.ref H, V adr x]) Q E s := by
  refine' callw (binds := [(Str.ofString "heap", .ref H), (Str.ofString "item", V adr x)]) C W ?ho ?hcd (by omega) ?hb ?hl ?_ ?c1 ?c2 ?c3 ?c4
  walk_at "enter"
  intro L' h' tk' W'
  generalize hm : (fun y => List.lookup y [(Str.ofString "heap", Value.ref H), (Str.ofString "item", V adr x)].reverse) = m at W'
  have m1 : m (Str.ofString "heap") = some (.ref H) := by rw [← hm]; rfl
  have m2 : m (Str.ofString "item") = some (V adr x) := by rw [← hm]; rfl
  clear hm
  have hne : ∀ i, i < N → adr i ≠ H := fun i q => I.ne hH q
  have hl : (hp ++ [x]).length = hp.length + 1 := by rw [List.length_append]; rfl
  walk_at "go"
  refine apph (by assumption) hH hlen ?_
  intro h₃ W₃
  walk_at "go"
  rw [show ((hp ++ [x]).length : Int) - 1 = ((hp.length : Nat) : Int) from by omega]
  refine sdMin (start := 0) C (by assumption) upd_self (I.upd hne) (fun i hi => (List.mem_append.mp hi).elim (hN i) fun q => by rw [List.mem_singleton.mp q]; exact hx) hc (by omega) (by omega) (by show A.depth + 1 < recursionLimit; omega) (by show A.units + 3 + 8 < cLine; omega) ?_
  intro h₄ tk₄ W₄
  rw [upd_upd] at W₄
  walk_at "go"
  exact h _ _ W₄.pop

theorem bldMin {prog : Program} {w : World} {A : Around} {E : Value → Shared → Prop} {s : Shared} {b : Heap} {fs : List (Addr × Fm)} {ls : Ls} {ps : List (Addr × Obj)} {mg mb : Fm} {H : Addr} {N : Nat}
    {adr : Nat → Addr} {key : Nat → Int} {lt : Nat → Nat → Bool} {hp : List Nat}
    {Q : Value → Shared → Prop} (C : Cx w mg mb b) (W : Wd b fs ls ps s.heap) (hH : ls H = some (hp.map (V adr))) (I : It adr key N ls) (hN : ∀ i ∈ hp, i < N) (hc : ∀ i j, lt i j = decide (key i < key j))
    (hlen : hp.length < 2 ^ 20) (hroom : A.depth + 2 < recursionLimit) (hu : A.units + 24 < cLine) (hA : A.handled = none)
    (h : ∀ h' tk, Wd b fs (upd ls H ((bldH lt hp).map (V adr))) ps h' → Q .none { s with heap := h', toks := tk }) :
    wpAny (model prog w) A (call (.ref 42) [.ref H]) Q E s := by
  refine' callw (binds := [(Str.ofString "x", .ref H)]) C W ?ho ?hcd (by omega) ?hb ?hl ?_ ?c1 ?c2 ?c3 ?c4
  walk_at "enter"
  intro L' h' tk' W'
  generalize hm : (fun y => List.lookup y [(Str.ofString "x", Value.ref H)].reverse) = m at W'
  have m1 : m (Str.ofString "x") = some (.ref H) := by rw [← hm]; rfl
  clear hm
  have hne : ∀ i, i < N → adr i ≠ H := fun i q => I.ne hH q
  walk_at "go"
  refine iteritw (by assumption) ?_
  refine forw hA (by assumption) (fun i m' ls' => m' (Str.ofString "x") = some (.ref H) ∧ ∃ hp', ls' = upd ls H (hp'.map (V adr)) ∧ hp'.length = hp.length ∧ (∀ j ∈ hp', j < N) ∧ bldLoop lt (hp.length / 2 - i) hp' = bldH lt hp)
    ⟨by walk_at "lk", hp, (upd_same hH).symm, rfl, hN, rfl⟩ ?_ ?_
  · rintro i h₁ tk₁ tk₂ m' ls' hi ⟨k1, hp', rfl, k2, k3, k4⟩ W₁
    have e1 : ((hp.length / 2 : Nat) : Int) - 1 + (i : Int) * -1 = ((hp.length / 2 - 1 - i : Nat) : Int) := by omega
    rw [e1] at W₁
    have hj : hp.length / 2 - 1 - i < hp'.length := by omega
    rw [show hp.length / 2 - i = (hp.length / 2 - 1 - i) + 1 from by omega, bldLoop] at k4
    walk_at "go"
    refine suMin C (by assumption) upd_self (I.upd hne) k3 hc hj (by omega) hroom (by show A.units + 3 + 16 < cLine; omega) ?_
    intro h₄ tk₄ W₄
    rw [upd_upd] at W₄
    walk_at "go"
    exact ⟨_, _, _, _, rfl, W₄, by walk_at "lk", _, rfl, (suA_len hj).trans k2, fun j q => k3 j (suA_mem hj q), by rw [show hp.length / 2 - (i + 1) = hp.length / 2 - 1 - i from by omega]; exact k4⟩
  · rintro h₁ tk₁ m' ls' ⟨k1, hp', rfl, k2, k3, k4⟩ W₁
    rw [Nat.sub_self, bldLoop] at k4
    subst k4
    walk_at "go"
    exact h _ _ W₁.pop

theorem suOutMax {prog : Program} {w : World} {A : Around} {E : Value → Shared → Prop} {s : Shared} {b : Heap} {fs : List (Addr × Fm)} {ls : Ls} {ps : List (Addr × Obj)} {mg mb : Fm} {H : Addr} {pos : Nat} {u : Tok}
    {adr : Nat → Addr} {hp : List Nat} {envs : List Env}
    {Q : Value → Shared → Prop} (C : Cx w mg mb b) (W : Wd b fs ls ps s.heap) (hH : ls H = some (hp.map (V adr)))
    (hpos : hp.length ≤ pos) (hpos' : pos < 2 ^ 60) (hroom : A.depth < recursionLimit) (hA : A.handled = none) (hfr : A.frames = some envs) (ft : Fit envs fs)
    (hE : ∀ h' tk e, Flew b fs ls ps envs "list index out of range" e h' → E (.ref e) { s with heap := h', toks := tk }) :
    wpAny (model prog w) A (call (.ref 91) [.ref H, .int pos u]) Q E s := by
  refine' callw (binds := [(Str.ofString "heap", .ref H), (Str.ofString "pos", .int pos u)]) C W ?ho ?hcd hroom ?hb ?hl ?_ ?c1 ?c2 ?c3 ?c4
  walk_at "enter"
  intro L' h' tk' W'
  generalize hm : (fun y => List.lookup y [(Str.ofString "heap", Value.ref H), (Str.ofString "pos", .int pos u)].reverse) = m at W'
  have m1 : m (Str.ofString "heap") = some (.ref H) := by rw [← hm]; rfl
  have m3 : m (Str.ofString "pos") = some (.int pos u) := by rw [← hm]; rfl
  clear hm
  walk_at "go"
  refine suboutw hA (by assumption) hH (by rw [List.length_map]; omega) (by omega) ?_
  intro h₁ tk₁ e t x
  exact leavew (by assumption) hfr ft x fun h₂ fl => hE _ _ _ fl

theorem sdOutMax {prog : Program} {w : World} {A : Around} {E : Value → Shared → Prop} {s : Shared} {b : Heap} {fs : List (Addr × Fm)} {ls : Ls} {ps : List (Addr × Obj)} {mg mb : Fm} {H : Addr} {start pos : Nat} {t u : Tok}
    {adr : Nat → Addr} {hp : List Nat} {envs : List Env}
    {Q : Value → Shared → Prop} (C : Cx w mg mb b) (W : Wd b fs ls ps s.heap) (hH : ls H = some (hp.map (V adr)))
    (hpos : hp.length ≤ pos) (hpos' : pos < 2 ^ 60) (hroom : A.depth < recursionLimit) (hA : A.handled = none) (hfr : A.frames = some envs) (ft : Fit envs fs)
    (hE : ∀ h' tk e, Flew b fs ls ps envs "list index out of range" e h' → E (.ref e) { s with heap := h', toks := tk }) :
    wpAny (model prog w) A (call (.ref 84) [.ref H, .int start t, .int pos u]) Q E s := by
  refine' callw (binds := [(Str.ofString "heap", .ref H), (Str.ofString "startpos", .int start t), (Str.ofString "pos", .int pos u)]) C W ?ho ?hcd hroom ?hb ?hl ?_ ?c1 ?c2 ?c3 ?c4
  walk_at "enter"
  intro L' h' tk' W'
  generalize hm : (fun y => List.lookup y [(Str.ofString "heap", Value.ref H), (Str.ofString "startpos", .int start t), (Str.ofString "pos", .int pos u)].reverse) = m at W'
  have m1 : m (Str.ofString "heap") = some (.ref H) := by rw [← hm]; rfl
  have m3 : m (Str.ofString "pos") = some (.int pos u) := by rw [← hm]; rfl
  clear hm
  walk_at "go"
  refine suboutw hA (by assumption) hH (by rw [List.length_map]; omega) (by omega) ?_
  intro h₁ tk₁ e t x
  exact leavew (by assumption) hfr ft x fun h₂ fl => hE _ _ _ fl

theorem popOutMax {prog : Program} {w : World} {A : Around} {E : Value → Shared → Prop} {s : Shared} {b : Heap} {fs : List (Addr × Fm)} {ls : Ls} {ps : List (Addr × Obj)} {mg mb : Fm} {H : Addr} {envs : List Env}
    {Q : Value → Shared → Prop} (C : Cx w mg mb b) (W : Wd b fs ls ps s.heap) (hH : ls H = some [])
    (hroom : A.depth < recursionLimit) (hA : A.handled = none) (hfr : A.frames = some envs) (ft : Fit envs fs)
    (hE : ∀ h' tk e, Flew b fs ls ps envs "pop from empty list" e h' → E (.ref e) { s with heap := h', toks := tk }) :
    wpAny (model prog w) A (call (.ref 49) [.ref H]) Q E s := by
  refine' callw (binds := [(Str.ofString "heap", .ref H)]) C W ?ho ?hcd hroom ?hb ?hl ?_ ?c1 ?c2 ?c3 ?c4
  walk_at "enter"
  intro L' h' tk' W'
  generalize hm : (fun y => List.lookup y [(Str.ofString "heap", Value.ref H)].reverse) = m at W'
  have m1 : m (Str.ofString "heap") = some (.ref H) := by rw [← hm]; rfl
  clear hm
  walk_at "go"
  refine popoutw hA (by assumption) hH ?_
  intro h₁ tk₁ e t x
  exact leavew (by assumption) hfr ft x fun h₂ fl => hE _ _ _ fl

theorem popMax {prog : Program} {w : World} {A : Around} {E : Value → Shared → Prop} {s : Shared} {b : Heap} {fs : List (Addr × Fm)} {ls : Ls} {ps : List (Addr × Obj)} {mg mb : Fm} {H : Addr} {N : Nat}
    {adr : Nat → Addr} {key : Nat → Int} {lt : Nat → Nat → Bool} {hp : List Nat}
    {Q : Value → Shared → Prop} (C : Cx w mg mb b) (W : Wd b fs ls ps s.heap) (hH : ls H = some (hp.map (V adr))) (I : It adr key N ls) (hN : ∀ i ∈ hp, i < N) (hc : ∀ i j, lt i j = decide (key j < key i))
    (hlen : hp.length < 2 ^ 20) (hroom : A.depth + 2 < recursionLimit) (hu : A.units + 24 < cLine) (h0 : 0 < hp.length)
    (h : ∀ h' tk, Wd b fs (upd ls H ((popH lt hp).map (V adr))) ps h' → Q (V adr (popV hp)) { s with heap := h', toks := tk }) :
    wpAny (model prog w) A (call (.ref 49) [.ref H]) Q E s := by
  refine' callw (binds := [(Str.ofString "heap", .ref H)]) C W ?ho ?hcd (by omega) ?hb ?hl ?_ ?c1 ?c2 ?c3 ?c4
  walk_at "enter"
  intro L' h' tk' W'
  generalize hm : (fun y => List.lookup y [(Str.ofString "heap", Value.ref H)].reverse) = m at W'
  have m1 : m (Str.ofString "heap") = some (.ref H) := by rw [← hm]; rfl
  clear hm
  have hne : ∀ i, i < N → adr i ≠ H := fun i q => I.ne hH q
  have hl : hp.dropLast.length = hp.length - 1 := List.length_dropLast ..
  walk_at "go"
  refine poph (by assumption) hH h0 hlen ?_
  intro h₁ W₁
  walk_at "go"
  refine truthw (by assumption) upd_self (by rw [List.length_map]; omega) ?_
  intro tk₂
  by_cases h1 : hp.length ≤ 1
  · have e : hp.dropLast = [] := List.eq_nil_of_length_eq_zero (by omega)
    rw [show (!(hp.dropLast.map (V adr)).isEmpty) = false from by rw [e]; rfl]
    rename Wd _ _ _ _ _ => W₂
    rw [e] at W₂
    rw [if_neg (by decide)]
    walk_at "go"
    have e1 : popH lt hp = [] := by rw [popH, if_pos h1]
    have e2 : popV hp = hp.getD (hp.length - 1) 0 := by rw [popV, if_pos h1]
    rw [e1, e2] at h
    exact h _ _ W₂.pop
  · have e : (!(hp.dropLast.map (V adr)).isEmpty) = true := by
      rw [Bool.not_eq_true', List.isEmpty_eq_false_iff_exists_mem]
      exact ⟨_, List.mem_map_of_mem (getD_mem (k := 0) (by omega))⟩
    rw [e]
    walk_at "go"
    refine subh (by assumption) upd_self (j := 0) rfl (by omega) (by omega) ?_
    walk_at "go"
    refine seth (by assumption) upd_self (j := 0) rfl (by omega) (by omega) ?_
    intro h₃ W₃
    rw [upd_upd] at W₃
    walk_at "go"
    refine suMax (pos := 0) C (by assumption) upd_self (I.upd hne) (fun i hi => (mem_set' hi).elim (fun e => e ▸ hN _ (getD_mem (by omega))) fun q => hN _ (List.dropLast_subset _ q)) hc (by rw [List.length_set]; omega) (by rw [List.length_set]; omega) hroom (by show A.units + 3 + 16 < cLine; omega) ?_
    intro h₄ tk₄ W₄
    rw [upd_upd] at W₄
    have e1 : popH lt hp = suA lt (hp.dropLast.set 0 (hp.getD (hp.length - 1) 0)) 0 := by rw [popH, if_neg h1]
    have e2 : popV hp = hp.dropLast.getD 0 0 := by
      rw [popV, if_neg h1]
      conv => lhs; rw [split_last h0]
      rw [List.getD_eq_getElem?_getD, List.getElem?_append_left (by omega), ← List.getD_eq_getElem?_getD]
    rw [e1, e2] at h
    walk_at "go"
    exact h _ _ W₄.pop

theorem repMax {prog : Program} {w : World} {A : Around} {E : Value → Shared → Prop} {s : Shared} {b : Heap} {fs : List (Addr × Fm)} {ls : Ls} {ps : List (Addr × Obj)} {mg mb : Fm} {H : Addr} {N x : Nat}
    {adr : Nat → Addr} {key : Nat → Int} {lt : Nat → Nat → Bool} {hp : List Nat}
    {Q : Value → Shared → Prop} (C : Cx w mg mb b) (W : Wd b fs ls ps s.heap) (hH : ls H = some (hp.map (V adr))) (I : It adr key N ls) (hN : ∀ i ∈ hp, i < N) (hc : ∀ i j, lt i j = decide (key j < key i))
    (hlen : hp.length < 2 ^ 20) (hroom : A.depth + 2 < recursionLimit) (hu : A.units + 24 < cLine) (h0 : 0 < hp.length) (hx : x < N)
    (h : ∀ h' tk, Wd b fs (upd ls H ((repH lt hp x).map (V adr))) ps h' → Q (V adr (hp.getD 0 0)) { s with heap := h', toks := tk }) :
    wpAny (model prog w) A (call (.ref 56) [.ref H, V adr x]) Q E s := by
  refine' callw (binds := [(Str.ofString "heap", .ref H), (Str.ofString "item", V adr x)]) C W ?ho ?hcd (by omega) ?hb ?hl ?_ ?c1 ?c2 ?c3 ?c4
  walk_at "enter"
  intro L' h' tk' W'
  generalize hm : (fun y => List.lookup y [(Str.ofString "heap", Value.ref H), (Str.ofString "item", V adr x)].reverse) = m at W'
  have m1 : m (Str.ofString "heap") = some (.ref H) := by rw [← hm]; rfl
  have m2 : m (Str.ofString "item") = some (V adr x) := by rw [← hm]; rfl
  clear hm
  have hne : ∀ i, i < N → adr i ≠ H := fun i q => I.ne hH q
  walk_at "go"
  refine subh (by assumption) hH (j := 0) rfl h0 (by omega) ?_
  walk_at "go"
  refine seth (by assumption) hH (j := 0) rfl h0 (by omega) ?_
  intro h₃ W₃
  walk_at "go"
  refine suMax (pos := 0) C (by assumption) upd_self (I.upd hne) (fun i hi => (mem_set' hi).elim (fun e => e ▸ hx) fun q => hN _ q) hc (by rw [List.length_set]; omega) (by rw [List.length_set]; omega) hroom (by show A.units + 3 + 16 < cLine; omega) ?_
  intro h₄ tk₄ W₄
  rw [upd_upd] at W₄
  walk_at "go"
  exact h _ _ W₄.pop

theorem repOutMax {prog : Program} {w : World} {A : Around} {E : Value → Shared → Prop} {s : Shared} {b : Heap} {fs : List (Addr × Fm)} {ls : Ls} {ps : List (Addr × Obj)} {mg mb : Fm} {H : Addr} {envs : List Env} {v : Value}
    {Q : Value → Shared → Prop} (C : Cx w mg mb b) (W : Wd b fs ls ps s.heap) (hH : ls H = some [])
    (hroom : A.depth < recursionLimit) (hA : A.handled = none) (hfr : A.frames = some envs) (ft : Fit envs fs)
    (hE : ∀ h' tk e, Flew b fs ls ps envs "list index out of range" e h' → E (.ref e) { s with heap := h', toks := tk }) :
    wpAny (model prog w) A (call (.ref 56) [.ref H, v]) Q E s := by
  refine' callw (binds := [(Str.ofString "heap", .ref H), (Str.ofString "item", v)]) C W ?ho ?hcd hroom ?hb ?hl ?_ ?c1 ?c2 ?c3 ?c4
  walk_at "enter"
  intro L' h' tk' W'
  generalize hm : (fun y => List.lookup y [(Str.ofString "heap", Value.ref H), (Str.ofString "item", v)].reverse) = m at W'
  have m1 : m (Str.ofString "heap") = some (.ref H) := by rw [← hm]; rfl
  clear hm
  walk_at "go"
  refine suboutw hA (by assumption) hH (by decide) (by decide) ?_
  intro h₁ tk₁ e t x
  exact leavew (by assumption) hfr ft x fun h₂ fl => hE _ _ _ fl

theorem pushMax {prog : Program} {w : World} {A : Around} {E : Value → Shared → Prop} {s : Shared} {b : Heap} {fs : List (Addr × Fm)} {ls : Ls} {ps : List (Addr × Obj)} {mg mb : Fm} {H : Addr} {N x : Nat}
    {adr : Nat → Addr} {key : Nat → Int} {lt : Nat → Nat → Bool} {hp : List Nat}
    {Q : Value → Shared → Prop} (C : Cx w mg mb b) (W : Wd b fs ls ps s.heap) (hH : ls H = some (hp.map (V adr))) (I : It adr key N ls) (hN : ∀ i ∈ hp, i < N) (hc : ∀ i j, lt i j = decide (key j < key i))
    (hlen : hp.length < 2 ^ 20) (hroom : A.depth + 2 < recursionLimit) (hu : A.units + 24 < cLine) (hx : x < N)
    (h : ∀ h' tk, Wd b fs (upd ls H ((pushH lt hp x).map (V adr))) ps h' → Q .none { s with heap := h', toks := tk }) :
    wpAny (model prog w) A (call (.ref 98) [.ref H, V adr x]) Q E s := by
  refine' callw (binds := [(Str.ofString "heap", .ref H), (Str.ofString "item", V adr x)]) C W ?ho ?hcd (by omega) ?hb ?hl ?_ ?c1 ?c2 ?c3 ?c4
  walk_at "enter"
  intro L' h' tk' W'
  generalize hm : (fun y => List.lookup y [(Str.ofString "heap", Value.ref H), (Str.ofString "item", V adr x)].reverse) = m at W'
  have m1 : m (Str.ofString "heap") = some (.ref H) := by rw [← hm]; rfl
  have m2 : m (Str.ofString "item") = some (V adr x) := by rw [← hm]; rfl
  clear hm
  have hne : ∀ i, i < N → adr i ≠ H := fun i q => I.ne hH q
  have hl : (hp ++ [x]).length = hp.length + 1 := by rw [List.length_append]; rfl
  walk_at "go"
  refine apph (by assumption) hH hlen ?_
  intro h₃ W₃
  walk_at "go"
  rw [show ((hp ++ [x]).length : Int) - 1 = ((hp.length : Nat) : Int) from by omega]
  refine sdMax (start := 0) C (by assumption) upd_self (I.upd hne) (fun i hi => (List.mem_append.mp hi).elim (hN i) fun q => by rw [List.mem_singleton.mp q]; exact hx) hc (by omega) (by omega) (by show A.depth + 1 < recursionLimit; omega) (by show A.units + 3 + 8 < cLine; omega) ?_
  intro h₄ tk₄ W₄
  rw [upd_upd] at W₄
  walk_at "go"
  exact h _ _ W₄.pop

theorem bldMax {prog : Program} {w : World} {A : Around} {E : Value → Shared → Prop} {s : Shared} {b : Heap} {fs : List (Addr × Fm)} {ls : Ls} {ps : List (Addr × Obj)} {mg mb : Fm} {H : Addr} {N : Nat}
    {adr : Nat → Addr} {key : Nat → Int} {lt : Nat → Nat → Bool} {hp : List Nat}
    {Q : Value → Shared → Prop} (C : Cx w mg mb b) (W : Wd b fs ls ps s.heap) (hH : ls H = some (hp.map (V adr))) (I : It adr key N ls) (hN : ∀ i ∈ hp, i < N) (hc : ∀ i j, lt i j = decide (key j < key i))
    (hlen : hp.length < 2 ^ 20) (hroom : A.depth + 2 < recursionLimit) (hu : A.units + 24 < cLine) (hA : A.handled = none)
    (h : ∀ h' tk, Wd b fs (upd ls H ((bldH lt hp).map (V adr))) ps h' → Q .none { s with heap := h', toks := tk }) :
    wpAny (model prog w) A (call (.ref 63) [.ref H]) Q E s := by
  refine' callw (binds := [(Str.ofString "x", .ref H)]) C W ?ho ?hcd (by omega) ?hb ?hl ?_ ?c1 ?c2 ?c3 ?c4
  walk_at "enter"
  intro L' h' tk' W'
  generalize hm : (fun y => List.lookup y [(Str.ofString "x", Value.ref H)].reverse) = m at W'
  have m1 : m (Str.ofString "x") = some (.ref H) := by rw [← hm]; rfl
  clear hm
  have hne : ∀ i, i < N → adr i ≠ H := fun i q => I.ne hH q
  walk_at "go"
  refine iteritw (by assumption) ?_
  refine forw hA (by assumption) (fun i m' ls' => m' (Str.ofString "x") = some (.ref H) ∧ ∃ hp', ls' = upd ls H (hp'.map (V adr)) ∧ hp'.length = hp.length ∧ (∀ j ∈ hp', j < N) ∧ bldLoop lt (hp.length / 2 - i) hp' = bldH lt hp)
    ⟨by walk_at "lk", hp, (upd_same hH).symm, rfl, hN, rfl⟩ ?_ ?_
  · rintro i h₁ tk₁ tk₂ m' ls' hi ⟨k1, hp', rfl, k2, k3, k4⟩ W₁
    have e1 : ((hp.length / 2 : Nat) : Int) - 1 + (i : Int) * -1 = ((hp.length / 2 - 1 - i : Nat) : Int) := by omega
    rw [e1] at W₁
    have hj : hp.length / 2 - 1 - i < hp'.length := by omega
    rw [show hp.length / 2 - i = (hp.length / 2 - 1 - i) + 1 from by omega, bldLoop] at k4
    walk_at "go"
    refine suMax C (by assumption) upd_self (I.upd hne) k3 hc hj (by omega) hroom (by show A.units + 3 + 16 < cLine; omega) ?_
    intro h₄ tk₄ W₄
    rw [upd_upd] at W₄
    walk_at "go"
    exact ⟨_, _, _, _, rfl, W₄, by walk_at "lk", _, rfl, (suA_len hj).trans k2, fun j q => k3 j (suA_mem hj q), by rw [show hp.length / 2 - (i + 1) = hp.length / 2 - 1 - i from by omega]; exact k4⟩
  · rintro h₁ tk₁ m' ls' ⟨k1, hp', rfl, k2, k3, k4⟩ W₁
    rw [Nat.sub_self, bldLoop] at k4
    subst k4
    walk_at "go"
    exact h _ _ W₁.pop

/-- what the run asks of its six functions -/
structure Ops (prog : Program) (w : World) (b : Heap) (lt : Nat → Nat → Bool) (adr : Nat → Addr) (key : Nat → Int) (N : Nat) (fpop frep fpush fup fdown fbld : Addr) : Prop where
  kpop : keepIn (Mine.hd.heap_39 w.params) (.ref fpop) = true
  krep : keepIn (Mine.hd.heap_39 w.params) (.ref frep) = true
  kpush : keepIn (Mine.hd.heap_39 w.params) (.ref fpush) = true
  kup : keepIn (Mine.hd.heap_39 w.params) (.ref fup) = true
  kdown : keepIn (Mine.hd.heap_39 w.params) (.ref fdown) = true
  kbld : keepIn (Mine.hd.heap_39 w.params) (.ref fbld) = true
  pop : ∀ {A : Around} {E : Value → Shared → Prop} {s : Shared} {fs : List (Addr × Fm)} {ls : Ls} {ps : List (Addr × Obj)} {H : Addr} {hp : List Nat} {Q : Value → Shared → Prop}, Wd b fs ls ps s.heap → ls H = some (hp.map (V adr)) → It adr key N ls → (∀ i ∈ hp, i < N) →
    hp.length < 2 ^ 20 → A.depth + 2 < recursionLimit → A.units + 24 < cLine → 0 < hp.length →
    (∀ h' tk, Wd b fs (upd ls H ((popH lt hp).map (V adr))) ps h' → Q (V adr (popV hp)) { s with heap := h', toks := tk }) → wpAny (model prog w) A (call (.ref fpop) [.ref H]) Q E s
  popOut : ∀ {A : Around} {E : Value → Shared → Prop} {s : Shared} {fs : List (Addr × Fm)} {ls : Ls} {ps : List (Addr × Obj)} {H : Addr} {Q : Value → Shared → Prop} {envs : List Env}, Wd b fs ls ps s.heap → ls H = some [] →
    A.depth < recursionLimit → A.handled = none → A.frames = some envs → Fit envs fs →
    (∀ h' tk e, Flew b fs ls ps envs "pop from empty list" e h' → E (.ref e) { s with heap := h', toks := tk }) → wpAny (model prog w) A (call (.ref fpop) [.ref H]) Q E s
  rep : ∀ {A : Around} {E : Value → Shared → Prop} {s : Shared} {fs : List (Addr × Fm)} {ls : Ls} {ps : List (Addr × Obj)} {H : Addr} {hp : List Nat} {x : Nat} {Q : Value → Shared → Prop}, Wd b fs ls ps s.heap → ls H = some (hp.map (V adr)) → It adr key N ls → (∀ i ∈ hp, i < N) →
    hp.length < 2 ^ 20 → A.depth + 2 < recursionLimit → A.units + 24 < cLine → 0 < hp.length → x < N →
    (∀ h' tk, Wd b fs (upd ls H ((repH lt hp x).map (V adr))) ps h' → Q (V adr (hp.getD 0 0)) { s with heap := h', toks := tk }) → wpAny (model prog w) A (call (.ref frep) [.ref H, V adr x]) Q E s
  repOut : ∀ {A : Around} {E : Value → Shared → Prop} {s : Shared} {fs : List (Addr × Fm)} {ls : Ls} {ps : List (Addr × Obj)} {H : Addr} {v : Value} {Q : Value → Shared → Prop} {envs : List Env}, Wd b fs ls ps s.heap → ls H = some [] →
    A.depth < recursionLimit → A.handled = none → A.frames = some envs → Fit envs fs →
    (∀ h' tk e, Flew b fs ls ps envs "list index out of range" e h' → E (.ref e) { s with heap := h', toks := tk }) → wpAny (model prog w) A (call (.ref frep) [.ref H, v]) Q E s
  push : ∀ {A : Around} {E : Value → Shared → Prop} {s : Shared} {fs : List (Addr × Fm)} {ls : Ls} {ps : List (Addr × Obj)} {H : Addr} {hp : List Nat} {x : Nat} {Q : Value → Shared → Prop}, Wd b fs ls ps s.heap → ls H = some (hp.map (V adr)) → It adr key N ls → (∀ i ∈ hp, i < N) →
    hp.length < 2 ^ 20 → A.depth + 2 < recursionLimit → A.units + 24 < cLine → x < N →
    (∀ h' tk, Wd b fs (upd ls H ((pushH lt hp x).map (V adr))) ps h' → Q .none { s with heap := h', toks := tk }) → wpAny (model prog w) A (call (.ref fpush) [.ref H, V adr x]) Q E s
  up : ∀ {A : Around} {E : Value → Shared → Prop} {s : Shared} {fs : List (Addr × Fm)} {ls : Ls} {ps : List (Addr × Obj)} {H : Addr} {hp : List Nat} {p : Nat} {u : Tok} {Q : Value → Shared → Prop}, Wd b fs ls ps s.heap → ls H = some (hp.map (V adr)) → It adr key N ls → (∀ i ∈ hp, i < N) →
    hp.length < 2 ^ 20 → A.depth + 2 < recursionLimit → A.units + 24 < cLine → p < hp.length →
    (∀ h' tk, Wd b fs (upd ls H ((suA lt hp p).map (V adr))) ps h' → Q .none { s with heap := h', toks := tk }) → wpAny (model prog w) A (call (.ref fup) [.ref H, .int p u]) Q E s
  upOut : ∀ {A : Around} {E : Value → Shared → Prop} {s : Shared} {fs : List (Addr × Fm)} {ls : Ls} {ps : List (Addr × Obj)} {H : Addr} {hp : List Nat} {p : Nat} {u : Tok} {Q : Value → Shared → Prop} {envs : List Env}, Wd b fs ls ps s.heap → ls H = some (hp.map (V adr)) →
    hp.length ≤ p → p < 2 ^ 60 → A.depth < recursionLimit → A.handled = none → A.frames = some envs → Fit envs fs →
    (∀ h' tk e, Flew b fs ls ps envs "list index out of range" e h' → E (.ref e) { s with heap := h', toks := tk }) → wpAny (model prog w) A (call (.ref fup) [.ref H, .int p u]) Q E s
  down : ∀ {A : Around} {E : Value → Shared → Prop} {s : Shared} {fs : List (Addr × Fm)} {ls : Ls} {ps : List (Addr × Obj)} {H : Addr} {hp : List Nat} {st p : Nat} {t u : Tok} {Q : Value → Shared → Prop}, Wd b fs ls ps s.heap → ls H = some (hp.map (V adr)) → It adr key N ls → (∀ i ∈ hp, i < N) →
    hp.length < 2 ^ 20 → A.depth + 2 < recursionLimit → A.units + 24 < cLine → p < hp.length →
    (∀ h' tk, Wd b fs (upd ls H ((sdA lt hp st p).map (V adr))) ps h' → Q .none { s with heap := h', toks := tk }) → wpAny (model prog w) A (call (.ref fdown) [.ref H, .int st t, .int p u]) Q E s
  downOut : ∀ {A : Around} {E : Value → Shared → Prop} {s : Shared} {fs : List (Addr × Fm)} {ls : Ls} {ps : List (Addr × Obj)} {H : Addr} {hp : List Nat} {st p : Nat} {t u : Tok} {Q : Value → Shared → Prop} {envs : List Env}, Wd b fs ls ps s.heap → ls H = some (hp.map (V adr)) →
    hp.length ≤ p → p < 2 ^ 60 → A.depth < recursionLimit → A.handled = none → A.frames = some envs → Fit envs fs →
    (∀ h' tk e, Flew b fs ls ps envs "list index out of range" e h' → E (.ref e) { s with heap := h', toks := tk }) → wpAny (model prog w) A (call (.ref fdown) [.ref H, .int st t, .int p u]) Q E s
  bld : ∀ {A : Around} {E : Value → Shared → Prop} {s : Shared} {fs : List (Addr × Fm)} {ls : Ls} {ps : List (Addr × Obj)} {H : Addr} {hp : List Nat} {Q : Value → Shared → Prop}, Wd b fs ls ps s.heap → ls H = some (hp.map (V adr)) → It adr key N ls → (∀ i ∈ hp, i < N) →
    hp.length < 2 ^ 20 → A.depth + 2 < recursionLimit → A.units + 24 < cLine → A.handled = none →
    (∀ h' tk, Wd b fs (upd ls H ((bldH lt hp).map (V adr))) ps h' → Q .none { s with heap := h', toks := tk }) → wpAny (model prog w) A (call (.ref fbld) [.ref H]) Q E s

theorem opsMin {prog : Program} {w : World} {b : Heap} {mg mb : Fm} {lt : Nat → Nat → Bool} {adr : Nat → Addr} {key : Nat → Int} {N : Nat} (C : Cx w mg mb b) (hc : ∀ i j, lt i j = decide (key i < key j)) :
    Ops prog w b lt adr key N 28 35 21 77 70 42 where
  kpop := by k_is
  krep := by k_is
  kpush := by k_is
  kup := by k_is
  kdown := by k_is
  kbld := by k_is
  pop := fun W hH I hN hl hr hu h0 h => popMin C W hH I hN hc hl hr hu h0 h
  popOut := fun W hH hr hA hf ft hE => popOutMin C W hH hr hA hf ft hE
  rep := fun W hH I hN hl hr hu h0 hx h => repMin C W hH I hN hc hl hr hu h0 hx h
  repOut := fun W hH hr hA hf ft hE => repOutMin C W hH hr hA hf ft hE
  push := fun W hH I hN hl hr hu hx h => pushMin C W hH I hN hc hl hr hu hx h
  up := fun W hH I hN hl hr hu hp h => suMin C W hH I hN hc hp (by omega) (by omega) (by omega) h
  upOut := fun W hH hp hp' hr hA hf ft hE => suOutMin C W hH hp hp' hr hA hf ft hE
  down := fun W hH I hN hl hr hu hp h => sdMin C W hH I hN hc hp (by omega) (by omega) (by omega) h
  downOut := fun W hH hp hp' hr hA hf ft hE => sdOutMin C W hH hp hp' hr hA hf ft hE
  bld := fun W hH I hN hl hr hu hA h => bldMin C W hH I hN hc hl hr hu hA h

theorem opsMax {prog : Program} {w : World} {b : Heap} {mg mb : Fm} {lt : Nat → Nat → Bool} {adr : Nat → Addr} {key : Nat → Int} {N : Nat} (C : Cx w mg mb b) (hc : ∀ i j, lt i j = decide (key j < key i)) :
    Ops prog w b lt adr key N 49 56 98 91 84 63 where
  kpop := by k_is
  krep := by k_is
  kpush := by k_is
  kup := by k_is
  kdown := by k_is
  kbld := by k_is
  pop := fun W hH I hN hl hr hu h0 h => popMax C W hH I hN hc hl hr hu h0 h
  popOut := fun W hH hr hA hf ft hE => popOutMax C W hH hr hA hf ft hE
  rep := fun W hH I hN hl hr hu h0 hx h => repMax C W hH I hN hc hl hr hu h0 hx h
  repOut := fun W hH hr hA hf ft hE => repOutMax C W hH hr hA hf ft hE
  push := fun W hH I hN hl hr hu hx h => pushMax C W hH I hN hc hl hr hu hx h
  up := fun W hH I hN hl hr hu hp h => suMax C W hH I hN hc hp (by omega) (by omega) (by omega) h
  upOut := fun W hH hp hp' hr hA hf ft hE => suOutMax C W hH hp hp' hr hA hf ft hE
  down := fun W hH I hN hl hr hu hp h => sdMax C W hH I hN hc hp (by omega) (by omega) (by omega) h
  downOut := fun W hH hp hp' hr hA hf ft hE => sdOutMax C W hH hp hp' hr hA hf ft hE
  bld := fun W hH I hN hl hr hu hA h => bldMax C W hH I hN hc hl hr hu hA h

def NextT (P : Shared → Prop) (f : Flow) (s : Shared) : Prop := f = .next ∧ P s
section
variable {M : Model} {A : Around} {E : Value → Shared → Prop} {s : Shared} {env : Env}
theorem cut1 {a : Stmt} {rest : List Stmt} {Q : Flow → Shared → Prop} (P : Shared → Prop) (h1 : wpAny M A (exec a env) (NextT P) E s) (h2 : ∀ s', P s' → wpAny M A (execs rest env) Q E s') : wpAny M A (execs (a :: rest) env) Q E s :=
  wpAny_execs_cons (wpAny_mono h1 (fun f s' h => by obtain ⟨rfl, h⟩ := h; exact h2 s' h) fun _ _ x => x)
theorem execs_split (post : List Stmt) : ∀ pre : List Stmt, execs (pre ++ post) env = (do match ← execs pre env with | .next => execs post env | f => pure f)
  | [] => by rw [execs_nil, pure_bind]; rfl
  | a :: pre => by
    rw [List.cons_append, execs_cons, execs_cons, execs_split post pre, bind_assoc]
    congr 1
    funext f
    cases f <;> first | rfl | (rw [pure_bind])
theorem cut3 {a c d : Stmt} {rest : List Stmt} {Q : Flow → Shared → Prop} (P : Shared → Prop) (h1 : wpAny M A (execs [a, c, d] env) (NextT P) E s) (h2 : ∀ s', P s' → wpAny M A (execs rest env) Q E s') : wpAny M A (execs (a :: c :: d :: rest) env) Q E s := by
  show wpAny M A (execs ([a, c, d] ++ rest) env) Q E s
  rw [execs_split]
  exact wpAny_bind (wpAny_mono h1 (fun f s' h => by obtain ⟨rfl, h⟩ := h; exact h2 s' h) fun _ _ x => x)
end
/-- the try's body has raised -/
def Thrown (b : Heap) (fs : List (Addr × Fm)) (ls : Ls) (ps : List (Addr × Obj)) (envs : List Env) (s₀ : Shared) (st : Ans × List Nat) (hp : List Nat) (e : Value) (s : Shared) : Prop :=
  ∃ msg ea h' tk, e = .ref ea ∧ s = { s₀ with heap := h', toks := tk } ∧ Flew b fs ls ps envs msg ea h' ∧ st = (.err msg, hp)
theorem Fit.cons {env : Env} {envs : List Env} {fs : List (Addr × Fm)} {L : Addr} {m : Fm} (ft : Fit envs fs) (hk : env.scope.kind = .function) (hf : env.frame = some L) : Fit (env :: envs) ((L, m) :: fs) := ⟨by rw [hk]; decide, hf, ft⟩
theorem tryw {prog : Program} {w : World} {A : Around} {E : Value → Shared → Prop} {s : Shared} {env : Env} {body orelse : List Stmt} {h₀ : ExceptHandler} {hs : List ExceptHandler} {pos : Pos} {Q : Flow → Shared → Prop} (envs : List Env) (Th : List Env → Value → Shared → Prop)
    (h1 : wpAny (model prog w) A (execs body env) (fun f s₁ => match f with | .next => wpAny (model prog w) A (execs orelse env) Q E s₁ | f => Q f s₁) (Th (env :: envs)) s)
    (h2 : ∀ e s₁, Th (env :: envs) e s₁ → wpAny (model prog w) A (noteFrame e env) (fun _ s₂ => wpAny (model prog w) A (setFlight e none) (fun _ s₃ => wpAny (model prog w) A (handleBy e env (h₀ :: hs)) Q E s₃) E s₂) E s₁) :
    wpAny (model prog w) A (exec (.Try body (h₀ :: hs) orelse [] pos) env) Q E s := wpAny_Try_except (wpAny_mono h1 (fun _ _ x => x) h2)
theorem ints_get {vals : List Value} {nums : List Int} (h : IntsAre vals nums) {k : Nat} (hk : k < nums.length) : ∃ t, vals[k]? = some (.int (nums.getD k 0) t) := by
  induction h generalizing k with
  | nil => exact absurd hk (Nat.not_lt_zero _)
  | cons i t r ih =>
    cases k with
    | zero => exact ⟨t, rfl⟩
    | succ k => exact ih (Nat.lt_of_succ_lt_succ hk)
/-- the names that the run's frame keeps -/
def RunM (AN AI H T fpop frep fpush fup fdown fbld : Addr) (m : Fm) : Prop :=
  m (Str.ofString "numbers") = some (.ref AN) ∧ m (Str.ofString "items") = some (.ref AI) ∧ m (Str.ofString "pop") = some (.ref fpop) ∧ m (Str.ofString "replace") = some (.ref frep) ∧ m (Str.ofString "push") = some (.ref fpush) ∧
  m (Str.ofString "up") = some (.ref fup) ∧ m (Str.ofString "down") = some (.ref fdown) ∧ m (Str.ofString "build") = some (.ref fbld) ∧ m (Str.ofString "heap") = some (.ref H) ∧ m (Str.ofString "told") = some (.ref T)

theorem run {prog : Program} {w : World} {A : Around} {E : Value → Shared → Prop} {s : Shared} {b : Heap} {fs : List (Addr × Fm)} {ls : Ls} {ps : List (Addr × Obj)} {mg mb : Fm} {AN AI fpop frep fpush fup fdown fbld : Addr} {N : Nat}
    {adr : Nat → Addr} {key : Nat → Int} {lt : Nat → Nat → Bool} {vals : List Value} {nums : List Int} {envs : List Env}
    {Q : Value → Shared → Prop} (C : Cx w mg mb b) (O : Ops prog w b lt adr key N fpop frep fpush fup fdown fbld) (W : Wd b fs ls ps s.heap) (hAN : ls AN = some vals) (hI : IntsAre vals nums) (hAI : ls AI = some ((List.range N).map (V adr))) (I : It adr key N ls)
    (hN : N = nums.length) (hN1 : 3 ≤ N) (hN2 : N ≤ 1024) (inj : ∀ i j, i < N → j < N → adr i = adr j → i = j)
    (hroom : A.depth + 3 < recursionLimit) (hu : A.units + 40 < cLine) (hA : A.handled = none) (hfr : A.frames = some envs) (ft : Fit envs fs)
    (h : ∀ R h' tk ls', Wd b fs ls' ps h' → ResF ls ls' R ((runTo lt nums (N / 3) (N - N / 3)).2.map rowD) → (∀ a vs, ls a = some vs → (∀ i, i < N → a ≠ adr i) → ls' a = some vs) → Q (.ref R) { s with heap := h', toks := tk }) :
    wpAny (model prog w) A (call (.ref 103) [.ref AN, .ref AI, .ref fpop, .ref frep, .ref fpush, .ref fup, .ref fdown, .ref fbld]) Q E s := by
  refine' callw (binds := [(Str.ofString "numbers", .ref AN), (Str.ofString "items", .ref AI), (Str.ofString "pop", .ref fpop), (Str.ofString "replace", .ref frep), (Str.ofString "push", .ref fpush), (Str.ofString "up", .ref fup), (Str.ofString "down", .ref fdown), (Str.ofString "build", .ref fbld)]) C W ?ho ?hcd (by omega) ?hb ?hl ?_ ?c1 ?c2 ?c3 ?c4
  walk_at "enter"
  intro L h' tk' W'
  generalize hm : (fun y => List.lookup y [(Str.ofString "numbers", Value.ref AN), (Str.ofString "items", .ref AI), (Str.ofString "pop", .ref fpop), (Str.ofString "replace", .ref frep), (Str.ofString "push", .ref fpush), (Str.ofString "up", .ref fup), (Str.ofString "down", .ref fdown), (Str.ofString "build", .ref fbld)].reverse) = m at W'
  have m1 : m (Str.ofString "numbers") = some (.ref AN) := by rw [← hm]; rfl
  have m2 : m (Str.ofString "items") = some (.ref AI) := by rw [← hm]; rfl
  have m3 : m (Str.ofString "pop") = some (.ref fpop) := by rw [← hm]; rfl
  have m4 : m (Str.ofString "replace") = some (.ref frep) := by rw [← hm]; rfl
  have m5 : m (Str.ofString "push") = some (.ref fpush) := by rw [← hm]; rfl
  have m6 : m (Str.ofString "up") = some (.ref fup) := by rw [← hm]; rfl
  have m7 : m (Str.ofString "down") = some (.ref fdown) := by rw [← hm]; rfl
  have m8 : m (Str.ofString "build") = some (.ref fbld) := by rw [← hm]; rfl
  clear hm
  have hvl : vals.length = N := by rw [hN]; exact hI.length
  have q1 := O.kpop
  have q2 := O.krep
  have q3 := O.kpush
  have q4 := O.kup
  have q5 := O.kdown
  have q6 := O.kbld
  refine wpAny_execs_cons (wpAny_Assign_Name ?_)
  refine slicew W' m2 hAI (by rw [List.length_map, List.length_range]; omega) ?_
  walk_at "go"
  refine ⟨N / 3, _, by rw [hvl], by rw [List.length_map, List.length_range]; omega, by assumption, ?_⟩
  intro H h₁ oH bH W₁
  rw [← List.map_take, List.take_range, Nat.min_eq_left (by omega : N / 3 ≤ N)] at W₁
  walk_at "go"
  have hne : ∀ i, i < N → adr i ≠ H := fun i q => let ⟨_, e⟩ := I i q; ne_fresh oH e
  have hmr : ∀ i ∈ List.range (N / 3), i < N := fun i q => by have := List.mem_range.mp q; omega
  refine O.bld (by assumption) upd_self (I.upd hne) hmr (by rw [List.length_range]; omega) (by show A.depth + 1 + 2 < recursionLimit; omega) (by show A.units + 3 + 24 < cLine; omega) hA ?_
  intro h₂ tk₂ W₂
  rw [upd_upd] at W₂
  generalize hhp : bldH lt (List.range (N / 3)) = hp₀ at W₂
  have hm₀ : ∀ i ∈ hp₀, i < N := fun i q => hmr i (bldH_mem (lt := lt) (by rw [hhp]; exact q))
  have hl₀ : hp₀.length = N / 3 := by rw [← hhp, bldH_len, List.length_range]
  walk_at "go"
  refine neww W₂ (by rw [PySem.sizeLine_eq]; decide) ?_
  intro D1 h₃ o1 b1 W₃
  walk_at "go"
  refine addw W₃ upd_self (up_keep o1 upd_self) (by rw [List.length_map, PySem.sizeLine_eq, hl₀]; show 1 + N / 3 ≤ _; omega) ?_
  intro D2 h₄ o2 b2 W₄
  walk_at "go"
  refine neww W₄ (by rw [PySem.sizeLine_eq, List.length_singleton]; omega) ?_
  intro T h₅ oT bT W₅
  obtain ⟨P, S⟩ := run_start (D1 := D1) (D2 := D2) (T := T) hAN hAI I inj hN1 hvl hm₀ oH o1 o2 oT
  generalize (upd (upd (upd (upd ls H (hp₀.map (V adr))) D1 [Value.none]) D2 ([Value.none] ++ hp₀.map (V adr))) T [Value.ref D2]) = ls₁ at W₅ S
  have s1 := S.num
  walk_at "go"
  rename Wd _ _ _ _ _ => W₆
  refine iterw (n := N - N / 3) W₆ (by assumption) (by omega) (by omega) (by omega) (by rw [hvl]; omega) ?_
  intro it h₇ W₇
  rw [hvl] at W₇
  have fits : ∀ i, (runTo lt nums (N / 3) i).1.length ≤ N / 3 + i := fun i => runTo_len i
  refine forw hA W₇ (fun i m' ls' => RunM AN AI H T fpop frep fpush fup fdown fbld m' ∧ RunS ls AN AI H T vals adr key N (runTo lt nums (N / 3) i).1 (runTo lt nums (N / 3) i).2 ls')
    ⟨⟨by walk_at "lk", by walk_at "lk", by walk_at "lk", by walk_at "lk", by walk_at "lk", by walk_at "lk", by walk_at "lk", by walk_at "lk", by walk_at "lk", by walk_at "lk"⟩, by rw [runTo, hhp]; exact S⟩ ?_ ?_
  · rintro i h₁ tk₁ tk₂ m' ls' hi ⟨M, S⟩ W₁
    have k0 : ((N / 3 : Nat) : Int) + (i : Int) * 1 = ((N / 3 + i : Nat) : Int) := by omega
    rw [k0] at W₁
    have hlen := fits i
    have htold := runTo_told (lt := lt) (nums := nums) (n₀ := N / 3) i
    rw [runTo]
    generalize (runTo lt nums (N / 3) i).1 = hp at S hlen ⊢
    generalize (runTo lt nums (N / 3) i).2 = told at S htold ⊢
    generalize hk : N / 3 + i = k at W₁ ⊢
    have hkN : k < N := by omega
    obtain ⟨tx, hx⟩ := ints_get hI (k := k) (by omega)
    generalize nums.getD k 0 = x at hx ⊢
    obtain ⟨M1, M2, M3, M4, M5, M6, M7, M8, M9, M10⟩ := M
    have e1 : (x.fdiv 7).fmod ((hp.length : Int) + 1) = ((((x.fdiv 7).fmod ((hp.length : Int) + 1)).toNat : Nat) : Int) := by
      rw [Int.toNat_of_nonneg (Int.fmod_nonneg_of_pos _ (by omega))]
    have e2 : (x.fdiv 49).fmod ((hp.length : Int) + 1) = ((((x.fdiv 49).fmod ((hp.length : Int) + 1)).toNat : Nat) : Int) := by
      rw [Int.toNat_of_nonneg (Int.fmod_nonneg_of_pos _ (by omega))]
    have e3 : ((x.fdiv 7).fmod ((hp.length : Int) + 1)).toNat ≤ hp.length := by
      have := Int.fmod_lt_of_pos (x.fdiv 7) (b := (hp.length : Int) + 1) (by omega)
      omega
    have s1 := S.num
    have s3 := S.hps
    refine cut3 (Turned b fs ((it, rit (((N / 3 : Nat) : Int) + ((i + 1 : Nat) : Int) * 1) (((N - N / 3 - (i + 1) : Nat)) : Int) 1) :: ps) s L (fun m ls' => RunM AN AI H T fpop frep fpush fup fdown fbld m ∧ (∃ tk, m (Str.ofString "k") = some (.int (k : Int) tk)) ∧ m (Str.ofString "x") = some (.int x tx) ∧
      (∃ tp, m (Str.ofString "place") = some (.int ((((x.fdiv 7).fmod ((hp.length : Int) + 1)).toNat : Nat) : Int) tp)) ∧ (∃ ts, m (Str.ofString "start") = some (.int ((((x.fdiv 49).fmod ((hp.length : Int) + 1)).toNat : Nat) : Int) ts)) ∧ RunS ls AN AI H T vals adr key N hp told ls')) ?_ ?_
    · walk_at "go"
      refine subw (by assumption) s1 (by omega) (by omega) hx ?_
      walk_at "go"
      exact ⟨rfl, _, _, _, _, rfl, (by assumption), ⟨by walk_at "lk", by walk_at "lk", by walk_at "lk", by walk_at "lk", by walk_at "lk", by walk_at "lk", by walk_at "lk", by walk_at "lk", by walk_at "lk", by walk_at "lk"⟩, ⟨_, by walk_at "lk"⟩, by walk_at "lk", ⟨_, by rw [← e1]; walk_at "lk"⟩, ⟨_, by rw [← e2]; walk_at "lk"⟩, S⟩
    clear S W₁ M1 M2 M3 M4 M5 M6 M7 M8 M9 M10 s1 s3
    rintro s' ⟨h₂, tk₂, m₂, ls₂, rfl, W₂, ⟨M1, M2, M3, M4, M5, M6, M7, M8, M9, M10⟩, ⟨tk, M11⟩, M12, ⟨tp, M13⟩, ⟨ts, M14⟩, S⟩
    generalize hp' : ((x.fdiv 7).fmod ((hp.length : Int) + 1)).toNat = p at M13 e3
    generalize hst : ((x.fdiv 49).fmod ((hp.length : Int) + 1)).toNat = st at M14
    clear e1 e2
    have s1 := S.num
    have s2 := S.its
    have s3 := S.hps
    refine cut1 (Turned b fs ((it, rit (((N / 3 : Nat) : Int) + ((i + 1 : Nat) : Int) * 1) (((N - N / 3 - (i + 1) : Nat)) : Int) 1) :: ps) s L (fun m ls' => RunM AN AI H T fpop frep fpush fup fdown fbld m ∧
      (∃ v, m (Str.ofString "answer") = some v ∧ AnsV H T adr N ls' v (stepA lt x k hp).1) ∧ RunS ls AN AI H T vals adr key N (stepA lt x k hp).2 told ls')) ?_ ?_
    · refine tryw envs (fun es => Thrown b ((L, m₂) :: fs) ls₂ ((it, rit (((N / 3 : Nat) : Int) + ((i + 1 : Nat) : Int) * 1) (((N - N / 3 - (i + 1) : Nat)) : Int) 1) :: ps) es s (stepA lt x k hp) hp) ?_ ?_
      · walk_at "go"
        · rename (x.fmod 7 = 0) => h0
          by_cases hz : hp.length = 0
          · have hs : stepA lt x k hp = (.err popOf, hp) := by rw [stepA, if_pos h0, if_pos hz]
            have e0 : hp = [] := List.eq_nil_of_length_eq_zero hz
            refine O.popOut (by assumption) (by rw [s3, e0]; rfl) (by show A.depth + 1 < recursionLimit; omega) hA (Around.frames_deeper hfr) (Fit.cons (L := L) (m := m₂) ft rfl rfl) ?_
            intro h₃ tk₃ e fl
            exact ⟨_, e, h₃, tk₃, rfl, rfl, fl, hs⟩
          · have hs : stepA lt x k hp = (.it (popV hp), popH lt hp) := by rw [stepA, if_pos h0, if_neg hz]
            rw [hs]
            refine O.pop (by assumption) s3 S.itm S.mem (by omega) (by show A.depth + 1 + 2 < recursionLimit; omega) (by show A.units + 3 + 24 < cLine; omega) (by omega) ?_
            intro h₃ tk₃ W₃
            walk_at "go"
            exact ⟨rfl, _, _, _, _, rfl, (by assumption), ⟨by walk_at "lk", by walk_at "lk", by walk_at "lk", by walk_at "lk", by walk_at "lk", by walk_at "lk", by walk_at "lk", by walk_at "lk", by walk_at "lk", by walk_at "lk"⟩, ⟨_, by walk_at "lk", rfl, S.mem _ (popV_mem (by omega))⟩, S.heap P fun i q => S.mem i (popH_mem q)⟩
        · rename (x.fmod 7 ≠ 0) => h0
          walk_at "go"
          · rename (x.fmod 7 = 1) => h1
            refine subw (by assumption) s2 (by omega) (by omega) (by rw [Int.toNat_natCast, List.getElem?_map, List.getElem?_range hkN]; rfl) ?_
            walk_at "go"
            by_cases hz : hp.length = 0
            · have hs : stepA lt x k hp = (.err outOf, hp) := by rw [stepA, if_neg h0, if_pos h1, if_pos hz]
              have e0 : hp = [] := List.eq_nil_of_length_eq_zero hz
              refine O.repOut (by assumption) (by rw [s3, e0]; rfl) (by show A.depth + 1 < recursionLimit; omega) hA (Around.frames_deeper hfr) (Fit.cons (L := L) (m := m₂) ft rfl rfl) ?_
              intro h₃ tk₃ e fl
              exact ⟨_, e, h₃, tk₃, rfl, rfl, fl, hs⟩
            · have hs : stepA lt x k hp = (.it (hp.getD 0 0), repH lt hp k) := by rw [stepA, if_neg h0, if_pos h1, if_neg hz]
              rw [hs]
              refine O.rep (by assumption) s3 S.itm S.mem (by omega) (by show A.depth + 1 + 2 < recursionLimit; omega) (by show A.units + 3 + 24 < cLine; omega) (by omega) hkN ?_
              intro h₃ tk₃ W₃
              walk_at "go"
              exact ⟨rfl, _, _, _, _, rfl, (by assumption), ⟨by walk_at "lk", by walk_at "lk", by walk_at "lk", by walk_at "lk", by walk_at "lk", by walk_at "lk", by walk_at "lk", by walk_at "lk", by walk_at "lk", by walk_at "lk"⟩, ⟨_, by walk_at "lk", rfl, S.mem _ (getD_mem (by omega))⟩, S.heap P fun i q => (repH_mem (by omega) q).elim (fun e => e ▸ hkN) (S.mem i)⟩
          · rename (x.fmod 7 ≠ 1) => h1
            walk_at "go"
            · rename (x.fmod 7 = 2) => h2
              refine subw (by assumption) s2 (by omega) (by omega) (by rw [Int.toNat_natCast, List.getElem?_map, List.getElem?_range hkN]; rfl) ?_
              walk_at "go"
              have hs : stepA lt x k hp = (.no, pushH lt hp k) := by rw [stepA, if_neg h0, if_neg h1, if_pos h2]
              rw [hs]
              refine O.push (by assumption) s3 S.itm S.mem (by omega) (by show A.depth + 1 + 2 < recursionLimit; omega) (by show A.units + 3 + 24 < cLine; omega) hkN ?_
              intro h₃ tk₃ W₃
              walk_at "go"
              exact ⟨rfl, _, _, _, _, rfl, (by assumption), ⟨by walk_at "lk", by walk_at "lk", by walk_at "lk", by walk_at "lk", by walk_at "lk", by walk_at "lk", by walk_at "lk", by walk_at "lk", by walk_at "lk", by walk_at "lk"⟩, ⟨_, by walk_at "lk", rfl⟩, S.heap P fun i q => (pushH_mem q).elim (fun e => e ▸ hkN) (S.mem i)⟩
            · rename (x.fmod 7 ≠ 2) => h2
              walk_at "go"
              · rename (x.fmod 7 = 3) => h3
                by_cases hz : p < hp.length
                · have hs : stepA lt x k hp = (.no, suA lt hp p) := by rw [stepA, if_neg h0, if_neg h1, if_neg h2, if_pos h3, hp', if_pos hz]
                  rw [hs]
                  refine O.up (by assumption) s3 S.itm S.mem (by omega) (by show A.depth + 1 + 2 < recursionLimit; omega) (by show A.units + 3 + 24 < cLine; omega) hz ?_
                  intro h₃ tk₃ W₃
                  walk_at "go"
                  exact ⟨rfl, _, _, _, _, rfl, (by assumption), ⟨by walk_at "lk", by walk_at "lk", by walk_at "lk", by walk_at "lk", by walk_at "lk", by walk_at "lk", by walk_at "lk", by walk_at "lk", by walk_at "lk", by walk_at "lk"⟩, ⟨_, by walk_at "lk", rfl⟩, S.heap P fun i q => S.mem i (suA_mem hz q)⟩
                · have hs : stepA lt x k hp = (.err outOf, hp) := by rw [stepA, if_neg h0, if_neg h1, if_neg h2, if_pos h3, hp', if_neg hz]
                  refine O.upOut (by assumption) s3 (by omega) (by omega) (by show A.depth + 1 < recursionLimit; omega) hA (Around.frames_deeper hfr) (Fit.cons (L := L) (m := m₂) ft rfl rfl) ?_
                  intro h₃ tk₃ e fl
                  exact ⟨_, e, h₃, tk₃, rfl, rfl, fl, hs⟩
              · rename (x.fmod 7 ≠ 3) => h3
                walk_at "go"
                · rename (x.fmod 7 = 4) => h4
                  by_cases hz : p < hp.length
                  · have hs : stepA lt x k hp = (.no, sdA lt hp st p) := by rw [stepA, if_neg h0, if_neg h1, if_neg h2, if_neg h3, if_pos h4, hp', hst, if_pos hz]
                    rw [hs]
                    refine O.down (by assumption) s3 S.itm S.mem (by omega) (by show A.depth + 1 + 2 < recursionLimit; omega) (by show A.units + 3 + 24 < cLine; omega) hz ?_
                    intro h₃ tk₃ W₃
                    walk_at "go"
                    exact ⟨rfl, _, _, _, _, rfl, (by assumption), ⟨by walk_at "lk", by walk_at "lk", by walk_at "lk", by walk_at "lk", by walk_at "lk", by walk_at "lk", by walk_at "lk", by walk_at "lk", by walk_at "lk", by walk_at "lk"⟩, ⟨_, by walk_at "lk", rfl⟩, S.heap P fun i q => S.mem i (sdA_mem hz q)⟩
                  · have hs : stepA lt x k hp = (.err outOf, hp) := by rw [stepA, if_neg h0, if_neg h1, if_neg h2, if_neg h3, if_pos h4, hp', hst, if_neg hz]
                    refine O.downOut (by assumption) s3 (by omega) (by omega) (by show A.depth + 1 < recursionLimit; omega) hA (Around.frames_deeper hfr) (Fit.cons (L := L) (m := m₂) ft rfl rfl) ?_
                    intro h₃ tk₃ e fl
                    exact ⟨_, e, h₃, tk₃, rfl, rfl, fl, hs⟩
                · rename (x.fmod 7 ≠ 4) => h4
                  walk_at "go"
                  · rename (x.fmod 7 = 5) => h5
                    have hs : stepA lt x k hp = (.no, bldH lt hp) := by rw [stepA, if_neg h0, if_neg h1, if_neg h2, if_neg h3, if_neg h4, if_pos h5]
                    rw [hs]
                    refine O.bld (by assumption) s3 S.itm S.mem (by omega) (by show A.depth + 1 + 2 < recursionLimit; omega) (by show A.units + 3 + 24 < cLine; omega) hA ?_
                    intro h₃ tk₃ W₃
                    walk_at "go"
                    exact ⟨rfl, _, _, _, _, rfl, (by assumption), ⟨by walk_at "lk", by walk_at "lk", by walk_at "lk", by walk_at "lk", by walk_at "lk", by walk_at "lk", by walk_at "lk", by walk_at "lk", by walk_at "lk", by walk_at "lk"⟩, ⟨_, by walk_at "lk", rfl⟩, S.heap P fun i q => S.mem i (bldH_mem q)⟩
                  · rename (x.fmod 7 ≠ 5) => h5
                    walk_at "go"
                    refine subw (by assumption) s2 (by omega) (by omega) (by rw [Int.toNat_natCast, List.getElem?_map, List.getElem?_range hkN]; rfl) ?_
                    walk_at "go"
                    have hs : stepA lt x k hp = (.no, hp ++ [k]) := by rw [stepA, if_neg h0, if_neg h1, if_neg h2, if_neg h3, if_neg h4, if_neg h5]
                    rw [hs]
                    refine apph (by assumption) s3 (by omega) ?_
                    intro h₃ W₃
                    walk_at "go"
                    exact ⟨rfl, _, _, _, _, rfl, (by assumption), ⟨by walk_at "lk", by walk_at "lk", by walk_at "lk", by walk_at "lk", by walk_at "lk", by walk_at "lk", by walk_at "lk", by walk_at "lk", by walk_at "lk", by walk_at "lk"⟩, ⟨_, by walk_at "lk", rfl⟩, S.heap P fun i q => (List.mem_append.mp q).elim (S.mem i) fun e => by rw [List.mem_singleton.mp e]; exact hkN⟩
      · rintro e s' ⟨msg, ea, h₃, tk₃, rfl, rfl, fl, hs⟩
        rw [hs]
        refine' catchw C (Around.frames_deeper hfr) fl ?hg ?_
        case hg => k_is
        intro h₄ tk₄ t tk₅ W₄ x1 x2
        walk_at "go"
        refine PySem.P.str_of_exc_one PySem.F.excStr_IndexError (by show A.units + 3 + 2 < cLine; omega) x1 x2 ?_
        walk_at "go"
        refine neww W₄ (by rw [PySem.sizeLine_eq, List.length_singleton]; omega) ?_
        intro D h₅ oD bD W₅
        walk_at "go"
        refine goesw (by assumption) ?_
        intro h₆ tk₆ m₆ hm₆ W₆
        exact ⟨rfl, h₆, tk₆, m₆, _, rfl, W₆, ⟨(hm₆ _ (by decide)).trans (by walk_at "lk"), (hm₆ _ (by decide)).trans (by walk_at "lk"), (hm₆ _ (by decide)).trans (by walk_at "lk"), (hm₆ _ (by decide)).trans (by walk_at "lk"), (hm₆ _ (by decide)).trans (by walk_at "lk"), (hm₆ _ (by decide)).trans (by walk_at "lk"), (hm₆ _ (by decide)).trans (by walk_at "lk"), (hm₆ _ (by decide)).trans (by walk_at "lk"), (hm₆ _ (by decide)).trans (by walk_at "lk"), (hm₆ _ (by decide)).trans (by walk_at "lk")⟩, ⟨_, (hm₆ _ (by decide)).trans (by walk_at "lk"), D, tk₅, rfl, upd_self, S.fresh oD⟩, S.new oD⟩
    · rintro s' ⟨h₃, tk₃, m₃, ls₃, rfl, W₃, ⟨M1, M2, M3, M4, M5, M6, M7, M8, M9, M10⟩, ⟨v, M11, av⟩, S₃⟩
      have hsl := stepA_len (lt := lt) (x := x) (k := k) (hp := hp)
      generalize stepA lt x k hp = stp at av S₃ hsl ⊢
      have s3 := S₃.hps
      obtain ⟨rs, t1, t2⟩ := S₃.tol
      walk_at "go"
      refine neww (by assumption) (by rw [PySem.sizeLine_eq, List.length_singleton]; omega) ?_
      intro D1 h₄ o1 b1 W₄
      walk_at "go"
      refine addw W₄ upd_self (up_keep o1 s3) (by rw [List.length_map, List.length_singleton, PySem.sizeLine_eq]; omega) ?_
      intro D2 h₅ o2 b2 W₅
      have S₅ := (S₃.new (us := [v]) o1).new (us := [v] ++ stp.2.map (V adr)) o2
      have g2 := (S₃.new (us := [v]) o1).fresh o2
      have t3 : upd (upd ls₃ D1 [v]) D2 ([v] ++ stp.2.map (V adr)) T = some (rs.map Value.ref) := up_keep o2 (up_keep o1 t1)
      have row : RowIs H T adr N (upd (upd ls₃ D1 [v]) D2 ([v] ++ stp.2.map (V adr))) stp D2 := ⟨⟨v, upd_self, av.mono fun a us _ q => up_keep o2 (up_keep o1 q)⟩, g2, S₃.mem⟩
      walk_at "go"
      refine appendw W₅ t3 (by rw [List.length_map, ← Paired.length t2, PySem.sizeLine_eq]; omega) ?_
      intro h₆ W₆
      walk_at "go"
      exact ⟨_, _, _, _, rfl, W₆, ⟨M1, M2, M3, M4, M5, M6, M7, M8, M9, M10⟩, S₅.row P row t3⟩
  · rintro h₁ tk₁ m₁ ls₁ ⟨⟨M1, M2, M3, M4, M5, M6, M7, M8, M9, M10⟩, S⟩ W₁
    have htold := runTo_told (lt := lt) (nums := nums) (n₀ := N / 3) (N - N / 3)
    have S2 := S.two
    have hrl := runTo_rows (lt := lt) (nums := nums) (n₀ := N / 3) (N - N / 3)
    rw [show N / 3 + (N - N / 3) = N from by omega] at hrl
    generalize (runTo lt nums (N / 3) (N - N / 3)).2 = told at S2 h htold hrl
    clear S
    have s2 := S2.its
    dsimp only
    refine cut1 (Turned b fs ps s L (fun m ls' => m (Str.ofString "told") = some (.ref T) ∧ Run2 ls AI H T adr N told N ls')) ?_ ?_
    · walk_at "go"
      rename Wd _ _ _ _ _ => W₂
      refine iterw (n := N) W₂ (by assumption) (by omega) (by omega) (by omega) (by omega) ?_
      intro it₂ h₃ W₃
      refine forw hA W₃ (fun i m' ls' => (m' (Str.ofString "items") = some (.ref AI) ∧ m' (Str.ofString "told") = some (.ref T)) ∧ Run2 ls AI H T adr N told i ls') ⟨⟨by walk_at "lk", by walk_at "lk"⟩, S2⟩ ?_ ?_
      · rintro i h₄ tk₄ tk₅ m₄ ls₄ hi ⟨⟨K1, K2⟩, S4⟩ W₄
        have k0 : (0 : Int) + (i : Int) * 1 = ((i : Nat) : Int) := by omega
        rw [k0] at W₄
        have s2 := S4.its
        obtain ⟨xx, tt, ei⟩ := S4.rest i (Nat.le_refl _) hi
        walk_at "go"
        refine subw (by assumption) s2 (by omega) (by omega) (by rw [Int.toNat_natCast, List.getElem?_map, List.getElem?_range hi]; rfl) ?_
        refine methw (a := adr i) (by assumption) ei PySem.F.slot_list_append PySem.F.type_list_append ?_
        walk_at "go"
        refine appendw (by assumption) ei (by rw [PySem.sizeLine_eq, List.length_singleton]; omega) ?_
        intro h₅ W₅
        walk_at "go"
        exact ⟨_, _, _, _, rfl, W₅, ⟨by walk_at "lk", by walk_at "lk"⟩, S4.step P hi⟩
      · rintro h₄ tk₄ m₄ ls₄ ⟨⟨K1, K2⟩, S4⟩ W₄
        exact ⟨rfl, _, _, _, _, rfl, W₄, K2, S4⟩
    clear W₁ M1 M2 M3 M4 M5 M6 M7 M8 M9 M10 S2 s2
    rintro s' ⟨h₂, tk₂, m₂, ls₂, rfl, W₂, M1, S⟩
    obtain ⟨rs, t1, t2⟩ := S.tol
    refine wpAny_execs_cons (wpAny_Return_some (wpAny_ListComp (by decide) rfl (by decide) (ldw W₂ M1 ?_)))
    refine compw hA W₂ t1 (by rw [List.length_map, ← Paired.length t2]; omega)
      (fun D i ls' ys => (∀ a us, ls₂ a = some us → ls' a = some us) ∧ ∃ ds : List Addr, ys = ds.map Value.ref ∧ Paired (fun row d => (OutRow ls' row d ∧ ls d = none) ∧ d ≠ D) ((told.map rowD).take i) ds) ?_ ?_ ?_
    · intro D oD
      exact ⟨fun a us q => up_keep oD q, [], rfl, Paired.nil⟩
    · rintro D C₂ p i v m' h₃ tk₃ ls₃ ys oD hv hyl ⟨old, ds, rfl, prd⟩ e1 e2 W₃
      rw [List.getElem?_map] at hv
      obtain ⟨r, hr, rfl⟩ := Option.map_eq_some_iff.mp hv
      obtain ⟨x, hx, rowx⟩ := Paired.get t2 hr
      obtain ⟨vs', er, hvl', cells⟩ := row_cells (fun j hj => S.done j hj) rowx
      have hxm : x.2.length ≤ N := hrl x (List.mem_of_getElem? hx)
      have hlx : (rowD x).length = vs'.length := Paired.length cells
      refine wpAny_ListComp (by decide) rfl (by decide) (ldw W₃ setm_self ?_)
      refine compw hA W₃ (old _ _ er) (by omega) (fun D' j ls' zs => (∀ a us, ls₃ a = some us → ls' a = some us) ∧ Paired DvV ((rowD x).take j) zs) ?_ ?_ ?_
      · intro D' oD'
        exact ⟨fun a us q => up_keep oD' q, Paired.nil⟩
      · rintro D' C₃ p' j u m'' h₄ tk₄ ls₄ zs oD' hu' hzl ⟨old', prd'⟩ f1 f2 W₄
        obtain ⟨d, hd, cell⟩ := Paired.get cells hu'
        have keepD : ∀ y a us, ls₃ a = some us → upd ls₄ D' (zs ++ [y]) a = some us := fun y a us q => (upd_ne (ne_fresh oD' q)).trans (old' a us q)
        rcases cell with ⟨rfl, rfl⟩ | ⟨a, us, z, rfl, ez, hzz, dz⟩
        · walk_at "go"
          exact ⟨_, _, _, _, rfl, by assumption, f1, f2, keepD _, by rw [take_more hd]; exact Paired.snoc prd' rfl⟩
        · walk_at "go"
          refine lastw (by assumption) (old' _ _ (old _ _ ez)) hzz ?_
          exact ⟨_, _, _, _, rfl, by assumption, f1, f2, keepD _, by rw [take_more hd]; exact Paired.snoc prd' dz⟩
      · rintro D' h₄ tk₄ ls₄ zs oD' hzl ⟨old', prd'⟩ f1 W₄
        have hDD : D' ≠ D := fun z => by rw [z, e1] at oD'; cases oD'
        refine ⟨_, _, _, ls₄, rfl, W₄, old' _ _ e1, old' _ _ e2, fun a us q => (upd_ne (ne_fresh oD q)).trans (old' _ _ (old _ _ q)), ds ++ [D'], by rw [List.map_append]; rfl, ?_⟩
        rw [take_more (a := rowD x) (by rw [List.getElem?_map, hx]; rfl)]
        rw [← hlx, List.take_length] at prd'
        exact Paired.snoc (Paired.mono (fun row d q => let ⟨⟨⟨us, q1, q2⟩, q4⟩, q3⟩ := q; ⟨⟨⟨us, (upd_ne q3).trans (old' _ _ q1), q2⟩, q4⟩, q3⟩) prd) ⟨⟨⟨zs, (upd_ne hDD).trans f1, prd'⟩, S.none (none_back old oD')⟩, hDD⟩
    · rintro D h₃ tk₃ ls₃ ys oD hyl ⟨old, ds, rfl, prd⟩ e1 W₃
      have hl2 : (told.map rowD).length = (rs.map Value.ref).length := by rw [List.length_map, List.length_map, Paired.length t2]
      rw [← hl2, List.take_length] at prd
      exact h D h₃ tk₃ ls₃ W₃.pop ⟨S.none oD, ds, e1, Paired.mono (fun _ _ q => q.1) prd⟩ fun a vs q hne => old _ _ (S.old a vs q hne)

section
variable {prog : Program} {w : World} {A : Around} {E : Value → Shared → Prop} {s : Shared} {b h : Heap} {fs : List (Addr × Fm)} {ls : Ls} {ps : List (Addr × Obj)} {m : Fm} {l c : Addr} {vs us : List Value}
theorem wd0 {x : Str} {v : Value} (F : Fr b b.objs.size h m) (e : m x = some v) : ∃ m, m x = some v ∧ Wd b [(b.objs.size, m)] (fun _ => none) [] h :=
  ⟨m, e, F.keep, fun p hp => by
    rcases List.mem_singleton.mp hp with rfl
    exact ⟨F.ns, Heap.get?_none_of_le (Nat.le_refl _)⟩, by simp, fun _ _ q => (by cases q), fun p hp => (by cases hp), by simp⟩
theorem Wd.fr0 (W : Wd b ((b.objs.size, m) :: fs) ls ps h) : Fr b b.objs.size h m := ⟨W.ns, W.keep, Nat.le_refl _⟩
theorem addLw {Q : Value → Shared → Prop} (W : Wd b fs ls ps s.heap) (hl : s.heap.IsList l vs.toArray) (hb : s.heap.IsList c us.toArray) (hz : vs.length + us.length ≤ sizeLine)
    (h : ∀ D h', ls D = none → Wd b fs (upd ls D (vs ++ us)) ps h' → Q (.ref D) { s with heap := h' }) : wpAny (model prog w) A (binaryOp .Add (.ref l) (.ref c)) Q E s := by
  obtain ⟨⟨cls, dd, data, sl⟩, ho, hc, n, hd⟩ := id hl
  obtain ⟨⟨cls2, dd2, data2, sl2⟩, ho2, hc2, n2, hd2⟩ := id hb
  simp only at hc hd hc2 hd2
  subst hc hd hc2 hd2
  refine concat_meets ⟨_, ho, rfl⟩ ⟨_, ho2, rfl⟩ noFill_list_add seq_list_add PySem.F.slot_list_add PySem.F.entry_list_add (PySem.F.args_list_add_2 _ _) (list_addW l c vs.toArray us.toArray n n2 dd dd2 sl sl2 (by simpa using hz)) ⟨ho, ho2, ?_⟩
  rw [show vs.toArray ++ us.toArray = (vs ++ us).toArray from by simp]
  exact h _ _ W.fresh (W.newList _)
theorem numw {ns ms : List Int} {Q : Value → Shared → Prop} (W : Wd b fs ls ps s.heap) (hl : s.heap.IsList l vs.toArray) (hI : IntsAre vs ns) (e : ls c = some us) (hU : IntsAre us ms) (hz : ns.length + ms.length ≤ 1000)
    (h : ∀ D h' ls' vals, Wd b fs ls' ps h' → ls' D = some vals → IntsAre vals (ns ++ ms) → Q (.ref D) { s with heap := h' }) : wpAny (model prog w) A (binaryOp .Add (.ref l) (.ref c)) Q E s :=
  addLw W hl (W.isList e) (by rw [hI.length, hU.length, PySem.sizeLine_eq]; omega) fun D h' _ W' => h D h' _ _ W' upd_self (IntsAre.append hI hU)
end

/-- lists of one number each, one for each number -/
def Ones (ls₁ ls : Ls) (D : Addr) (f : Int → Int) (ns : List Int) (as : List Addr) : Prop :=
  Paired (fun n a => (∃ t, ls a = some [.int (f n) t]) ∧ a ≠ D ∧ ls₁ a = none) ns as ∧ as.Nodup
theorem Ones.snoc {ls₁ ls : Ls} {D D' : Addr} {f : Int → Int} {nums : List Int} {i : Nat} {n : Int} {as : List Addr} {t : Tok} {ys zs : List Value} (h : Ones ls₁ ls D f (nums.take i) as) (hn : nums[i]? = some n) (old : ∀ a us, ls₁ a = some us → ls a = some us)
    (e1 : ls D = some ys) (o : ls D' = none) : Ones ls₁ (upd (upd ls D' [.int (f n) t]) D zs) D f (nums.take (i + 1)) (as ++ [D']) := by
  have hDD : D' ≠ D := fun z => by rw [z, e1] at o; cases o
  have hmem : D' ∉ as := fun q => by
    obtain ⟨j, hj⟩ := List.getElem?_of_mem q
    obtain ⟨_, _, ⟨_, z⟩, _⟩ := Paired.get h.1 hj
    rw [o] at z
    cases z
  refine ⟨?_, ?_⟩
  · rw [take_more hn]
    refine Paired.snoc (Paired.mono (fun n a q => ?_) h.1) ⟨⟨t, (upd_ne hDD).trans upd_self⟩, hDD, none_back old o⟩
    obtain ⟨⟨u, q1⟩, q2, q3⟩ := q
    exact ⟨⟨u, (upd_ne q2).trans (up_keep o q1)⟩, q2, q3⟩
  · rw [List.nodup_append]
    exact ⟨h.2, by simp, fun a ha c hc => by rcases List.mem_singleton.mp hc with rfl; exact fun z => hmem (z ▸ ha)⟩
theorem ones_range {as : List Addr} : as.map Value.ref = (List.range as.length).map (V fun i => as.getD i 0) := by
  apply List.ext_getElem?
  intro i
  rw [List.getElem?_map, List.getElem?_map]
  by_cases h : i < as.length
  · rw [List.getElem?_range h, List.getElem?_eq_getElem h]
    show some (Value.ref as[i]) = some (V (fun i => as.getD i 0) i)
    unfold V
    dsimp only
    rw [List.getD_eq_getElem?_getD, List.getElem?_eq_getElem h]
    rfl
  · rw [List.getElem?_eq_none (by omega), List.getElem?_eq_none (by rw [List.length_range]; omega)]
    rfl
section
variable {ls₁ ls : Ls} {D : Addr} {f : Int → Int} {nums : List Int} {as : List Addr}
theorem Ones.at (h : Ones ls₁ ls D f nums as) {i : Nat} (hi : i < nums.length) : (∃ t, ls (as.getD i 0) = some [.int (f (nums.getD i 0)) t]) ∧ ls₁ (as.getD i 0) = none := by
  have hl := Paired.length h.1
  obtain ⟨n, q1, q2, _, q3⟩ := Paired.get h.1 (i := i) (b := as.getD i 0) (by rw [List.getD_eq_getElem?_getD, List.getElem?_eq_getElem (by omega)]; rfl)
  rw [show nums.getD i 0 = n from by rw [List.getD_eq_getElem?_getD, q1]; rfl]
  exact ⟨q2, q3⟩
theorem Ones.it (h : Ones ls₁ ls D f nums as) : It (fun i => as.getD i 0) (fun i => f (nums.getD i 0)) nums.length ls := fun i hi => (h.at hi).1
theorem Ones.inj (h : Ones ls₁ ls D f nums as) : ∀ i j, i < nums.length → j < nums.length → as.getD i 0 = as.getD j 0 → i = j := fun i j hi hj e => by
  have hl := Paired.length h.1
  refine (List.getElem?_inj (l := as) (i := i) (j := j) (by omega) h.2).mp ?_
  rw [List.getD_eq_getElem?_getD, List.getD_eq_getElem?_getD, List.getElem?_eq_getElem (by omega), List.getElem?_eq_getElem (by omega)] at e
  rw [List.getElem?_eq_getElem (by omega), List.getElem?_eq_getElem (by omega)]
  exact congrArg some e
end
theorem law_holds : PySem.Challenge.rw_dp0044_01.Holds := Mine.hd (by
  k_go0
  rename Fr _ _ _ _ => F0
  rename IntsAre _ _ => hI
  rename Top _ _ _ _ _ _ => hT
  rename Frag.In _ _ => hX
  rename Heap.IsList _ _ _ => hL
  rename (¬ _ < _) => hle
  have C : Cx _ _ _ _ := ⟨hX, topRead_of hT⟩
  obtain ⟨m, m1, W0⟩ := wd0 (x := Str.ofString "script") F0 rfl
  clear hX F0
  rename List Int => ns
  have hns : ns.length ≤ 63 := by omega
  refine wpAny_execs_cons (wpAny_Assign_Name (wpAny_BinOp (ldw W0 m1 ?_)))
  walk_at "go"
  refine neww W0 (by rw [PySem.sizeLine_eq]; exact Nat.le_of_ble_eq_true rfl) ?_
  intro D0 h₁ o0 b0 W₁
  refine numw W₁ (ms := [5, 9, 9, 2, 15, 16, 9, 10, 7, 60, 6, 12]) (stays_list W₁.keep hL) hI upd_self (by repeat (first | exact IntsAre.nil | refine IntsAre.cons _ _ ?_)) (by show ns.length + 12 ≤ 1000; omega) ?_
  intro AN h₂ ls₂ vals W₂ hAN hIn
  have hN1 : (ns ++ [5, 9, 9, 2, 15, 16, 9, 10, 7, 60, 6, 12]).length = ns.length + 12 := by rw [List.length_append]; rfl
  generalize ns ++ [5, 9, 9, 2, 15, 16, 9, 10, 7, 60, 6, 12] = nums at hIn hN1
  have hvl : vals.length = nums.length := hIn.length
  refine stw W₂ ?_
  intro h₃ tk₃ W₃
  clear W0 W₁ W₂ m1
  dsimp only
  refine wpAny_execs_cons (compSet rfl W₃ (by walk_at "lk") hAN (by omega) (fun D i ls' ys => (∀ a us, ls₂ a = some us → ls' a = some us) ∧ ∃ as : List Addr, ys = as.map Value.ref ∧ Ones ls₂ ls' D (fun z => z) (nums.take i) as) ?_ ?_ ?_ rfl (by decide) (by decide) rfl (by decide) rfl rfl rfl rfl rfl (by decide))
  · intro D oD
    exact ⟨fun a us q => up_keep oD q, [], rfl, Paired.nil, List.nodup_nil⟩
  · rintro D C₂ p i v m' h₄ tk₄ ls₄ ys oD hv hyl ⟨old, as, rfl, on⟩ e1 e2 W₄
    have hi : i < nums.length := by
      have := (List.getElem?_eq_some_iff.mp hv).1
      omega
    obtain ⟨t, ht⟩ := ints_get hIn hi
    have hv' := Option.some.inj (hv.symm.trans ht)
    subst hv'
    walk_at "go"
    refine neww W₄ (by rw [PySem.sizeLine_eq, List.length_singleton]; omega) ?_
    intro D' h₅ o' b' W₅
    exact ⟨_, _, _, _, rfl, W₅, up_keep o' e1, up_keep o' e2, fun a us q => (upd_ne (ne_fresh oD q)).trans (up_keep o' (old a us q)), as ++ [D'], by rw [List.map_append]; rfl, on.snoc (f := fun z => z) (by rw [List.getD_eq_getElem?_getD, List.getElem?_eq_getElem hi]; rfl) old e1 o'⟩
  rintro AL h₅ tk₅ ls₄ ys oL hyl ⟨oldL, asL, rfl, onL⟩ eL W₅
  rw [hvl, List.take_length] at onL
  clear W₃
  dsimp only
  have hAN₂ := oldL _ _ hAN
  refine wpAny_execs_cons (compSet rfl W₅ (by walk_at "lk") hAN₂ (by omega) (fun D i ls' ys => (∀ a us, ls₄ a = some us → ls' a = some us) ∧ ∃ as : List Addr, ys = as.map Value.ref ∧ Ones ls₄ ls' D (fun z => -z) (nums.take i) as) ?_ ?_ ?_ rfl (by decide) (by decide) rfl (by decide) rfl rfl rfl rfl rfl (by decide))
  · intro D oD
    exact ⟨fun a us q => up_keep oD q, [], rfl, Paired.nil, List.nodup_nil⟩
  · rintro D C₂ p i v m' h₄ tk₄ ls₄ ys oD hv hyl ⟨old, as, rfl, on⟩ e1 e2 W₄
    have hi : i < nums.length := by
      have := (List.getElem?_eq_some_iff.mp hv).1
      omega
    obtain ⟨t, ht⟩ := ints_get hIn hi
    have hv' := Option.some.inj (hv.symm.trans ht)
    subst hv'
    walk_at "go"
    refine neww W₄ (by rw [PySem.sizeLine_eq, List.length_singleton]; omega) ?_
    intro D' h₅ o' b' W₅
    exact ⟨_, _, _, _, rfl, W₅, up_keep o' e1, up_keep o' e2, fun a us q => (upd_ne (ne_fresh oD q)).trans (up_keep o' (old a us q)), as ++ [D'], by rw [List.map_append]; rfl, on.snoc (f := fun z => -z) (by rw [List.getD_eq_getElem?_getD, List.getElem?_eq_getElem hi]; rfl) old e1 o'⟩
  rintro AH h₇ tk₇ ls₆ ys oH hyl' ⟨oldH, asH, rfl, onH⟩ eH W₇
  rw [hvl, List.take_length] at onH
  clear W₅
  dsimp only
  walk_at "go"
  have hlL : asL.length = nums.length := (Paired.length onL.1).symm
  have hlH : asH.length = nums.length := (Paired.length onH.1).symm
  have eL' : ls₆ AL = some ((List.range nums.length).map (V fun i => asL.getD i 0)) := by rw [← hlL, ← ones_range]; exact oldH _ _ eL
  have eH' : ls₆ AH = some ((List.range nums.length).map (V fun i => asH.getD i 0)) := by rw [← hlH, ← ones_range]; exact eH
  have IL : It (fun i => asL.getD i 0) (fun i => nums.getD i 0) nums.length ls₆ := fun i hi => let ⟨t, e⟩ := onL.it i hi; ⟨t, oldH _ _ e⟩
  have sepL : ∀ a vs, ls₆ a = some vs → vs.length ≠ 1 → ∀ i, i < nums.length → a ≠ asL.getD i 0 := fun a vs q hne i hi z => by
    obtain ⟨t, e⟩ := IL i hi
    rw [z] at q
    have := Option.some.inj (q.symm.trans e)
    rw [this] at hne
    exact hne rfl
  have sepHL : ∀ j, j < nums.length → ∀ i, i < nums.length → asH.getD j 0 ≠ asL.getD i 0 := fun j hj i hi z => by
    obtain ⟨t, e⟩ := onL.it i hi
    have e' := (onH.at hj).2
    rw [z] at e'
    rw [e'] at e
    cases e
  have hA6 : ls₆ AN = some vals := oldH _ _ hAN₂
  refine run C (opsMin C (lt := fun i j => decide (nums.getD i 0 < nums.getD j 0)) (adr := fun i => asL.getD i 0) (key := fun i => nums.getD i 0) (N := nums.length) (fun i j => rfl)) W₇ hA6 hIn eL' IL rfl (by omega) (by omega) onL.inj
    (by show 1 + claimMargin + 1 + 3 < recursionLimit; decide) (by show 4 + 3 + 40 < cLine; decide) rfl rfl (Fit.cons (envs := []) (fs := []) trivial rfl rfl) ?_
  intro R h₈ tk₈ ls₈ W₈ res old₈
  clear W₇
  walk_at "go"
  have hA8 : ls₈ AN = some vals := old₈ _ _ hA6 (sepL _ _ hA6 (by omega))
  have eH8 := old₈ _ _ eH' (sepL _ _ eH' (by rw [List.length_map, List.length_range]; omega))
  have IH : It (fun i => asH.getD i 0) (fun i => -(nums.getD i 0)) nums.length ls₈ := fun j hj => let ⟨t, e⟩ := onH.it j hj; ⟨t, old₈ _ _ e (sepHL j hj)⟩
  refine run C (opsMax C (lt := fun i j => decide (nums.getD i 0 < nums.getD j 0)) (adr := fun i => asH.getD i 0) (key := fun i => -(nums.getD i 0)) (N := nums.length) (fun i j => decide_eq_decide.mpr ⟨fun q => by omega, fun q => by omega⟩)) (by assumption) hA8 hIn eH8 IH rfl (by omega) (by omega) onH.inj
    (by show 1 + claimMargin + 1 + 3 < recursionLimit; decide) (by show 4 + 3 + 40 < cLine; decide) rfl rfl (Fit.cons (envs := []) (fs := []) trivial rfl rfl) ?_
  intro R₂ h₉ tk₉ ls₉ W₉ res₂ old₉
  have res₁ : Res ls₉ R _ := res.keep fun a vs q hn => old₉ a vs q fun i hi z => by
    obtain ⟨t, e⟩ := onH.it i hi
    rw [z] at hn
    rw [e] at hn
    cases hn
  walk_at "go"
  refine eqw W₉ (by show 4 + 3 + 2 < cLine; decide) res₁ res₂.res ?_
  have F9 := W₉.fr0
  clear W₉ res₁ res₂ res old₉ old₈ IH IL eH8 hA8
  k_end; wrow_close)

end Mine

theorem PySem.Challenge.cw_dp0044_01_holds : PySem.Challenge.rw_dp0044_01.Holds :=
  Mine.law_holds
#print axioms PySem.Challenge.cw_dp0044_01_holds
