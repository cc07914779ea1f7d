import PyProof.Rows.All
import Wide.All
import OpenK.AllK
import Wide.FinOn
import Lean
import PySem.Challenge.RW_we0009_01
set_option Elab.async false
set_option linter.all false
/-! text Hd -/
section
open PySem PySem.W PyProof.Rows
set_option maxRecDepth 100000
set_option maxHeartbeats 8000000
namespace Mine
open_top hd for PySem.Challenge.rw_we0009_01
end Mine
end
/-! text M1 -/
section
open PySem PySem.W PySem.Calls PyProof.Rows
set_option maxRecDepth 100000
namespace Mine

/-! ## The ground: what stays, what may change -/
def Sub (h h' : Heap) : Prop := ∀ b o, h.get? b = some o → h'.get? b = some o
theorem Sub.refl (h : Heap) : Sub h h := fun _ _ e => e
theorem Sub.trans {a b c : Heap} (x : Sub a b) (y : Sub b c) : Sub a c := fun q o e => y q o (x q o e)
theorem Sub.push (h : Heap) (o : Obj) : Sub h (h.push o) := fun _ _ e => Heap.get?_push_of_some o e

abbrev Ent := Addr × (Obj → Prop)
def HasAt (h : Heap) (a : Addr) (P : Obj → Prop) : Prop := ∃ o, h.get? a = some o ∧ P o
theorem HasAt.sub {h h' : Heap} {a : Addr} {P : Obj → Prop} (x : HasAt h a P) (s : Sub h h') : HasAt h' a P := let ⟨o, e, p⟩ := x; ⟨o, s _ _ e, p⟩
theorem HasAt.lt {h : Heap} {a : Addr} {P : Obj → Prop} (x : HasAt h a P) : a < h.objs.size := let ⟨_, e, _⟩ := x; Heap.lt_size e

def oList (vs : List Value) : Obj → Prop := fun o => ∃ n, o = { cls := .type "list", data := .seq vs.toArray n }
def oTup (vs : List Value) : Obj → Prop := fun o => o.cls = .type "tuple" ∧ ∃ n, o.data = .seq vs.toArray n
def oCell (v : Option Value) : Obj → Prop := fun o => o.data = .cell v
def oNs (m : Str → Option Value) : Obj → Prop := fun o => ∃ es ep, o.data = .dict es ep ∧ StrKeys es ∧ ∀ name, nsFind es name = m name
def oLit (l : Addr) (i : Nat) : Obj → Prop := fun o => o.cls = .type "list_iterator" ∧ o.data = .fields #[.ref l, .int i 0]
def oIs (o' : Obj) : Obj → Prop := fun o => o = o'

theorem HasAt.plist {h : Heap} {a : Addr} {vs : List Value} (x : HasAt h a (oList vs)) : h.PlainList a vs.toArray := let ⟨o, e, n, d⟩ := x; ⟨n, by rw [e, d]⟩
theorem HasAt.list {h : Heap} {a : Addr} {vs : List Value} (x : HasAt h a (oList vs)) : h.IsList a vs.toArray := x.plist.isList
theorem HasAt.tup {h : Heap} {a : Addr} {vs : List Value} (x : HasAt h a (oTup vs)) : IsTup h a vs.toArray := let ⟨o, e, c, n, d⟩ := x; ⟨o, e, c, n, d⟩
theorem HasAt.cell {h : Heap} {a : Addr} {v : Option Value} (x : HasAt h a (oCell v)) : h.IsCell a v := let ⟨o, e, d⟩ := x; ⟨o, e, d⟩
theorem HasAt.ns {h : Heap} {a : Addr} {m : Str → Option Value} (x : HasAt h a (oNs m)) : h.Ns a m := let ⟨o, e, es, ep, r⟩ := x; ⟨o, es, ep, e, r⟩
theorem HasAt.lit {h : Heap} {a l : Addr} {i : Nat} (x : HasAt h a (oLit l i)) : h.IsListIter a l i := let ⟨o, e, c, d⟩ := x; ⟨o, e, c, d⟩
theorem HasAt.ofList {h : Heap} {a : Addr} {vs : List Value} (x : h.PlainList a vs.toArray) : HasAt h a (oList vs) := let ⟨n, e⟩ := x; ⟨_, e, n, rfl⟩
theorem HasAt.ofTup {h : Heap} {a : Addr} {vs : List Value} (x : IsTup h a vs.toArray) : HasAt h a (oTup vs) := let ⟨o, e, c, n, d⟩ := x; ⟨o, e, c, n, d⟩
theorem HasAt.ofCell {h : Heap} {a : Addr} {v : Option Value} (x : h.IsCell a v) : HasAt h a (oCell v) := let ⟨o, e, d⟩ := x; ⟨o, e, d⟩
theorem HasAt.ofNs {h : Heap} {a : Addr} {m : Str → Option Value} (x : h.Ns a m) : HasAt h a (oNs m) := let ⟨o, es, ep, e, r⟩ := x; ⟨o, e, es, ep, r⟩
theorem HasAt.ofLit {h : Heap} {a l : Addr} {i : Nat} (x : h.IsListIter a l i) : HasAt h a (oLit l i) := let ⟨o, e, c, d⟩ := x; ⟨o, e, c, d⟩

structure Ok (g : Heap) (ms : List Ent) (s₀ s : Shared) : Prop where
  keep : Sub g s.heap
  at_ : ∀ p ∈ ms, HasAt s.heap p.1 p.2
  nd : (ms.map (·.1)).Nodup
  new : ∀ p ∈ ms, g.get? p.1 = none
  gens : s.gens = s₀.gens
  os : s.os = s₀.os
  tm : s₀.toks ≤ s.toks

section
variable {g : Heap} {ms : List Ent} {s₀ s s' : Shared}
theorem Ok.ext (H : Ok g ms s₀ s) (hx : Sub s.heap s'.heap) (hg : s'.gens = s.gens) (ho : s'.os = s.os) (ht : s.toks ≤ s'.toks := by first | exact Nat.le_refl _ | exact Nat.le_succ _ | exact Nat.le_add_right _ 2 | exact Nat.le_add_right _ _ | (simp; done) | omega) : Ok g ms s₀ s' :=
  ⟨H.keep.trans hx, fun p hp => (H.at_ p hp).sub hx, H.nd, H.new, hg.trans H.gens, ho.trans H.os, Nat.le_trans H.tm ht⟩
theorem Ok.ext' (H : Ok g ms s₀ s) {h' : Heap} {t : Nat} (hx : Sub s.heap h') (ht : s.toks ≤ t := by first | exact Nat.le_refl _ | exact Nat.le_succ _ | exact Nat.le_add_right _ 2 | exact Nat.le_add_right _ _ | omega) : Ok g ms s₀ { s with heap := h', toks := t } := H.ext hx rfl rfl ht
theorem Ok.tk (H : Ok g ms s₀ s) {t : Nat} (ht : s.toks ≤ t := by first | exact Nat.le_refl _ | exact Nat.le_succ _ | exact Nat.le_add_right _ 2 | exact Nat.le_add_right _ _ | omega) : Ok g ms s₀ { s with toks := t } := H.ext (Sub.refl _) rfl rfl ht
theorem Ok.push (H : Ok g ms s₀ s) {o : Obj} {P : Obj → Prop} {t : Nat} (hP : P o) (hf : o.isFreed = false) (ht : s.toks ≤ t := by first | exact Nat.le_refl _ | exact Nat.le_succ _ | exact Nat.le_add_right _ 2 | exact Nat.le_add_right _ _ | omega) : Ok g ((s.heap.objs.size, P) :: ms) s₀ { s with heap := s.heap.push o, toks := t } := by
  refine ⟨H.keep.trans (Sub.push _ _), fun p hp => ?_, ?_, fun p hp => ?_, H.gens, H.os, Nat.le_trans H.tm ht⟩
  · rcases List.mem_cons.mp hp with rfl | hp
    · exact ⟨o, Heap.get?_push_size _ hf, hP⟩
    · exact (H.at_ p hp).sub (Sub.push _ _)
  · rw [List.map_cons]
    refine List.nodup_cons.mpr ⟨fun hm => ?_, H.nd⟩
    obtain ⟨p, hp, e⟩ := List.mem_map.mp hm
    have := (H.at_ p hp).lt
    rw [e] at this
    exact Nat.lt_irrefl _ this
  · rcases List.mem_cons.mp hp with rfl | hp
    · show g.get? s.heap.objs.size = none
      cases q : g.get? s.heap.objs.size with
      | none => rfl
      | some o' => exact absurd (Heap.lt_size (H.keep _ _ q)) (Nat.lt_irrefl _)
    · exact H.new p hp
theorem Ok.lt (H : Ok g ms s₀ s) {p : Ent} (hp : p ∈ ms) : p.1 < s.heap.objs.size := (H.at_ p hp).lt
theorem nodup_ne {l : List Ent} (h : (l.map (·.1)).Nodup) {i j : Nat} {a b : Ent} (hi : l[i]? = some a) (hj : l[j]? = some b) (ij : i ≠ j) : a.1 ≠ b.1 := by
  intro e
  obtain ⟨li, ei⟩ := List.getElem?_eq_some_iff.mp hi
  obtain ⟨lj, ej⟩ := List.getElem?_eq_some_iff.mp hj
  have := (List.nodup_iff_pairwise_ne.mp h)
  have key := List.pairwise_iff_getElem.mp this
  rcases Nat.lt_or_gt_of_ne ij with q | q
  · exact key i j (by simpa using li) (by simpa using lj) q (by simpa [ei, ej] using e)
  · exact key j i (by simpa using lj) (by simpa using li) q (by simpa [ei, ej] using e.symm)
theorem Ok.updX (H : Ok g ms s₀ s) {a : Addr} {P P' : Obj → Prop} {h' : Heap} {t : Nat} (i : Nat) (hi : ms[i]? = some (a, P)) (hx : Heap.ExtBut a s.heap h') (hP : HasAt h' a P') (ht : s.toks ≤ t := by first | exact Nat.le_refl _ | exact Nat.le_succ _ | exact Nat.le_add_right _ 2 | exact Nat.le_add_right _ _ | omega) :
    Ok g (ms.set i (a, P')) s₀ { s with heap := h', toks := t } := by
  have em : (ms.set i (a, P')).map (·.1) = ms.map (·.1) := by
    rw [List.map_set]
    apply List.ext_getElem?
    intro n
    rw [List.getElem?_set]
    by_cases q : i = n
    · subst q
      obtain ⟨li, ei⟩ := List.getElem?_eq_some_iff.mp hi
      simp [li, ei]
    · simp [q]
  have ga : g.get? a = none := H.new (a, P) (List.mem_of_getElem? hi)
  refine ⟨fun b o e => hx b o (fun q => by subst q; rw [ga] at e; cases e) (H.keep b o e), fun p hp => ?_, by rw [em]; exact H.nd, fun p hp => ?_, H.gens, H.os, Nat.le_trans H.tm ht⟩
  · obtain ⟨j, hj⟩ := List.mem_iff_getElem?.mp hp
    rw [List.getElem?_set] at hj
    by_cases q : i = j
    · subst q
      obtain ⟨li, ei⟩ := List.getElem?_eq_some_iff.mp hi
      simp [li] at hj
      subst hj; exact hP
    · simp only [q, if_false] at hj
      have ne := nodup_ne H.nd hi hj q
      obtain ⟨o, e, pr⟩ := H.at_ p (List.mem_of_getElem? hj)
      exact ⟨o, hx _ _ (Ne.symm ne) e, pr⟩
  · have : p.1 ∈ (ms.set i (a, P')).map (·.1) := List.mem_map_of_mem hp
    rw [em] at this
    obtain ⟨q, hq, e⟩ := List.mem_map.mp this
    rw [← e]; exact H.new q hq
theorem Ok.upd (H : Ok g ms s₀ s) {a : Addr} {P P' : Obj → Prop} {h' : Heap} {t : Nat} (i : Nat) (hi : ms[i]? = some (a, P)) (hs : Heap.SameBut a s.heap h') (hP : HasAt h' a P') (ht : s.toks ≤ t := by first | exact Nat.le_refl _ | exact Nat.le_succ _ | exact Nat.le_add_right _ 2 | exact Nat.le_add_right _ _ | omega) :
    Ok g (ms.set i (a, P')) s₀ { s with heap := h', toks := t } := H.updX i hi hs.extBut hP ht
theorem Ok.sub {ms' : List Ent} (H : Ok g ms s₀ s) (h : ms'.Sublist ms) : Ok g ms' s₀ s :=
  ⟨H.keep, fun p hp => H.at_ p (h.subset hp), (h.map _).nodup H.nd, fun p hp => H.new p (h.subset hp), H.gens, H.os, H.tm⟩
theorem Ok.drop1 {p : Ent} (H : Ok g (p :: ms) s₀ s) : Ok g ms s₀ s := H.sub (List.sublist_cons_self _ _)
/-- freeze: all that does not stand in ms is ground from now on -/
def gnd (s : Shared) (ms : List Ent) : Heap := hideAll s.heap (ms.map (·.1))
theorem Ok.freeze (H : Ok g ms s₀ s) : Ok (gnd s ms) ms s₀ s :=
  ⟨fun _ _ e => of_hideAll _ e, H.at_, H.nd, fun _ hp => hideAll_none _ (List.mem_map_of_mem hp), H.gens, H.os, H.tm⟩
theorem Ok.gsub (H : Ok g ms s₀ s) : Sub g (gnd s ms) := fun b o e => hideAll_get _ (H.keep b o e) fun hm => by
  obtain ⟨p, hp, rfl⟩ := List.mem_map.mp hm
  have := H.new p hp
  rw [e] at this; cases this
theorem gnd_has {a : Addr} {P : Obj → Prop} (x : HasAt s.heap a P) (h : a ∉ ms.map (·.1)) : HasAt (gnd s ms) a P := let ⟨o, e, p⟩ := x; ⟨o, hideAll_get _ e h, p⟩
theorem Ok.start (s : Shared) : Ok s.heap [] s s := ⟨Sub.refl _, fun _ h => (nomatch h), List.nodup_nil, fun _ h => (nomatch h), rfl, rfl, Nat.le_refl _⟩

/-- what may be read: an entry, or a thing of the ground -/
def Rd (g : Heap) (ms : List Ent) (a : Addr) (P : Obj → Prop) : Prop := (a, P) ∈ ms ∨ HasAt g a P
theorem Ok.rd {a : Addr} {P : Obj → Prop} (H : Ok g ms s₀ s) (r : Rd g ms a P) : HasAt s.heap a P := by
  rcases r with h | h
  · exact H.at_ _ h
  · exact h.sub H.keep
end

def upd (m : Str → Option Value) (x : Str) (v : Value) : Str → Option Value := fun y => if y = x then some v else m y
theorem upd_eq {m : Str → Option Value} {x : Str} {v : Value} : upd m x v x = some v := if_pos rfl
theorem upd_ne {m : Str → Option Value} {x y : Str} {v : Value} (h : y ≠ x) : upd m x v y = m y := if_neg h

end Mine
end
/-! text M2 -/
section
open PySem PySem.W PySem.Calls PyProof.Rows
set_option maxRecDepth 100000
namespace Mine

structure Gd (w : World) (g : Heap) : Prop where
  X : (hd.heap_39 w.params).In g
  T : ∃ mg mb, g.Ns mainGlobals mg ∧ g.Ns builtinsNs mb ∧ g.NoLimit ∧ ∀ x : Str, x ≠ "__name__" → mb x = bootBuiltins x
theorem Gd.sub {w : World} {g g' : Heap} (G : Gd w g) (h : Sub g g') : Gd w g' :=
  ⟨fun a o e => h _ _ (G.X a o e), let ⟨mg, mb, a, b, c, d⟩ := G.T; ⟨mg, mb, a.keeps h, b.keeps h, c.keeps h, d⟩⟩

abbrev PW := PySem.Challenge.pw_we0009_01

section
variable {w : World} {A : Around} {E : Value → Shared → Prop} {g : Heap} {ms : List Ent} {s₀ s : Shared} {env : Env} {x : Str} {pos : Pos} {v : Value} {L : Addr} {m : Str → Option Value}

/-! ## names -/
theorem n_loc {Q : Value → Shared → Prop} (H : Ok g ((L, oNs m) :: ms) s₀ s) (hk : env.scope.kind = .function) (hx : env.kindOf x = some .local) (hL : env.locals = L) (hv : m x = some v) (h : Q v s) :
    wpAny (model PW w) A (loadName env x) Q E s := wpAny_loadName_local hk hx (by rw [hL]; exact (H.at_ _ (.head _)).ns) hv h
theorem e_loc {Q : Value → Shared → Prop} (H : Ok g ((L, oNs m) :: ms) s₀ s) (hk : env.scope.kind = .function) (hx : env.kindOf x = some .local) (hL : env.locals = L) (hdb : (x == ("__debug__" : Str)) = false) (hv : m x = some v) (h : Q v s) :
    wpAny (model PW w) A (eval (.Name x pos) env) Q E s := wpAny_Name (n_loc H hk hx hL hv h) hdb
theorem e_glob {Q : Value → Shared → Prop} (G : Gd w g) (H : Ok g ms s₀ s) (hk : env.scope.kind = .function) (hx : env.kindOf x = some .globalImplicit) (hg : env.globals = mainGlobals) (hdb : (x == ("__debug__" : Str)) = false)
    (e : nsIn (hd.heap_39 w.params) mainGlobals x = some (some v)) (h : Q v s) : wpAny (model PW w) A (eval (.Name x pos) env) Q E s := by
  obtain ⟨mg, mb, a, b, c, d⟩ := G.T
  exact Name_function_global hk hx (loadGlobal_global (env := env) (by rw [hg]; exact a.keeps H.keep) (mg_of G.X a e) h) hdb
theorem e_bui {Q : Value → Shared → Prop} (G : Gd w g) (H : Ok g ms s₀ s) (hk : env.scope.kind = .function) (hx : env.kindOf x = some .globalImplicit) (hg : env.globals = mainGlobals) (hb : env.builtins = builtinsNs) (hdb : (x == ("__debug__" : Str)) = false)
    (e : nsIn (hd.heap_39 w.params) mainGlobals x = some none) (hv : bootBuiltins x = some v) (hn : x ≠ "__name__") (h : Q v s) : wpAny (model PW w) A (eval (.Name x pos) env) Q E s := by
  obtain ⟨mg, mb, a, b, c, d⟩ := G.T
  exact Name_function_global hk hx (loadGlobal_builtin (env := env) (by rw [hg]; exact a.keeps H.keep) (mg_none_of G.X a e) (by rw [hb]; exact b.keeps H.keep) ((d x hn).trans hv) h) hdb
theorem e_cell {c : Addr} {Q : Value → Shared → Prop} (H : Ok g ms s₀ s) (hk : env.scope.kind = .function) (hx : env.kindOf x = some .cell) (hdb : (x == ("__debug__" : Str)) = false) (hc : env.cells.lookup x = some c) (hm : (c, oCell (some v)) ∈ ms) (h : Q v s) :
    wpAny (model PW w) A (eval (.Name x pos) env) Q E s := wpAny_Name (wpAny_loadName_cell hk hx hc (H.at_ _ hm).cell h) hdb
theorem n_cell {c : Addr} {Q : Value → Shared → Prop} (H : Ok g ms s₀ s) (hk : env.scope.kind = .function) (hx : env.kindOf x = some .cell) (hc : env.cells.lookup x = some c) (hm : (c, oCell (some v)) ∈ ms) (h : Q v s) :
    wpAny (model PW w) A (loadName env x) Q E s := wpAny_loadName_cell hk hx hc (H.at_ _ hm).cell h
theorem e_free {c : Addr} {Q : Value → Shared → Prop} (H : Ok g ms s₀ s) (hk : env.scope.kind = .function) (hx : env.kindOf x = some .free) (hdb : (x == ("__debug__" : Str)) = false) (hn : (x == ("__classdict__" : Str)) = false) (hc : env.cells.lookup x = some c) (hm : (c, oCell (some v)) ∈ ms) (h : Q v s) :
    wpAny (model PW w) A (eval (.Name x pos) env) Q E s := wpAny_Name (wpAny_loadName_free hk hx hc (H.at_ _ hm).cell h hn) hdb
theorem s_loc {Q : Unit → Shared → Prop} (H : Ok g ((L, oNs m) :: ms) s₀ s) (hk : env.scope.kind = .function) (hx : env.kindOf x = some .local) (hL : env.locals = L) (k : ∀ s', Ok g ((L, oNs (upd m x v)) :: ms) s₀ s' → Q () s') :
    wpAny (model PW w) A (storeName env x v) Q E s := by
  subst hL
  exact wpAny_storeName_local hx (H.at_ _ (.head _)).ns (fun h' hn hs => k _ (H.upd 0 rfl hs (HasAt.ofNs hn)))
    (by show (env.scope.kind == .class || (env.scope.kind == .module && env.locals != env.globals)) = false; rw [hk]; rfl)
theorem s_cell {c : Addr} {v₀ : Option Value} {Q : Unit → Shared → Prop} (i : Nat) (H : Ok g ms s₀ s) (hk : env.scope.kind = .function) (hx : env.kindOf x = some .cell) (hc : env.cells.lookup x = some c) (hm : ms[i]? = some (c, oCell v₀))
    (k : ∀ s', Ok g (ms.set i (c, oCell (some v))) s₀ s' → Q () s') : wpAny (model PW w) A (storeName env x v) Q E s :=
  wpAny_storeName_cell hk hx hc (H.at_ _ (List.mem_of_getElem? hm)).cell fun _ hv hs => k _ (H.upd i hm hs (HasAt.ofCell hv))

/-! ## constants, operations -/
theorem e_int {i : Int} {kd : Nat} {Q : Value → Shared → Prop} (H : Ok g ms s₀ s) (k : ∀ t s', Ok g ms s₀ s' → Q (.int i t) s') : wpAny (model PW w) A (eval (.Constant (.int i) kd pos) env) Q E s := wpAny_Constant_int (k _ _ H.tk)
theorem e_str {y : Str} {kd : Nat} {Q : Value → Shared → Prop} (H : Ok g ms s₀ s) (k : ∀ t s', Ok g ms s₀ s' → Q (.str y t) s') : wpAny (model PW w) A (eval (.Constant (.str y) kd pos) env) Q E s := wpAny_Constant_str (k _ _ H.tk)
theorem e_bool {b : Bool} {kd : Nat} {Q : Value → Shared → Prop} (h : Q (.bool b) s) : wpAny (model PW w) A (eval (.Constant (.bool b) kd pos) env) Q E s := wpAny_Constant_bool h
section
variable {a b : Int} {t u : Tok} {Q : Value → Shared → Prop}
theorem i_add (H : Ok g ms s₀ s) (k : ∀ t' s', Ok g ms s₀ s' → Q (.int (a + b) t') s') : wpAny (model PW w) A (binaryOp .Add (.int a t) (.int b u)) Q E s := PyProof.Rows.add_int (k _ _ H.tk)
theorem i_sub (H : Ok g ms s₀ s) (k : ∀ t' s', Ok g ms s₀ s' → Q (.int (a - b) t') s') : wpAny (model PW w) A (binaryOp .Sub (.int a t) (.int b u)) Q E s := PyProof.Rows.sub_int (k _ _ H.tk)
theorem i_mul (H : Ok g ms s₀ s) (hm : IntMulOk a b) (k : ∀ t' s', Ok g ms s₀ s' → Q (.int (a * b) t') s') : wpAny (model PW w) A (binaryOp .Mult (.int a t) (.int b u)) Q E s := PyProof.Rows.mul_int (k _ _ H.tk) hm
theorem i_div (H : Ok g ms s₀ s) (h0 : 0 < b) (hp : Builtin.divisionGoesByPylong a b = false) (k : ∀ t' s', Ok g ms s₀ s' → Q (.int (a / b) t') s') : wpAny (model PW w) A (binaryOp .FloorDiv (.int a t) (.int b u)) Q E s :=
  PyProof.Rows.floordiv_int (by omega) (by rw [Int.fdiv_eq_ediv_of_nonneg _ (Int.le_of_lt h0)]; exact k _ _ H.tk) (Or.inl hp)
theorem i_mod (H : Ok g ms s₀ s) (h0 : 0 < b) (k : ∀ t' s', Ok g ms s₀ s' → Q (.int (a % b) t') s') : wpAny (model PW w) A (binaryOp .Mod (.int a t) (.int b u)) Q E s :=
  PyProof.Rows.mod_int' (by omega) (by rw [Int.fmod_eq_emod_of_nonneg _ (Int.le_of_lt h0)]; exact k _ _ H.tk)
theorem i_iadd (H : Ok g ms s₀ s) (k : ∀ t' s', Ok g ms s₀ s' → Q (.int (a + b) t') s') : wpAny (model PW w) A (inplaceOp .Add (.int a t) (.int b u)) Q E s := PyProof.Rows.iadd_int (k _ _ H.tk)
theorem i_isub (H : Ok g ms s₀ s) (k : ∀ t' s', Ok g ms s₀ s' → Q (.int (a - b) t') s') : wpAny (model PW w) A (inplaceOp .Sub (.int a t) (.int b u)) Q E s := PySem.P.isub_int (k _ _ H.tk)
theorem i_eq (h : Q (.bool (decide (a = b))) s) : wpAny (model PW w) A (compareOp .Eq (.int a t) (.int b u)) Q E s := PyProof.Rows.eq_int (by rw [show (a == b) = decide (a = b) from rfl]; exact h)
theorem i_ne (h : Q (.bool (decide (a ≠ b))) s) : wpAny (model PW w) A (compareOp .NotEq (.int a t) (.int b u)) Q E s := PyProof.Rows.ne_int (by rw [show (a != b) = decide (a ≠ b) from by by_cases q : a = b <;> simp [q]]; exact h)
theorem i_lt (h : Q (.bool (decide (a < b))) s) : wpAny (model PW w) A (compareOp .Lt (.int a t) (.int b u)) Q E s := PyProof.Rows.lt_int h
theorem i_gt (h : Q (.bool (decide (b < a))) s) : wpAny (model PW w) A (compareOp .Gt (.int a t) (.int b u)) Q E s := PyProof.Rows.gt_int h
theorem i_le (h : Q (.bool (decide (a ≤ b))) s) : wpAny (model PW w) A (compareOp .LtE (.int a t) (.int b u)) Q E s := PyProof.Rows.le_int h
theorem i_ge (h : Q (.bool (decide (b ≤ a))) s) : wpAny (model PW w) A (compareOp .GtE (.int a t) (.int b u)) Q E s := PySem.P.ge_int h
theorem x_gt {y z : Str} (h : Q (.bool (decide (z.cps.toList < y.cps.toList))) s) : wpAny (model PW w) A (compareOp .Gt (.str y t) (.str z u)) Q E s := PySem.P.gt_str h
theorem x_ne {y z : Str} (h : Q (.bool (decide (y ≠ z))) s) : wpAny (model PW w) A (compareOp .NotEq (.str y t) (.str z u)) Q E s := PyProof.Rows.ne_str (by rw [show (y != z) = decide (y ≠ z) from by by_cases q : y = z <;> simp [q]]; exact h)
end

/-! ## the shapes -/
theorem e_bin {l r : Expr} {op : Operator} {Q : Value → Shared → Prop} (h : wpAny (model PW w) A (eval l env) (fun a s₁ => wpAny (model PW w) A (eval r env) (fun b s₂ => wpAny (model PW w) A (binaryOp op a b) Q E s₂) E s₁) E s) :
    wpAny (model PW w) A (eval (.BinOp l op r pos) env) Q E s := wpAny_BinOp h
theorem e_cmp {l r : Expr} {op : CmpOp} {Q : Value → Shared → Prop} (hm : behindInMarks op r = false) (h : wpAny (model PW w) A (eval l env) (fun a s₁ => wpAny (model PW w) A (eval r env) (fun b s₂ => wpAny (model PW w) A (compareOp op a b) Q E s₂) E s₁) E s) :
    wpAny (model PW w) A (eval (.Compare l [op] [r] pos) env) Q E s := wpAny_Compare1 h hm
theorem t_cmp {l r : Expr} {op : CmpOp} {whole : Sem Value} {Q : Bool → Shared → Prop} (hm : behindInMarks op r = false) (h : wpAny (model PW w) A (eval l env) (fun a s₁ => wpAny (model PW w) A (eval r env) (fun b s₂ => wpAny (model PW w) A (compareOp op a b) (fun c s₃ => wpAny (model PW w) A (truthy c) Q E s₃) E s₂) E s₁) E s) :
    wpAny (model PW w) A (isTrue (.Compare l [op] [r] pos) env whole) Q E s := wpAny_isTrue_Compare1 h hm
theorem t_bool {b : Bool} {Q : Bool → Shared → Prop} (h : Q b s) : wpAny (model PW w) A (truthy (.bool b)) Q E s := wpAny_truthy_bool h
theorem t_and {x : Expr} {rest : List Expr} {whole : Sem Value} {Q : Bool → Shared → Prop} (h : wpAny (model PW w) A (isTrue x env (eval x env)) (fun c s' => if c = true then wpAny (model PW w) A (isTrue (.BoolOp .And rest pos) env whole) Q E s' else Q false s') E s) :
    wpAny (model PW w) A (isTrue (.BoolOp .And (x :: rest) pos) env whole) Q E s := isTrue_and h
theorem t_and0 {whole : Sem Value} {Q : Bool → Shared → Prop} (h : Q true s) : wpAny (model PW w) A (isTrue (.BoolOp .And [] pos) env whole) Q E s := isTrue_and_nil h
theorem t_or {x : Expr} {rest : List Expr} {whole : Sem Value} {Q : Bool → Shared → Prop} (h : wpAny (model PW w) A (isTrue x env (eval x env)) (fun c s' => if c = true then Q true s' else wpAny (model PW w) A (isTrue (.BoolOp .Or rest pos) env whole) Q E s') E s) :
    wpAny (model PW w) A (isTrue (.BoolOp .Or (x :: rest) pos) env whole) Q E s := isTrue_or h
theorem t_or0 {whole : Sem Value} {Q : Bool → Shared → Prop} (h : Q false s) : wpAny (model PW w) A (isTrue (.BoolOp .Or [] pos) env whole) Q E s := isTrue_or_nil h
theorem t_not {x : Expr} {whole : Sem Value} {Q : Bool → Shared → Prop} (h : wpAny (model PW w) A (isTrue x env (eval x env)) (fun c s' => Q (!c) s') E s) : wpAny (model PW w) A (isTrue (.UnaryOp .Not x pos) env whole) Q E s := isTrue_not h
theorem e_sub {value slice : Expr} {Q : Value → Shared → Prop} (h : wpAny (model PW w) A (eval value env) (fun o s₁ => wpAny (model PW w) A (eval slice env) (fun i s₂ => wpAny (model PW w) A (subscriptTail value slice o i) Q E s₂) E s₁) E s) :
    wpAny (model PW w) A (eval (.Subscript value slice pos) env) Q E s := Subscript_ h
theorem e_if {test body orelse : Expr} {Q : Value → Shared → Prop} (h : wpAny (model PW w) A (isTrue test env (eval test env)) (fun c s₂ => if c = true then wpAny (model PW w) A (eval body env) Q E s₂ else wpAny (model PW w) A (eval orelse env) Q E s₂) E s) :
    wpAny (model PW w) A (eval (.IfExp test body orelse pos) env) Q E s := IfExp_ h
theorem ite_t {P R : Prop} (h : P) : if true = true then P else R := h
theorem ite_f {P R : Prop} (h : R) : if false = true then P else R := h
theorem ite_nf {P R : Prop} (h : P) : if (!false) = true then P else R := h
theorem ite_nt {P R : Prop} (h : R) : if (!true) = true then P else R := h

/-! ## statements -/
def Nx (P : Shared → Prop) (Q : Flow → Shared → Prop) (f : Flow) (s : Shared) : Prop := match f with
  | .next => P s
  | f => Q f s
theorem nx_next {P : Shared → Prop} {Q : Flow → Shared → Prop} (h : P s) : Nx P Q .next s := h
theorem nx_ret {P : Shared → Prop} {Q : Flow → Shared → Prop} (h : Q (.ret v) s) : Nx P Q (.ret v) s := h
theorem x_nil {Q : Flow → Shared → Prop} (h : Q .next s) : wpAny (model PW w) A (execs [] env) Q E s := wpAny_execs_nil h
theorem x_cons {st : Stmt} {rest : List Stmt} {Q : Flow → Shared → Prop} (h : wpAny (model PW w) A (exec st env) (Nx (fun s' => wpAny (model PW w) A (execs rest env) Q E s') Q) E s) :
    wpAny (model PW w) A (execs (st :: rest) env) Q E s := wpAny_execs_cons (wpAny_mono h (fun f s' q => by cases f <;> exact q) fun _ _ e => e)
theorem x_assign {pos' : Pos} {value : Expr} {Q : Flow → Shared → Prop} (hs : swapsWith value (some (.Name x pos')) pos.line env = pure false) (h : wpAny (model PW w) A (eval value env) (fun v s₁ => wpAny (model PW w) A (storeName env x v) (fun _ => Q .next) E s₁) E s) :
    wpAny (model PW w) A (exec (.Assign [.Name x pos'] value pos) env) Q E s := wpAny_Assign_Name h hs
theorem x_aug {pos' : Pos} {op : Operator} {value : Expr} {Q : Flow → Shared → Prop}
    (h : wpAny (model PW w) A (loadName env x) (fun old s₁ => wpAny (model PW w) A (eval value env) (fun v s₂ => wpAny (model PW w) A (inplaceOp op old v) (fun r s₃ => wpAny (model PW w) A (storeName env x r) (fun _ => Q .next) E s₃) E s₂) E s₁) E s) :
    wpAny (model PW w) A (exec (.AugAssign (.Name x pos') op value pos) env) Q E s := wpAny_AugAssign_Name h
theorem x_if {test : Expr} {body orelse : List Stmt} {Q : Flow → Shared → Prop} (h : wpAny (model PW w) A (isTrue test env (eval test env)) (fun b s₂ => if b = true then wpAny (model PW w) A (execs body env) Q E s₂ else wpAny (model PW w) A (execs orelse env) Q E s₂) E s) :
    wpAny (model PW w) A (exec (.If test body orelse pos) env) Q E s := wpAny_If h
theorem x_ret {e : Expr} {Q : Flow → Shared → Prop} (h : wpAny (model PW w) A (eval e env) (fun v => Q (.ret v)) E s) : wpAny (model PW w) A (exec (.Return (some e) pos) env) Q E s := wpAny_Return_some h
theorem x_while {test : Expr} {body : List Stmt} {Q : Flow → Shared → Prop} (I : Nat → Shared → Prop)
    (turn : ∀ n s, I n s → wpAny (model PW w) A (isTrue test env (eval test env)) (fun b s₂ => if b = true then wpAny (model PW w) A (execs body env) (fun f s₃ => f = .next ∧ ∃ m, m < n ∧ I m s₃) (fun _ _ => False) s₂ else Q .next s₂) (fun _ _ => False) s)
    (n : Nat) (h : I n s) : wpAny (model PW w) A (exec (.While test body [] pos) env) Q E s := by
  refine wpAny_While (codeAny_whileLoop I (fun n s hI => ?_) n h)
  refine wpAny_mono (turn n s hI) (fun b s₂ q => ?_) fun _ _ e => e.elim
  cases b with
  | true =>
    rw [if_pos rfl] at q ⊢
    refine wpAny_mono q (fun f s₃ r => ?_) fun _ _ e => e.elim
    obtain ⟨rfl, r⟩ := r
    exact r
  | false =>
    rw [if_neg Bool.false_ne_true] at q ⊢
    exact wpAny_execs_nil q
theorem x_expr {e : Expr} {Q : Flow → Shared → Prop} (hi : interactive env = false) (hs : swapsWith e none pos.line env = pure false) (h : wpAny (model PW w) A (eval e env) (fun v s' => v = .none ∧ Q .next s') E s) :
    wpAny (model PW w) A (exec (.Expr e pos) env) Q E s := wpAny_Expr (wpAny_mono h (fun v s' q => by obtain ⟨rfl, q⟩ := q; exact q) fun _ _ e => e) hi hs

/-! ## calls -/
theorem e_call {f : Str} {fp : Pos} {args : List Expr} {Q : Value → Shared → Prop} (h : wpAny (model PW w) A (eval (.Name f fp) env) (fun fv s₁ => wpAny (model PW w) A (callWith pos fv [] (backTo pos (starEach args env)) []) Q E s₁) E s) :
    wpAny (model PW w) A (eval (.Call (.Name f fp) args [] pos) env) Q E s := Call_ h
theorem a_nil {Q : List Value → Shared → Prop} (h : Q [] s) : wpAny (model PW w) A (spliced (backTo pos (starEach [] env))) Q E s := args_nil h
theorem a_cons {e : Expr} {rest : List Expr} {Q : List Value → Shared → Prop} (he : starEach (e :: rest) env = (false, eval e env) :: starEach rest env)
    (h : wpAny (model PW w) A (eval e env) (fun v s₁ => wpAny (model PW w) A (spliced (backTo pos (starEach rest env))) (fun vs s₂ => Q (v :: vs) s₂) E s₁) E s) :
    wpAny (model PW w) A (spliced (backTo pos (starEach (e :: rest) env))) Q E s := spliced_more h he
theorem c_bui {id : String} {e : Expr} {rest : List Expr} {Q : Value → Shared → Prop} (he : starEach (e :: rest) env = (false, eval e env) :: starEach rest env) (hp : (backTo pos (starEach rest env)).any (·.1) = false)
    (h : wpAny (model PW w) A (spliced (backTo pos (starEach (e :: rest) env))) (fun vs s₁ => wpAny (model PW w) A (call (.builtin id) vs) Q E s₁) E s) :
    wpAny (model PW w) A (callWith pos (.builtin id) [] (backTo pos (starEach (e :: rest) env)) []) Q E s := callWith_builtin1 h he hp
theorem c_type {T : String} {e : Expr} {rest : List Expr} {Q : Value → Shared → Prop} (he : starEach (e :: rest) env = (false, eval e env) :: starEach rest env) (hp : (backTo pos (starEach rest env)).any (·.1) = false)
    (h : wpAny (model PW w) A (spliced (backTo pos (starEach (e :: rest) env))) (fun vs s₁ => wpAny (model PW w) A (call (.type T) vs) Q E s₁) E s) :
    wpAny (model PW w) A (callWith pos (.type T) [] (backTo pos (starEach (e :: rest) env)) []) Q E s := callWith_type1 h he hp
theorem b_len {a : Addr} {vs : List Value} {Q : Value → Shared → Prop} (H : Ok g ms s₀ s) (r : Rd g ms a (oList vs)) (hz : vs.length < 1000000) (k : ∀ t s', Ok g ms s₀ s' → Q (.int (vs.length : Int) t) s') :
    wpAny (model PW w) A (call (.builtin "len") [.ref a]) Q E s :=
  call_len_list (H.rd r).list (by rw [List.size_toArray]; omega) (by rw [List.size_toArray]; exact k _ _ H.tk)

/-! ## items -/
theorem i_item {a : Addr} {vs : List Value} {value slice : Expr} {i : Int} {u : Tok} {Q : Value → Shared → Prop} (H : Ok g ms s₀ s) (r : Rd g ms a (oList vs)) (h0 : 0 ≤ i) (hi : i < 1000000) (hx : vs[i.toNat]? = some v)
    (hs : subscripted slice false (.ref a) (.int i u) = operate [.ref a, .int i u] (getItem (.ref a) (.int i u))) (h : Q v s) : wpAny (model PW w) A (subscriptTail value slice (.ref a) (.int i u)) Q E s :=
  have hL := (H.rd r).list
  tail_any hL.typeIs slot_list_getitem.lookup (wpAny_getItem_list hL h0 (by omega) (by simpa using hx) h) hs
end
end Mine
end
/-! text M3 -/
section
open PySem PySem.W PySem.Calls PyProof.Rows
set_option maxRecDepth 100000
namespace Mine

section
variable {w : World} {A : Around} {E : Value → Shared → Prop} {g : Heap} {ms : List Ent} {s₀ s : Shared} {env : Env} {x : Str} {pos px : Pos} {v : Value} {L : Addr} {m : Str → Option Value}

theorem Ok.perm {ms' : List Ent} (H : Ok g ms s₀ s) (h : ms.Perm ms') : Ok g ms' s₀ s :=
  ⟨H.keep, fun p hp => H.at_ p (h.mem_iff.mpr hp), (h.map _).nodup_iff.mp H.nd, fun p hp => H.new p (h.mem_iff.mpr hp), H.gens, H.os, H.tm⟩
theorem Ok.swap {p q : Ent} (H : Ok g (p :: q :: ms) s₀ s) : Ok g (q :: p :: ms) s₀ s := H.perm (.swap _ _ _)

theorem Ok.dropX {a b : Addr} {P R : Obj → Prop} {h' : Heap} {t : Nat} (H : Ok g ((a, P) :: (b, R) :: ms) s₀ s) (hx : Heap.ExtBut b s.heap h') (ht : s.toks ≤ t := by first | exact Nat.le_refl _ | exact Nat.le_succ _ | exact Nat.le_add_right _ 2 | exact Nat.le_add_right _ _ | omega) : Ok g ((a, P) :: ms) s₀ { s with heap := h', toks := t } := by
  have H₂ : Ok g ((a, P) :: ms) s₀ s := H.sub (List.Sublist.cons_cons _ (List.sublist_cons_self _ _))
  refine ⟨fun b' o e => hx b' o (fun q => ?_) (H₂.keep b' o e), fun p hp => ?_, H₂.nd, H₂.new, H₂.gens, H₂.os, Nat.le_trans H₂.tm ht⟩
  · have := H.new (b, R) (.tail _ (.head _))
    subst q; rw [e] at this; cases this
  · obtain ⟨o, e, q⟩ := H₂.at_ p hp
    refine ⟨o, hx _ _ (fun r => ?_) e, q⟩
    have nd := H.nd
    simp only [List.map_cons, List.nodup_cons, List.mem_cons, not_or] at nd
    rcases List.mem_cons.mp hp with rfl | hp
    · exact nd.1.1 r
    · exact nd.2.1 (r ▸ List.mem_map_of_mem hp)

def itO (a n : Int) : Obj := { cls := .type "range_iterator", dict := none, data := .fields #[rawInt a, rawInt n, rawInt 1], slots := #[] }
theorem oIs_get {h : Heap} {a : Addr} {o : Obj} (x : HasAt h a (oIs o)) : h.get? a = some o := by obtain ⟨o', e, q⟩ := x; rw [e, q]

abbrev Inv := Nat → Heap → (Str → Option Value) → List Ent → Prop

theorem for_range {body : List Stmt} {R : Result → Shared → Prop} (hh : A.handled = none) (hk : env.scope.kind = .function) (hx : env.kindOf x = some .local) (hL : env.locals = L) (a : Int) (n : Nat) (J : Inv) (it : Addr)
    (turn : ∀ (i : Nat) g m ms s o t (c : Int), c = a + (i : Int) → i < n → J i g m ms → Ok g ((L, oNs (upd m x (.int c t))) :: (it, oIs o) :: ms) s₀ s →
      wpAny (model PW w) A (execs body env) (fun f s' => f = .next ∧ ∃ g' m' ms', J (i + 1) g' m' ms' ∧ Ok g' ((L, oNs m') :: (it, oIs o) :: ms') s₀ s') (fun _ _ => False) s)
    (fin : ∀ g m ms s, J n g m ms → Ok g ((L, oNs m) :: ms) s₀ s → R (.ok .next) s)
    (h : J 0 g m ms) (H : Ok g ((L, oNs m) :: (it, oIs (itO a n)) :: ms) s₀ s) : codeAny (model PW w) A (.forLoop (.Name x px) (.ref it) body [] env) R s := by
  refine codeAny_forLoop (fun k s' => ∃ i g m ms, i ≤ n ∧ k = n + 1 - i ∧ J i g m ms ∧ Ok g ((L, oNs m) :: (it, oIs (itO (a + i) ((n : Int) - i))) :: ms) s₀ s') ?_ (n + 1) ⟨0, g, m, ms, Nat.zero_le _, rfl, h, by simpa using H⟩
  rintro k s' ⟨i, g, m, ms, hi, rfl, hJ, H⟩
  have hit : IsRangeIter s'.heap it (a + i) ((n : Int) - i) 1 := oIs_get (H.at_ (it, oIs (itO (a + i) ((n : Int) - i))) (.tail _ (.head _)))
  by_cases hlt : i < n
  · refine wpAny_pyNext_range_item hit (by omega) fun h₁ hit₁ hs₁ => ?_
    have H₁ := H.upd (t := s'.toks + 1) 1 rfl hs₁ (P' := oIs (itO (a + i + 1) ((n : Int) - i - 1))) ⟨_, hit₁, rfl⟩
    refine wpAny_assign_Name (s_loc H₁ hk hx hL fun s₂ H₂ => ?_)
    refine wpAny_mono (turn i g m ms s₂ (itO (a + i + 1) ((n : Int) - i - 1)) _ _ rfl hlt hJ H₂) (fun f s₃ h₃ => ?_) fun _ _ e => e.elim
    obtain ⟨rfl, g', m', ms', hJ', H'⟩ := h₃
    refine ⟨n + 1 - (i + 1), by omega, i + 1, g', m', ms', by omega, rfl, hJ', ?_⟩
    have e1 : a + (i : Int) + 1 = a + ((i + 1 : Nat) : Int) := by push_cast; omega
    have e2 : (n : Int) - (i : Int) - 1 = (n : Int) - ((i + 1 : Nat) : Int) := by push_cast; omega
    rw [← e1, ← e2]; exact H'
  · have : i = n := by omega
    subst this
    refine wpAny_pyNext_range_end hh hit (by omega) fun h₁ he₁ => wpAny_execs_nil ?_
    exact fin g m ms _ hJ (H.dropX (t := s'.toks) he₁)

theorem b_range1 {n : Int} {t : Tok} {Q : Value → Shared → Prop} (H : Ok g ms s₀ s) (k : ∀ r s' u v, Ok g ms s₀ s' → IsRange s'.heap r 0 n 1 u t v → Q (.ref r) s') : wpAny (model PW w) A (call (.type "range") [.int n t]) Q E s :=
  call_range_1 (k _ _ _ _ (H.ext (Sub.push _ _) rfl rfl) (Heap.get?_push_size _ rfl))
theorem b_range2 {a b : Int} {t u : Tok} {Q : Value → Shared → Prop} (H : Ok g ms s₀ s) (k : ∀ r s' v, Ok g ms s₀ s' → IsRange s'.heap r a b 1 t u v → Q (.ref r) s') : wpAny (model PW w) A (call (.type "range") [.int a t, .int b u]) Q E s :=
  call_range_2 (k _ _ _ (H.ext (Sub.push _ _) rfl rfl) (Heap.get?_push_size _ rfl))
theorem p_range {r : Addr} {a b : Int} {t u v : Tok} {n : Nat} {Q : Value → Shared → Prop} (H : Ok g ((L, oNs m) :: ms) s₀ s) (hr : IsRange s.heap r a b 1 t u v) (ha : -(2 ^ 62) ≤ a) (ha' : a < 2 ^ 62) (hb : -(2 ^ 62) ≤ b) (hb' : b < 2 ^ 62)
    (hn : Builtin.Range.rangeSize a b 1 = n) (k : ∀ it s', Ok g ((L, oNs m) :: (it, oIs (itO a n)) :: ms) s₀ s' → Q (.ref it) s') : wpAny (model PW w) A (pyIter (.ref r)) Q E s := by
  refine wpAny_pyIter_range hr (small_one ha ha' hb hb') ?_
  rw [hn]
  exact k _ _ (H.push (o := itO a n) (P := oIs (itO a n)) (t := s.toks) rfl rfl).swap
theorem x_for {target iter : Expr} {body : List Stmt} {Q : Flow → Shared → Prop} (hs : ∀ x, foldedSetIterable iter env x = pure x)
    (h : wpAny (model PW w) A (eval iter env) (fun x s₁ => wpAny (model PW w) A (pyIter x) (fun it s₂ => codeAny (model PW w) A (.forLoop target it body [] env) (fun r s' => ∃ f, r = .ok f ∧ Q f s') s₂) E s₁) E s) :
    wpAny (model PW w) A (exec (.For target iter body [] pos) env) Q E s :=
  wpAny_For (wpAny_mono h (fun x s₁ q => wpAny_mono q (fun it s₂ r => codeAny_mono r fun res s' e => by obtain ⟨f, rfl, e⟩ := e; exact e) fun _ _ e => e) fun _ _ e => e) hs
theorem x_whileM {test : Expr} {body : List Stmt} {Q : Flow → Shared → Prop} (J : Nat → (Str → Option Value) → Prop) (X : (Str → Option Value) → Prop)
    (turn : ∀ n m s, J n m → Ok g ((L, oNs m) :: ms) s₀ s → wpAny (model PW w) A (isTrue test env (eval test env))
      (fun b s₂ => if b = true then wpAny (model PW w) A (execs body env) (fun f s₃ => f = .next ∧ ∃ n' m', n' < n ∧ J n' m' ∧ Ok g ((L, oNs m') :: ms) s₀ s₃) (fun _ _ => False) s₂ else ∃ m', X m' ∧ Ok g ((L, oNs m') :: ms) s₀ s₂) (fun _ _ => False) s)
    (n : Nat) (h : J n m) (H : Ok g ((L, oNs m) :: ms) s₀ s) (k : ∀ m' s', X m' → Ok g ((L, oNs m') :: ms) s₀ s' → Q .next s') : wpAny (model PW w) A (exec (.While test body [] pos) env) Q E s := by
  refine x_while (fun n s => ∃ m, J n m ∧ Ok g ((L, oNs m) :: ms) s₀ s) (fun n s ⟨m, hJ, H⟩ => ?_) n ⟨m, h, H⟩
  refine wpAny_mono (turn n m s hJ H) (fun b s₂ q => ?_) fun _ _ e => e
  cases b with
  | true =>
    rw [if_pos rfl] at q ⊢
    refine wpAny_mono q (fun f s₃ r => ?_) fun _ _ e => e
    obtain ⟨rfl, n', m', a, b, c⟩ := r
    exact ⟨rfl, n', a, m', b, c⟩
  | false =>
    rw [if_neg Bool.false_ne_true] at q ⊢
    obtain ⟨m', a, b⟩ := q
    exact k m' s₂ a b
end
section
variable {w : World} {A : Around} {E : Value → Shared → Prop} {g : Heap} {ms : List Ent} {s₀ s : Shared} {env : Env} {pos : Pos} {L : Addr} {m : Str → Option Value}
theorem n_list {vs : List Value} {p : Ent} {Q : Value → Shared → Prop} (H : Ok g (p :: ms) s₀ s) (hz : vs.length ≤ 1000000) (k : ∀ a s', Ok g (p :: (a, oList vs) :: ms) s₀ s' → Q (.ref a) s') : wpAny (model PW w) A (newList vs) Q E s :=
  wpAny_newObj_type (k _ _ (H.push (o := { cls := .type "list", data := .seq vs.toArray }) (P := oList vs) (t := s.toks) ⟨0, rfl⟩ rfl).swap) (by show vs.toArray.size ≤ sizeLine; rw [List.size_toArray, sizeLine_eq]; omega)
theorem n_tup {vs : List Value} {Q : Value → Shared → Prop} (H : Ok g ms s₀ s) (hz : vs.length ≤ 1000000) (k : ∀ a g' s', Sub g g' → HasAt g' a (oTup vs) → Ok g' ms s₀ s' → Q (.ref a) s') : wpAny (model PW w) A (newTuple vs) Q E s := by
  refine wpAny_newObj_type ?_ (by show vs.toArray.size ≤ sizeLine; rw [List.size_toArray, sizeLine_eq]; omega)
  have H₁ := H.push (o := { cls := .type "tuple", data := .seq vs.toArray }) (P := oTup vs) (t := s.toks) ⟨rfl, _, rfl⟩ rfl
  have H₂ := H₁.drop1
  exact k _ _ _ H₂.gsub (gnd_has (H₁.at_ _ (.head _)) (by have := H₁.nd; rw [List.map_cons] at this; exact (List.nodup_cons.mp this).1)) H₂.freeze
/-- a new list that nobody changes -/
theorem n_listF {vs : List Value} {Q : Value → Shared → Prop} (H : Ok g ms s₀ s) (hz : vs.length ≤ 1000000) (k : ∀ a g' s', Sub g g' → HasAt g' a (oList vs) → Ok g' ms s₀ s' → Q (.ref a) s') : wpAny (model PW w) A (newList vs) Q E s := by
  refine wpAny_newObj_type ?_ (by show vs.toArray.size ≤ sizeLine; rw [List.size_toArray, sizeLine_eq]; omega)
  have H₁ := H.push (o := { cls := .type "list", data := .seq vs.toArray }) (P := oList vs) (t := s.toks) ⟨0, rfl⟩ rfl
  have H₂ := H₁.drop1
  exact k _ _ _ H₂.gsub (gnd_has (H₁.at_ _ (.head _)) (by have := H₁.nd; rw [List.map_cons] at this; exact (List.nodup_cons.mp this).1)) H₂.freeze
theorem e_list {elts : List Expr} {Q : Value → Shared → Prop} (h : wpAny (model PW w) A (spliced (backTo pos (starEach elts env))) (fun vs s₁ => wpAny (model PW w) A (newList vs) Q E s₁) E s) : wpAny (model PW w) A (eval (.List elts pos) env) Q E s := List_ h
theorem e_tup {elts : List Expr} {kd : Nat} {Q : Value → Shared → Prop} (h : wpAny (model PW w) A (spliced (backTo pos (starEach elts env))) (fun vs s₁ => wpAny (model PW w) A (newTuple vs) Q E s₁) E s) : wpAny (model PW w) A (eval (.Tuple elts kd pos) env) Q E s := Tuple_ h
/-- two names at once, of a tuple display -/
theorem x_two {elts : List Expr} {kd : Nat} {tpos : Pos} {value : Expr} {x y : Str} {Q : Flow → Shared → Prop}
    (hs : swapsWithSole [.Tuple elts kd tpos] value pos.line env = pure false) (hw : swappedStores [.Tuple elts kd tpos] value env = pure (some [x, y]))
    (h : wpAny (model PW w) A (eval value env) (fun v s₁ => wpAny (model PW w) A (unpackItems v 2 none) (fun items s₂ => wpAny (model PW w) A (assignInOrder [bindName env y, bindName env x] items.reverse) (fun _ => Q .next) E s₂) E s₁) E s) :
    wpAny (model PW w) A (exec (.Assign [.Tuple elts kd tpos] value pos) env) Q E s := Assign_Tuple_swapped (names := [x, y]) h hs hw
theorem u_tup {a : Addr} {vs : List Value} {n : Nat} {Q : List Value → Shared → Prop} (hh : A.handled = none) (H : Ok g ms s₀ s) (r : Rd g ms a (oTup vs)) (hn : n = vs.length) (k : ∀ s', Ok g ms s₀ s' → Q vs s') : wpAny (model PW w) A (unpackItems (.ref a) n none) Q E s := by
  have ht := (H.rd r).tup
  subst hn
  rw [show vs.length = vs.toArray.size by simp]
  refine unpackItems_tuple hh ht fun h' hx => ?_
  have := k { s with heap := h' } (H.ext (fun b o e => hx b o (Nat.ne_of_lt (Heap.lt_size e)) e) rfl rfl)
  simpa using this
theorem o_nil {xs : List Value} {Q : Unit → Shared → Prop} (h : Q () s) : wpAny (model PW w) A (assignInOrder [] xs) Q E s := assignInOrder_nil h
theorem o_cons {x : Str} {ts : List (Value → Sem Unit)} {v : Value} {xs : List Value} {Q : Unit → Shared → Prop}
    (h : wpAny (model PW w) A (storeName env x v) (fun _ s₁ => wpAny (model PW w) A (assignInOrder ts xs) Q E s₁) E s) : wpAny (model PW w) A (assignInOrder (bindName env x :: ts) (v :: xs)) Q E s := assignInOrder_cons (bindName_ h)
end
/-! ## split by a test -/
theorem if_dec {c : Prop} [Decidable c] {P R : Prop} (ht : c → P) (hf : ¬ c → R) : if decide c = true then P else R := by
  by_cases q : c
  · rw [if_pos (decide_eq_true q)]; exact ht q
  · rw [if_neg (by simpa using q)]; exact hf q

/-! ## a call of a def -/
def retV : Flow → Value | .ret v => v | _ => .none
theorem fn_call {w : World} {A : Around} {s : Shared} {R : Result → Shared → Prop} {name : Str} {params : Arguments} {body : List Stmt} {scope : Scope} {pm cd doc : Value} {f : Addr} {o : Obj} {args : List Value} {binds : List (Str × Value)}
    (G : Gd w s.heap) (hh : A.handled = none) (hroom : A.depth < recursionLimit) (ho : s.heap.get? f = some o) (hdata : o.data = .func (Calls.docDef name params body scope pm cd doc))
    (hcd : codeIn (hd.heap_39 w.params) cd name = true) (hbind : bindArgs (Calls.docDef name params body scope pm cd doc) ⟨args, []⟩ = pure binds) (hloc : ∀ x ∈ binds, scope.names.lookup x.1 = some .local)
    (hco : scope.isCoroutine = false) (hgen : scope.isGenerator = false) (hk : scope.kind = .function) (hcell : ∀ x ∈ scope.names, x.2 ≠ .cell)
    (h : ∀ (A' : Around) (L : Addr) (s' : Shared), A'.handled = none → A'.depth = A.depth + 1 → A'.units = A.units + 3 → Ok s.heap [(L, oNs fun x => binds.reverse.lookup x)] s s' →
      wpAny (model PW w) A' (execs body (envOf name scope L f cd)) (fun fl s' => R (.ok (.ret (retV fl))) s') (fun _ _ => False) s') :
    codeAny (model PW w) A (.call (.ref f) ⟨args, []⟩) R s := by
  have hlim : s.heap.NoLimit := let ⟨_, _, _, _, c, _⟩ := G.T; c
  refine call_plain_ret hroom ho hdata hlim (codeRec_of G.X hcd) hbind hloc (fun h₁ F => ?_) hco hgen hk hcell
  refine wpAny_mono (h _ s.heap.objs.size { s with heap := h₁, toks := s.toks + binds.length } hh rfl rfl ?_) (fun fl s' q => by cases fl <;> exact q) fun _ _ e => e
  exact ⟨F.keep, fun p hp => by rcases List.mem_singleton.mp hp with rfl; exact HasAt.ofNs F.ns, by simp, fun p hp => by rcases List.mem_singleton.mp hp with rfl; exact Heap.get?_none_of_le (Nat.le_refl _), rfl, rfl, Nat.le_add_right _ _⟩

/-! ## which tree it is -/
section
variable {w : World} {A : Around} {E : Value → Shared → Prop} {s : Shared} {env : Env}
theorem g_eval {e : Expr} {Q : Value → Shared → Prop} (h : wpAny (model PW w) A (eval e env) Q E s) : wpAny (model PW w) A (eval e env) Q E s := h
theorem g_exec {e : Stmt} {Q : Flow → Shared → Prop} (h : wpAny (model PW w) A (exec e env) Q E s) : wpAny (model PW w) A (exec e env) Q E s := h
theorem g_true {e : Expr} {W : Sem Value} {Q : Bool → Shared → Prop} (h : wpAny (model PW w) A (isTrue e env W) Q E s) : wpAny (model PW w) A (isTrue e env W) Q E s := h
theorem g_bin {op : Operator} {a b : Value} {Q : Value → Shared → Prop} (h : wpAny (model PW w) A (binaryOp op a b) Q E s) : wpAny (model PW w) A (binaryOp op a b) Q E s := h
theorem g_cmp {op : CmpOp} {a b : Value} {Q : Value → Shared → Prop} (h : wpAny (model PW w) A (compareOp op a b) Q E s) : wpAny (model PW w) A (compareOp op a b) Q E s := h
theorem g_cw {pos : Pos} {f : Value} {l : List Value} {args : List (Bool × Sem Value)} {kw : List (Option Str × Sem Value)} {Q : Value → Shared → Prop} (h : wpAny (model PW w) A (callWith pos f l args kw) Q E s) : wpAny (model PW w) A (callWith pos f l args kw) Q E s := h
theorem g_call {f : Value} {l : List Value} {kw : List (Str × Value)} {Q : Value → Shared → Prop} (h : wpAny (model PW w) A (call f l kw) Q E s) : wpAny (model PW w) A (call f l kw) Q E s := h
theorem g_name {x : Str} {pos : Pos} {Q : Value → Shared → Prop} (h : wpAny (model PW w) A (eval (.Name x pos) env) Q E s) : wpAny (model PW w) A (eval (.Name x pos) env) Q E s := h
end

/-! ## the global names -/
section
variable {P : Params}
theorem gl_len : nsIn (hd.heap_39 P) mainGlobals "len" = some none := by rfl
theorem gl_range : nsIn (hd.heap_39 P) mainGlobals "range" = some none := by rfl
theorem gl_sorted : nsIn (hd.heap_39 P) mainGlobals "sorted" = some none := by rfl
theorem gl_next : nsIn (hd.heap_39 P) mainGlobals "next" = some none := by rfl
theorem gl_iter : nsIn (hd.heap_39 P) mainGlobals "iter" = some none := by rfl
theorem gl_enumerate : nsIn (hd.heap_39 P) mainGlobals "enumerate" = some none := by rfl
theorem gl_quotedata : nsIn (hd.heap_39 P) mainGlobals "quotedata" = some (some (.ref 48)) := by rfl
theorem gl_parse : nsIn (hd.heap_39 P) mainGlobals "_parse_varint" = some (some (.ref 55)) := by rfl
theorem gl_written : nsIn (hd.heap_39 P) mainGlobals "_law_written" = some (some (.ref 104)) := by rfl
theorem gl_led : nsIn (hd.heap_39 P) mainGlobals "_law_led" = some (some (.ref 111)) := by rfl
theorem gl_repeats : nsIn (hd.heap_39 P) mainGlobals "_law_repeats" = some (some (.ref 116)) := by rfl
theorem gl_re1 : nsIn (hd.heap_39 P) mainGlobals "_twin_re_1" = some (some (.ref 36)) := by rfl
theorem gl_re2 : nsIn (hd.heap_39 P) mainGlobals "_twin_re_2" = some (some (.ref 41)) := by rfl
theorem gl_crlf : nsIn (hd.heap_39 P) mainGlobals "CRLF" = some (some (.str (Str.ofString "\r\n") 342)) := by rfl
end
theorem bo_len : bootBuiltins "len" = some (.builtin "len") := PyProof.Rows.Boot.«len»
theorem bo_range : bootBuiltins "range" = some (.type "range") := PyProof.Rows.Boot.«range»
theorem bo_sorted : bootBuiltins "sorted" = some (.builtin "sorted") := PyProof.Rows.Boot.«sorted»
theorem bo_next : bootBuiltins "next" = some (.builtin "next") := PyProof.Rows.Boot.«next»
theorem bo_iter : bootBuiltins "iter" = some (.builtin "iter") := PyProof.Rows.Boot.«iter»
theorem bo_enumerate : bootBuiltins "enumerate" = some (.type "enumerate") := PyProof.Rows.Boot.«enumerate»
end Mine
end
/-! text M4 -/
section
open PySem PySem.W PySem.Calls PyProof.Rows
set_option maxRecDepth 100000
namespace Mine
/-! ## lists of ints, of texts, of triples -/
def IntL (vs : List Value) (n : Nat) (k : Nat → Int) : Prop := vs.length = n ∧ ∀ i, i < n → ∃ t, vs[i]? = some (.int (k i) t)
def StrL (vs : List Value) (n : Nat) (k : Nat → PySem.Str) : Prop := vs.length = n ∧ ∀ i, i < n → ∃ t, vs[i]? = some (.str (k i) t)
inductive All2 {α β : Type} (R : α → β → Prop) : List α → List β → Prop
  | nil : All2 R [] []
  | cons {a b as bs} : R a b → All2 R as bs → All2 R (a :: as) (b :: bs)
theorem All2.snoc {α β : Type} {R : α → β → Prop} {a : α} {b : β} : ∀ {as bs}, All2 R as bs → R a b → All2 R (as ++ [a]) (bs ++ [b])
  | _, _, .nil, h => .cons h .nil
  | _, _, .cons q r, h => .cons q (r.snoc h)
theorem All2.mono {α β : Type} {R S : α → β → Prop} (h : ∀ a b, R a b → S a b) : ∀ {as bs}, All2 R as bs → All2 S as bs
  | _, _, .nil => .nil
  | _, _, .cons q r => .cons (h _ _ q) (r.mono h)
theorem All2.length {α β : Type} {R : α → β → Prop} : ∀ {as bs}, All2 R as bs → as.length = bs.length
  | _, _, .nil => rfl
  | _, _, .cons _ r => congrArg (· + 1) r.length
theorem All2.at {α β : Type} {R : α → β → Prop} : ∀ {as : List α} {bs : List β}, All2 R as bs → ∀ (i : Nat) (a : α), as[i]? = some a → ∃ b, bs[i]? = some b ∧ R a b
  | _, _, .cons q _, 0, a, h => ⟨_, rfl, by cases h; exact q⟩
  | _, _, .cons _ r, i + 1, a, h => r.at i a (by simpa using h)
theorem All2.at' {α β : Type} {R : α → β → Prop} : ∀ {as : List α} {bs : List β}, All2 R as bs → ∀ (i : Nat) (b : β), bs[i]? = some b → ∃ a, as[i]? = some a ∧ R a b
  | _, _, .cons q _, 0, a, h => ⟨_, rfl, by cases h; exact q⟩
  | _, _, .cons _ r, i + 1, a, h => r.at' i a (by simpa using h)
abbrev T3 := Nat × Nat × Nat
def Tup3 (g : Heap) (v : Value) (t : T3) : Prop := ∃ a x y z, v = .ref a ∧ HasAt g a (oTup [.int t.1 x, .int t.2.1 y, .int t.2.2 z])
def TupsAt (g : Heap) (vs : List Value) (T : List T3) : Prop := All2 (Tup3 g) vs T
theorem Tup3.sub {g g' : Heap} {v : Value} {t : T3} (h : Tup3 g v t) (s : Sub g g') : Tup3 g' v t := let ⟨a, x, y, z, e, q⟩ := h; ⟨a, x, y, z, e, q.sub s⟩
theorem TupsAt.sub {g g' : Heap} {vs : List Value} {T : List T3} (h : TupsAt g vs T) (s : Sub g g') : TupsAt g' vs T := h.mono fun _ _ q => q.sub s
def dat3 (t : T3) : PyData := .tuple [.int t.1, .int t.2.1, .int t.2.2]
theorem Tup3.reads {g : Heap} {v : Value} {t : T3} (h : Tup3 g v t) : Reads g v (dat3 t) [] := by
  obtain ⟨a, x, y, z, rfl, o, e, c, n, d⟩ := h
  exact .tuple e c d (.cons (.int _ _) (.cons (.int _ _) (.cons (.int _ _) .nil)))
theorem TupsAt.reads {g : Heap} : ∀ {vs : List Value} {T : List T3}, TupsAt g vs T → ReadsAll g vs (T.map dat3) []
  | _, _, .nil => .nil
  | _, _, .cons q r => by
    have := ReadsAll.cons q.reads (TupsAt.reads r)
    exact this
theorem lay3 : ∀ T : List T3, PyData.canLayAll0 (T.map dat3) = true
  | [] => rfl
  | t :: T => by
    show (PyData.canLay0 (dat3 t) && PyData.canLayAll0 (T.map dat3)) = true
    rw [lay3 T]; rfl
theorem eqv3 (a b : T3) : PyData.eqv (dat3 a) (dat3 b) = decide (a = b) := by
  obtain ⟨a1, a2, a3⟩ := a
  obtain ⟨b1, b2, b3⟩ := b
  show (((a1 : Int) == b1) && (((a2 : Int) == b2) && (((a3 : Int) == b3) && true))) = _
  rw [Bool.eq_iff_iff]
  simp only [Bool.and_true, Bool.and_eq_true, beq_iff_eq, decide_eq_true_eq, Prod.mk.injEq]
  omega
theorem depth3 : ∀ T : List T3, PyData.depthAll (T.map dat3) ≤ 1
  | [] => Nat.zero_le _
  | t :: T => by
    show max 1 (PyData.depthAll (T.map dat3)) ≤ 1
    have := depth3 T
    omega

section
variable {w : World} {A : Around} {E : Value → Shared → Prop} {g : Heap} {ms : List Ent} {s₀ s : Shared} {env : Env} {pos : Pos} {L : Addr} {m : Str → Option Value}
theorem notin3 {a : Addr} {vs : List Value} {v : Value} {T : List T3} {t : T3} {Q : Value → Shared → Prop} (H : Ok g ms s₀ s) (r : Rd g ms a (oList vs)) (hT : TupsAt g vs T) (ht : Tup3 s.heap v t) (hu : A.units < 9000) (h : Q (.bool (decide (t ∉ T))) s) :
    wpAny (model PW w) A (compareOp .NotIn v (.ref a)) Q E s := by
  obtain ⟨n, e⟩ := (H.rd r).plist
  refine PySem.SeqAt.notIn_list_reads (xs := T.map dat3) (d := dat3 t) (.list e rfl rfl (TupsAt.reads (hT.sub H.keep))) ht.reads (lay3 T) rfl ?_ ?_
  · have := depth3 T
    show _ + 1 + min _ _ < 9900
    omega
  · have : (!(T.map dat3).any fun y => PyData.eqv y (dat3 t)) = decide (t ∉ T) := by
      rw [List.any_map]
      have e : ((fun y => PyData.eqv y (dat3 t)) ∘ dat3) = fun x => decide (x = t) := funext fun x => eqv3 x t
      rw [e, Bool.eq_iff_iff]
      simp only [Bool.not_eq_true', List.any_eq_false, decide_eq_true_eq]
      exact ⟨fun h hm => h t hm rfl, fun h x hm e => h (e ▸ hm)⟩
    rw [this]; exact h

theorem n_tupH {vs : List Value} {Q : Value → Shared → Prop} (H : Ok g ms s₀ s) (hz : vs.length ≤ 1000000) (k : ∀ a s', Ok g ms s₀ s' → HasAt s'.heap a (oTup vs) → Q (.ref a) s') : wpAny (model PW w) A (newTuple vs) Q E s :=
  wpAny_newObj_type (k _ _ (H.ext (Sub.push _ _) rfl rfl) ⟨_, Heap.get?_push_size _ rfl, rfl, _, rfl⟩) (by show vs.toArray.size ≤ sizeLine; rw [List.size_toArray, sizeLine_eq]; omega)
theorem u_tupH {a : Addr} {vs : List Value} {n : Nat} {Q : List Value → Shared → Prop} (hh : A.handled = none) (H : Ok g ms s₀ s) (r : HasAt s.heap a (oTup vs)) (hn : n = vs.length) (k : ∀ s', Ok g ms s₀ s' → Q vs s') : wpAny (model PW w) A (unpackItems (.ref a) n none) Q E s := by
  have ht := r.tup
  subst hn
  rw [show vs.length = vs.toArray.size by simp]
  refine unpackItems_tuple hh ht fun h' hx => ?_
  have := k { s with heap := h' } (H.ext (fun b o e => hx b o (Nat.ne_of_lt (Heap.lt_size e)) e) rfl rfl)
  simpa using this
theorem e_meth {o : Expr} {name : Str} {apos : Pos} {args : List Expr} {pl : Sem Bool} {Q : Value → Shared → Prop}
    (he : eval (.Call (.Attribute o name apos) args [] pos) env = (do
      let ov ← eval o env
      standAt apos.atName
      let (f, first) ← holding [ov] (getMethod ov name pl)
      callWith pos f first (backTo pos (starEach args env)) []))
    (h : wpAny (model PW w) A (eval o env) (fun ov s₁ => wpAny (model PW w) A (getMethod ov name pl) (fun fx s₂ => wpAny (model PW w) A (callWith pos fx.1 fx.2 (backTo pos (starEach args env)) []) Q E s₂) E s₁) E s) :
    wpAny (model PW w) A (eval (.Call (.Attribute o name apos) args [] pos) env) Q E s := MethodCall_ h he
theorem c_meth {id : String} {first : List Value} {e : Expr} {rest : List Expr} {Q : Value → Shared → Prop} (he : starEach (e :: rest) env = (false, eval e env) :: starEach rest env) (hp : (backTo pos (starEach rest env)).any (·.1) = false)
    (h : wpAny (model PW w) A (spliced (backTo pos (starEach (e :: rest) env))) (fun vs s₁ => wpAny (model PW w) A (call (.builtin id) (first ++ vs)) Q E s₁) E s) :
    wpAny (model PW w) A (callWith pos (.builtin id) first (backTo pos (starEach (e :: rest) env)) []) Q E s := callWith_method1 h he hp
theorem m_app {a : Addr} {vs : List Value} {pl : Sem Bool} {Q : Value × List Value → Shared → Prop} (H : Ok g ms s₀ s) (r : Rd g ms a (oList vs)) (h : Q (.builtin "list.append", [.ref a]) s) : wpAny (model PW w) A (getMethod (.ref a) "append" pl) Q E s := by
  obtain ⟨n, e⟩ := (H.rd r).plist
  exact getMethod_list_append e rfl rfl h
theorem b_app {a : Addr} {vs : List Value} {x : Value} {Q : Value → Shared → Prop} (i : Nat) (H : Ok g ms s₀ s) (hi : ms[i]? = some (a, oList vs)) (hz : vs.length < 1000000) (k : ∀ s', Ok g (ms.set i (a, oList (vs ++ [x]))) s₀ s' → Q .none s') :
    wpAny (model PW w) A (call (.builtin "list.append") [.ref a, x]) Q E s :=
  wpAny_list_append_plain (H.at_ _ (List.mem_of_getElem? hi)).plist (fun h' hl hs => k _ (H.upd i hi hs (HasAt.ofList (by simpa using hl)))) (by rw [List.size_toArray, sizeLine_eq]; omega)

end
section
variable {w : World} {A : Around} {E : Value → Shared → Prop} {g : Heap} {ms : List Ent} {s₀ s : Shared}
end
def lt3 (a b : T3) : Prop := a.1 < b.1 ∨ (a.1 = b.1 ∧ (a.2.1 < b.2.1 ∨ (a.2.1 = b.2.1 ∧ a.2.2 < b.2.2)))
end Mine
end
/-! text K1 -/
section
open PySem PySem.W PySem.Calls PyProof.Rows
set_option maxRecDepth 100000
namespace Mine
/-! ## the tree of questions sorts -/
def Good (n : Nat) (lt : Nat → Nat → Bool) {α : Type} (P : α → Prop) : KasT α → Prop
  | .ret a => P a
  | .ask i j k => i < n ∧ j < n ∧ Good n lt P (k (lt i j))
theorem Good.bind {n : Nat} {lt : Nat → Nat → Bool} {α β : Type} {P : β → Prop} {f : α → KasT β} : ∀ {t : KasT α}, Good n lt (fun a => Good n lt P (f a)) t → Good n lt P (t.bind f)
  | .ret _, h => h
  | .ask i j k, h => ⟨h.1, h.2.1, Good.bind (t := k (lt i j)) h.2.2⟩
theorem Good.mono {n : Nat} {lt : Nat → Nat → Bool} {α : Type} {P R : α → Prop} (h : ∀ a, P a → R a) : ∀ {t : KasT α}, Good n lt P t → Good n lt R t
  | .ret _, q => h _ q
  | .ask i j k, q => ⟨q.1, q.2.1, Good.mono h (t := k (lt i j)) q.2.2⟩
theorem Good.wp {n : Nat} {lt : Nat → Nat → Bool} {α : Type} {P : α → Prop} {cmp : Nat → Nat → (Bool → Shared → Prop) → Shared → Prop} {Q : α → Shared → Prop} {s : Shared} (hc : ∀ i j C, i < n → j < n → C (lt i j) s → cmp i j C s) (hq : ∀ a, P a → Q a s) : ∀ {t : KasT α}, Good n lt P t → t.kasWp cmp Q s
  | .ret a, h => hq a h
  | .ask i j k, h => hc i j _ h.1 h.2.1 (Good.wp hc hq (t := k (lt i j)) h.2.2)
section
variable {n : Nat} {lt : Nat → Nat → Bool} (hn : 0 < n) (asym : ∀ i j, lt i j = true → lt j i = true → False) (tr : ∀ i j k, lt i j = true → lt j k = true → lt i k = true) (tot : ∀ i j, i < n → j < n → i ≠ j → lt i j = true ∨ lt j i = true)
def PP (n : Nat) (p : Array Nat) : Prop := p.toList.Perm (List.range n)
theorem PP.size {p : Array Nat} (h : PP n p) : p.size = n := by
  have := h.length_eq
  simpa using this
theorem PP.get {p : Array Nat} (h : PP n p) {i : Nat} (hi : i < n) : p[i]? = some (p.getD i 0) := by
  have : i < p.size := by rw [h.size]; exact hi
  simp [Array.getD, this]
theorem PP.lo {p : Array Nat} (h : PP n p) (hn : 0 < n) (i : Nat) : p.getD i 0 < n := by
  by_cases hi : i < n
  · have hm : p.getD i 0 ∈ p.toList := by
      have := h.get hi
      rw [← Array.getElem?_toList] at this
      exact List.mem_of_getElem? this
    exact List.mem_range.mp (h.mem_iff.mp hm)
  · have : ¬ i < p.size := by rw [h.size]; exact hi
    simp [Array.getD, this, hn]
theorem PP.ne {p : Array Nat} (h : PP n p) {i j : Nat} (hi : i < n) (hj : j < n) (e : i ≠ j) : p.getD i 0 ≠ p.getD j 0 := by
  intro q
  have nd : p.toList.Nodup := h.nodup_iff.mpr List.nodup_range
  have a := h.get hi
  have b := h.get hj
  rw [← Array.getElem?_toList] at a b
  rw [q, ← b] at a
  exact e ((List.getElem?_inj (by rw [Array.length_toList, h.size]; exact hi) nd).mp a)
def Asc (lt : Nat → Nat → Bool) (p : Array Nat) (k : Nat) : Prop := ∀ i j, i < j → j < k → lt (p.getD i 0) (p.getD j 0) = true
def Dsc (lt : Nat → Nat → Bool) (p : Array Nat) (k : Nat) : Prop := ∀ i j, i < j → j < k → lt (p.getD j 0) (p.getD i 0) = true
include tr in
theorem Asc.step {p : Array Nat} {k : Nat} (h : Asc lt p k) (h1 : 1 ≤ k) (hk : lt (p.getD (k - 1) 0) (p.getD k 0) = true) : Asc lt p (k + 1) := fun i j hij hj => by
  by_cases e : j = k
  · subst e
    by_cases e' : i = j - 1
    · subst e'; exact hk
    · exact tr _ _ _ (h i (j - 1) (by omega) (by omega)) hk
  · exact h i j hij (by omega)
include tr in
theorem Dsc.step {p : Array Nat} {k : Nat} (h : Dsc lt p k) (h1 : 1 ≤ k) (hk : lt (p.getD k 0) (p.getD (k - 1) 0) = true) : Dsc lt p (k + 1) := fun i j hij hj => by
  by_cases e : j = k
  · subst e
    by_cases e' : i = j - 1
    · subst e'; exact hk
    · exact tr _ _ _ hk (h i (j - 1) (by omega) (by omega))
  · exact h i j hij (by omega)
include hn asym tr tot
theorem good_asc {p : Array Nat} (hp : PP n p) : ∀ (f k : Nat), 1 ≤ k → k + f ≤ n → Asc lt p k → Good n lt (fun m => k ≤ m ∧ m ≤ k + f ∧ Asc lt p m ∧ (m = k + f ∨ lt (p.getD m 0) (p.getD (m - 1) 0) = true)) (kas_asc p f k)
  | 0, k, h1, hk, ha => ⟨Nat.le_refl _, Nat.le_refl _, ha, .inl rfl⟩
  | f + 1, k, h1, hk, ha => by
    refine ⟨hp.lo hn _, hp.lo hn _, ?_⟩
    cases e : lt (p.getD k 0) (p.getD (k - 1) 0) with
    | true => exact ⟨Nat.le_refl _, Nat.le_add_right _ _, ha, .inr e⟩
    | false =>
      dsimp only
      rw [if_neg Bool.false_ne_true]
      have hk' : lt (p.getD (k - 1) 0) (p.getD k 0) = true := by
        rcases tot _ _ (hp.lo hn k) (hp.lo hn (k - 1)) (hp.ne (by omega) (by omega) (by omega)) with q | q
        · rw [e] at q; cases q
        · exact q
      refine Good.mono (fun m q => ?_) (good_asc hp f (k + 1) (by omega) (by omega) (ha.step tr h1 hk'))
      exact ⟨by omega, by omega, q.2.2.1, q.2.2.2.elim (fun e => .inl (by omega)) .inr⟩
theorem good_desc {p : Array Nat} (hp : PP n p) : ∀ (f k : Nat), 1 ≤ k → k + f ≤ n → Dsc lt p k → Good n lt (fun r => r.1 = p ∧ k ≤ r.2.1 ∧ r.2.1 ≤ k + f ∧ r.2.2 = 0 ∧ Dsc lt p r.2.1) (kas_desc f p k 0)
  | 0, k, h1, hk, ha => ⟨rfl, Nat.le_refl _, Nat.le_refl _, rfl, ha⟩
  | f + 1, k, h1, hk, ha => by
    refine ⟨hp.lo hn _, hp.lo hn _, ?_⟩
    cases e : lt (p.getD k 0) (p.getD (k - 1) 0) with
    | true =>
      dsimp only
      rw [if_pos rfl, if_neg (Nat.lt_irrefl 0)]
      exact Good.mono (fun r q => ⟨q.1, by omega, by omega, q.2.2.2.1, q.2.2.2.2⟩) (good_desc hp f (k + 1) (by omega) (by omega) (ha.step tr h1 e))
    | false =>
      dsimp only
      rw [if_neg Bool.false_ne_true]
      have hk' : lt (p.getD (k - 1) 0) (p.getD k 0) = true := by
        rcases tot _ _ (hp.lo hn k) (hp.lo hn (k - 1)) (hp.ne (by omega) (by omega) (by omega)) with q | q
        · rw [e] at q; cases q
        · exact q
      refine ⟨hp.lo hn _, hp.lo hn _, ?_⟩
      rw [hk']
      dsimp only
      rw [if_pos rfl]
      exact ⟨rfl, Nat.le_refl _, Nat.le_add_right _ _, rfl, ha⟩
omit hn asym tr tot in
theorem PP.rev {p : Array Nat} (hp : PP n p) (i j : Nat) : PP n (kas_rev p i j) := ((mirror_perm p i j _).toList).trans hp
omit hn asym tr tot in
theorem rev_get {p : Array Nat} (hp : PP n p) {m k : Nat} (hm : m ≤ n) (hk : k < m) : (kas_rev p 0 m).getD k 0 = p.getD (m - 1 - k) 0 := by
  have h := getElem?_mirror_all (xs := p) (i := 0) (j := m) (by rw [hp.size]; exact hm) k
  rw [if_pos ⟨Nat.zero_le _, hk⟩] at h
  have a := (hp.rev 0 m).get (i := k) (by omega)
  have b := hp.get (i := 0 + m - 1 - k) (by omega)
  have : (kas_rev p 0 m)[k]? = p[0 + m - 1 - k]? := h
  rw [a, b] at this
  rw [show 0 + m - 1 - k = m - 1 - k by omega] at this
  exact Option.some.inj this
theorem good_tail3 {p : Array Nat} (hp : PP n p) {m : Nat} (h1 : 1 ≤ m) (hm : m ≤ n) (hd : Dsc lt p m) : Good n lt (fun r => 1 ≤ r.1 ∧ r.1 ≤ n ∧ PP n r.2 ∧ Asc lt r.2 r.1) (kas_tail3 m n p) := by
  unfold kas_tail3
  refine Good.bind (Good.mono (fun r q => ?_) (good_asc hn asym tr tot (hp.rev 0 m) (n - m) m h1 (by omega) fun i j hij hj => ?_))
  · exact ⟨by omega, by omega, hp.rev 0 m, q.2.2.1⟩
  · rw [rev_get hp hm (by omega), rev_get hp hm hj]
    exact hd _ _ (by omega) (by omega)
theorem good_descPart {p : Array Nat} (hp : PP n p) (h2 : 2 ≤ n) (hd : lt (p.getD 1 0) (p.getD 0 0) = true) : Good n lt (fun r => 1 ≤ r.1 ∧ r.1 ≤ n ∧ PP n r.2 ∧ Asc lt r.2 r.1) (kas_descPart 1 n p) := by
  unfold kas_descPart
  refine Good.bind (Good.mono (fun r q => ?_) (good_desc hn asym tr tot hp (n - (1 + 1)) (1 + 1) (by omega) (by omega) fun i j hij hj => ?_))
  · obtain ⟨q1, q2, q3, q4, q5⟩ := q
    rw [q4, if_neg (Nat.lt_irrefl 0), q1]
    exact good_tail3 hn asym tr tot hp (by omega) (by omega) q5
  · obtain rfl : j = 1 := by omega
    obtain rfl : i = 0 := by omega
    exact hd
theorem good_count {p : Array Nat} (hp : PP n p) (h2 : 2 ≤ n) : Good n lt (fun r => 1 ≤ r.1 ∧ r.1 ≤ n ∧ PP n r.2 ∧ Asc lt r.2 r.1) (kas_count n p) := by
  unfold kas_count
  refine Good.bind (Good.mono (fun m q => ?_) (good_asc hn asym tr tot hp (n - 1) 1 (Nat.le_refl _) (by omega) fun i j hij hj => by omega))
  obtain ⟨q1, q2, q3, q4⟩ := q
  by_cases e : m = n
  · rw [if_pos (by simp [e])]
    exact ⟨q1, by omega, hp, q3⟩
  · rw [if_neg (by simp [e])]
    by_cases e1 : m > 1
    · rw [if_pos e1]
      refine ⟨hp.lo hn _, hp.lo hn _, ?_⟩
      rw [q3 0 (m - 1) (by omega) (by omega)]
      dsimp only
      rw [if_pos rfl]
      exact ⟨q1, by omega, hp, q3⟩
    · rw [if_neg e1]
      obtain rfl : m = 1 := by omega
      show Good n lt _ (kas_descPart 1 n p)
      refine good_descPart hn asym tr tot hp h2 ?_
      rcases q4 with x | x
      · omega
      · exact x
theorem good_place {p : Array Nat} (hp : PP n p) {k : Nat} (hk : k < n) (ha : Asc lt p k) : ∀ (f l r : Nat), l ≤ r → r ≤ k → r - l ≤ f → (∀ i, i < l → lt (p.getD i 0) (p.getD k 0) = true) → (∀ i, r ≤ i → i < k → lt (p.getD k 0) (p.getD i 0) = true) →
    Good n lt (fun m => m ≤ k ∧ (∀ i, i < m → lt (p.getD i 0) (p.getD k 0) = true) ∧ (∀ i, m ≤ i → i < k → lt (p.getD k 0) (p.getD i 0) = true)) (kas_place p k f l r)
  | 0, l, r, hlr, hr, hf, h1, h2 => ⟨by omega, h1, fun i hi => h2 i (by omega)⟩
  | f + 1, l, r, hlr, hr, hf, h1, h2 => by
    unfold kas_place
    by_cases e : l ≥ r
    · rw [if_pos e]
      exact ⟨by omega, h1, fun i hi => h2 i (by omega)⟩
    · rw [if_neg e]
      refine ⟨hp.lo hn _, hp.lo hn _, ?_⟩
      cases c : lt (p.getD k 0) (p.getD ((l + r) / 2) 0) with
      | true =>
        dsimp only
        rw [if_pos rfl]
        refine good_place hp hk ha f l ((l + r) / 2) (by omega) (by omega) (by omega) h1 fun i hi hik => ?_
        by_cases e' : i = (l + r) / 2
        · rw [e']; exact c
        · exact tr _ _ _ c (ha _ _ (by omega) hik)
      | false =>
        dsimp only
        rw [if_neg Bool.false_ne_true]
        have c' : lt (p.getD ((l + r) / 2) 0) (p.getD k 0) = true := by
          rcases tot _ _ (hp.lo hn k) (hp.lo hn ((l + r) / 2)) (hp.ne (by omega) (by omega) (by omega)) with q | q
          · rw [c] at q; cases q
          · exact q
        refine good_place hp hk ha f ((l + r) / 2 + 1) r (by omega) hr (by omega) (fun i hi => ?_) h2
        by_cases e' : i = (l + r) / 2
        · rw [e']; exact c'
        · exact tr _ _ _ (ha i _ (by omega) (by omega)) c'
omit hn asym tr tot in
theorem PP.bub {p : Array Nat} (hp : PP n p) (i j : Nat) : PP n (bubble p i j) := ((bubble_perm p i j).toList).trans hp
omit hn asym tr tot in
theorem bub_get {p : Array Nat} (hp : PP n p) {k l i : Nat} (hk : k < n) (hl : l ≤ k) (hi : i < n) : (bubble p k (k - l)).getD i 0 = if i = l then p.getD k 0 else if l < i ∧ i ≤ k then p.getD (i - 1) 0 else p.getD i 0 := by
  have h := getElem?_bubble (xs := p) (src := k) (by rw [hp.size]; exact hk) (k - l) (by omega) i
  rw [show k - (k - l) = l by omega, (hp.bub k (k - l)).get hi] at h
  repeat' split at h
  · rename_i e; rw [if_pos e]; rw [hp.get hk] at h; exact Option.some.inj h
  · rename_i e e2; rw [if_neg e, if_pos e2]; rw [hp.get (by omega)] at h; exact Option.some.inj h
  · rename_i e e2; rw [if_neg e, if_neg e2]; rw [hp.get hi] at h; exact Option.some.inj h
theorem good_bin : ∀ (f k : Nat) {p : Array Nat}, PP n p → 1 ≤ k → k + f = n → Asc lt p k → Good n lt (fun q => PP n q ∧ Asc lt q n) (kas_bin f p k)
  | 0, k, p, hp, h1, hk, ha => ⟨hp, by rw [← hk]; exact ha⟩
  | f + 1, k, p, hp, h1, hk, ha => by
    unfold kas_bin
    refine Good.bind (Good.mono (fun l q => ?_) (good_place hn asym tr tot hp (by omega) ha k 0 k (Nat.zero_le _) (Nat.le_refl _) (by omega) (fun i hi => absurd hi (Nat.not_lt_zero _)) (fun i hi hi' => by omega)))
    obtain ⟨q1, q2, q3⟩ := q
    refine good_bin f (k + 1) (hp.bub _ _) (by omega) (by omega) fun i j hij hj => ?_
    rw [bub_get hp (by omega) q1 (by omega), bub_get hp (by omega) q1 (by omega)]
    by_cases a1 : i = l
    · rw [if_pos a1, if_neg (by omega), if_pos (by omega)]
      exact q3 _ (by omega) (by omega)
    · rw [if_neg a1]
      by_cases a2 : l < i ∧ i ≤ k
      · rw [if_pos a2, if_neg (by omega), if_pos (by omega)]
        exact ha _ _ (by omega) (by omega)
      · rw [if_neg a2]
        by_cases b1 : j = l
        · rw [if_pos b1]; exact q2 _ (by omega)
        · rw [if_neg b1]
          by_cases b2 : l < j ∧ j ≤ k
          · rw [if_pos b2]
            by_cases b3 : i = j - 1
            · omega
            · exact ha _ _ (by omega) (by omega)
          · rw [if_neg b2]; exact ha _ _ hij (by omega)
theorem good_sort (h2 : 2 ≤ n) : Good n lt (fun q => PP n q ∧ Asc lt q n) (kas_sort n) := by
  unfold kas_sort
  refine Good.bind (Good.mono (fun r q => ?_) (good_count hn asym tr tot (p := List.toArray (List.range n)) (List.Perm.refl _) h2))
  obtain ⟨q1, q2, q3, q4⟩ := q
  have e : max r.1 1 = r.1 := by omega
  by_cases c : r.1 < n
  · rw [if_pos c, e]
    exact good_bin hn asym tr tot _ _ q3 q1 (by omega) q4
  · rw [if_neg c]
    refine ⟨q3, ?_⟩
    rw [show n = r.1 by omega]; exact q4
end
end Mine
end
/-! text K2 -/
section
open PySem PySem.W PySem.Calls PyProof.Rows
set_option maxRecDepth 100000
namespace Mine
def ltb (a b : T3) : Bool := decide (a.1 < b.1) || (decide (a.1 = b.1) && (decide (a.2.1 < b.2.1) || (decide (a.2.1 = b.2.1) && decide (a.2.2 < b.2.2))))
theorem ltb_iff {a b : T3} : ltb a b = true ↔ lt3 a b := by
  unfold ltb lt3
  simp only [Bool.or_eq_true, Bool.and_eq_true, decide_eq_true_eq]
theorem lt3_tr {a b c : T3} (h : lt3 a b) (k : lt3 b c) : lt3 a c := by unfold lt3 at *; omega
theorem lt3_asym {a b : T3} (h : lt3 a b) (k : lt3 b a) : False := by unfold lt3 at *; omega
theorem lt3_tot {a b : T3} (h : a ≠ b) : lt3 a b ∨ lt3 b a := by
  obtain ⟨a1, a2, a3⟩ := a
  obtain ⟨b1, b2, b3⟩ := b
  unfold lt3
  dsimp only
  by_cases e : a1 = b1 ∧ a2 = b2 ∧ a3 = b3
  · obtain ⟨rfl, rfl, rfl⟩ := e; exact absurd rfl h
  · omega
theorem lt_tups {w : World} {A : Around} {E : Value → Shared → Prop} {s : Shared} {v u : Value} {t r : T3} {Q : Bool → Shared → Prop} (hv : Tup3 s.heap v t) (hu : Tup3 s.heap u r) (h : Q (ltb t r) s) : wpAny (model PW w) A (keyLt' (tuples' true) v u) Q E s := by
  obtain ⟨a, x1, x2, x3, rfl, o, e, c, n, d⟩ := hv
  obtain ⟨b, y1, y2, y3, rfl, o', e', c', n', d'⟩ := hu
  obtain ⟨t1, t2, t3⟩ := t
  obtain ⟨r1, r2, r3⟩ := r
  dsimp only at d d'
  refine kat_lt e d e' d' ?_
  show KatLex PW w A true (decide (3 < 3)) Q [(.int t1 x1, .int r1 y1), (.int t2 x2, .int r2 y2), (.int t3 x3, .int r3 y3)] 0 s
  refine kat_cons (wpAny_eqBool_int (kat_go (fun q => kat_yes ?_) fun q => kat_no ?_))
  · refine kat_cons (wpAny_eqBool_int (kat_go (fun q2 => kat_yes ?_) fun q2 => kat_no ?_))
    · refine kat_cons (wpAny_eqBool_int (kat_go (fun q3 => kat_yes ?_) fun q3 => kat_no ?_))
      · refine kat_nil ?_
        have e1 : ltb (t1, t2, t3) (r1, r2, r3) = decide (3 < 3) := by
          rw [Bool.eq_iff_iff, ltb_iff]; unfold lt3; simp at q q2 q3 ⊢; omega
        rw [← e1]; exact h
      · show wpAny _ _ (oneLt' false _ _) _ _ _
        refine kat_one _ _ (i_lt ?_)
        have e1 : ltb (t1, t2, t3) (r1, r2, r3) = decide ((t3 : Int) < r3) := by
          rw [Bool.eq_iff_iff, ltb_iff]; unfold lt3; simp at q q2 q3 ⊢; omega
        show Q (decide ((t3 : Int) < r3)) s
        rw [← e1]; exact h
    · show wpAny _ _ (oneLt' false _ _) _ _ _
      refine kat_one _ _ (i_lt ?_)
      have e1 : ltb (t1, t2, t3) (r1, r2, r3) = decide ((t2 : Int) < r2) := by
        rw [Bool.eq_iff_iff, ltb_iff]; unfold lt3; simp at q q2 ⊢; omega
      show Q (decide ((t2 : Int) < r2)) s
      rw [← e1]; exact h
  · show wpAny _ _ (oneLt' true _ _) _ _ _
    refine oneLt_int ?_
    have e1 : ltb (t1, t2, t3) (r1, r2, r3) = decide ((t1 : Int) < r1) := by
      rw [Bool.eq_iff_iff, ltb_iff]; unfold lt3; simp at q ⊢; omega
    rw [← e1]; exact h
theorem All2.getD {α β : Type} {R : α → β → Prop} {d : α} {e : β} : ∀ {as : List α} {bs : List β}, All2 R as bs → ∀ i, i < bs.length → R (as.getD i d) (bs.getD i e)
  | _, _, .nil, i, h => absurd h (Nat.not_lt_zero _)
  | _, _, .cons q _, 0, _ => q
  | _, _, .cons _ r, i + 1, h => r.getD i (by simpa using h)
theorem All2.mapI {α β ι : Type} {R : α → β → Prop} {f : ι → α} {g : ι → β} : ∀ {l : List ι}, (∀ i ∈ l, R (f i) (g i)) → All2 R (l.map f) (l.map g)
  | [], _ => .nil
  | i :: l, h => .cons (h i (.head _)) (All2.mapI fun j hj => h j (.tail _ hj))
theorem TupsAt.kat {g : Heap} : ∀ {vs : List Value} {T : List T3}, TupsAt g vs T → ∃ fs, fs.length = vs.length ∧ KatTups g vs fs ∧ ∀ v ∈ fs, ∃ i t, v = .int i t
  | _, _, .nil => ⟨[], rfl, KatTups.nil, fun v h => nomatch h⟩
  | _, _, .cons q r => by
    obtain ⟨fs, h1, h2, h3⟩ := TupsAt.kat r
    obtain ⟨a, x, y, z, rfl, o, e, c, n, d⟩ := q
    refine ⟨_ :: fs, by simp [h1], KatTups.cons e c d rfl h2, fun v hv => ?_⟩
    rcases List.mem_cons.mp hv with rfl | hv
    · exact ⟨_, _, rfl⟩
    · exact h3 v hv
theorem range_getD (T : List T3) : (List.range T.length).map (fun i => T.getD i (0, 0, 0)) = T := by
  apply List.ext_getElem?
  intro i
  rw [List.getElem?_map]
  by_cases h : i < T.length
  · simp [h]
  · simp [h]
theorem srt_map_perm {T : List T3} {p : Array Nat} (hp : PP T.length p) (ha : Asc (fun i j => ltb (T.getD i (0, 0, 0)) (T.getD j (0, 0, 0))) p T.length) : (p.toList.map fun i => T.getD i (0, 0, 0)).Perm T ∧ (p.toList.map fun i => T.getD i (0, 0, 0)).Pairwise lt3 := by
  constructor
  · have := hp.map fun i => T.getD i (0, 0, 0)
    rw [range_getD] at this
    exact this
  · rw [List.pairwise_map, List.pairwise_iff_getElem]
    intro i j hi hj hij
    have hs : p.toList.length = T.length := by rw [Array.length_toList, hp.size]
    have := ltb_iff.mp (ha i j hij (by omega))
    have gi : p.getD i 0 = p.toList[i] := by
      have := hp.get (i := i) (by omega)
      rw [← Array.getElem?_toList, List.getElem?_eq_getElem hi] at this
      exact (Option.some.inj this).symm
    have gj : p.getD j 0 = p.toList[j] := by
      have := hp.get (i := j) (by omega)
      rw [← Array.getElem?_toList, List.getElem?_eq_getElem hj] at this
      exact (Option.some.inj this).symm
    rw [gi, gj] at this
    exact this
def Srt (T : List T3) : Prop := T.Pairwise lt3
theorem list_sort_tups {w : World} {A : Around} {s : Shared} {a : Addr} {vs : List Value} {T : List T3} {n : Nat} {h0 : Heap} {P : PySem.Fin → Shared → Prop} (ho : s.heap.get? a = some (seqObj "list" vs.toArray n)) (hs : Sub h0 s.heap) (ha0 : h0.get? a = none) (hT : TupsAt h0 vs T) (hd : T.Nodup) (h64 : T.length < 64)
    (h : ∀ (out : List Value) (T' : List T3), TupsAt h0 out T' → T'.Perm T → Srt T' → P (.done (.ret .none)) { s with heap := sortedHeap s.heap a vs out.toArray }) :
    wpAny (model PW w) A (Builtin.«list.sort» ⟨[.ref a], []⟩) P (fun _ _ => False) s := by
  have hlen := hT.length
  rw [list_sort_plain]
  have ha : a < s.heap.objs.size := Heap.lt_size ho
  refine wpAny_bind (listItems_at ho rfl ?_)
  refine wpAny_bind (listUpdate_at ho rfl ?_ (by rw [List.size_toArray, sizeLine_eq]; omega) (Nat.zero_le _))
  obtain ⟨e1, ho1⟩ : ∃ e1, (s.heap.update a (Obj.mapSeq fun _ => #[])).get? a = some (seqObj "list" #[] e1) := ⟨_, get?_update_seq ho (fun _ => #[])⟩
  refine wpAny_bind (seqEpoch_at ho1 rfl ?_)
  refine wpAny_bind (wpAny_newTuple ?_ (by show vs.length ≤ _; rw [sizeLine_eq]; omega))
  refine wpAny_bind (wpAny_newList ?_ (Nat.zero_le _))
  refine wpAny_holding ?_
  have ho6 : (((s.heap.update a (Obj.mapSeq fun _ => #[])).push (seqObj "tuple" vs.toArray 0)).push (seqObj "list" #[] 0)).get? a = some (seqObj "list" #[] e1) := by
    rw [Heap.get?_push_ne _ _ _ (by rw [size_push', Heap.size_update]; exact Nat.ne_of_lt (Nat.lt_succ_of_lt ha)), Heap.get?_push_ne _ _ _ (by rw [Heap.size_update]; exact Nat.ne_of_lt ha)]
    exact ho1
  have hs6 : Sub h0 (((s.heap.update a (Obj.mapSeq fun _ => #[])).push (seqObj "tuple" vs.toArray 0)).push (seqObj "list" #[] 0)) := fun b o e => by
    have hne : b ≠ a := fun q => by subst q; rw [ha0] at e; cases e
    exact Heap.get?_push_of_some _ (Heap.get?_push_of_some _ (((Heap.SameBut.update s.heap a (Obj.mapSeq fun _ => #[])).2 b hne).trans (hs b o e)))
  show wpAny (model PW w) A _ P _ { s with heap := ((s.heap.update a (Obj.mapSeq fun _ => #[])).push (seqObj "tuple" vs.toArray 0)).push (seqObj "list" #[] 0) }
  dsimp only
  have hsz : vs.toArray.size = vs.length := by simp
  by_cases h2 : vs.toArray.size < 2
  · rw [if_pos h2, if_pos h2]
    refine wpAny_bind (wpAny_pure ?_)
    rw [StateT.run_pure]
    refine wpAny_bind (wpAny_pure ?_)
    dsimp only
    refine wpAny_bind (seqEpoch_at ho6 rfl ?_)
    have hout : (arrOf (SortSt.mk' general' (vs.toArray.zip vs.toArray) #[] 7 none)).map (·.2) = vs.toArray := by
      show (vs.toArray.zip vs.toArray).map (·.2) = vs.toArray
      apply Array.ext_getElem?
      intro i
      rw [Array.getElem?_map]
      by_cases q : i < vs.length
      · simp [q]
      · simp [q]
    rw [hout]
    refine wpAny_bind (listUpdate_at ho6 rfl ?_ (Nat.zero_le _) (by rw [List.size_toArray, sizeLine_eq]; omega))
    simp only [bne_self_eq_false, Bool.false_eq_true, if_false]
    refine wpAny_pure (h vs T hT (List.Perm.refl _) ?_)
    unfold Srt
    match T, hlen, h2 with
    | [], _, _ => exact .nil
    | [t], _, _ => exact List.pairwise_singleton _ _
    | _ :: _ :: _, hlen, h2 => simp at hlen; omega
  · rw [if_neg h2, if_neg h2]
    obtain ⟨fs, hf1, hf2, hf3⟩ := (hT.sub hs6).kat
    refine wpAny_bind (kat_kind (T := .type "int") hf2 (by omega) (fun v hv => by obtain ⟨i, t, rfl⟩ := hf3 v hv; exact Looks.of_pure rfl) rfl ?_)
    show wpAny (model PW w) A (do let ((), s) ← sortRuns'.run (SortSt.mk' (tuples' true) (vs.toArray.zip vs.toArray) #[] 7 none); _) _ _ _
    refine wpAny_bind (wpAny_mono (kat_run (ks := vs) (vs := vs) (κ := tuples' true) (G := fun p s' => s' = ({ s with heap := ((s.heap.update a (Obj.mapSeq fun _ => #[])).push (seqObj "tuple" vs.toArray 0)).push (seqObj "list" #[] 0) } : Shared) ∧ PP T.length p ∧ Asc (fun i j => ltb (T.getD i (0, 0, 0)) (T.getD j (0, 0, 0))) p T.length)
      (Q := fun st' s' => ∃ p : Array Nat, p.size = vs.length ∧ arrOf st' = p.map (kas_item (vs.toArray.zip vs.toArray)) ∧ failedOf st' = none ∧ s' = ({ s with heap := ((s.heap.update a (Obj.mapSeq fun _ => #[])).push (seqObj "tuple" vs.toArray 0)).push (seqObj "list" #[] 0) } : Shared) ∧ PP T.length p ∧ Asc (fun i j => ltb (T.getD i (0, 0, 0)) (T.getD j (0, 0, 0))) p T.length)
      rfl (by omega) (by omega) (fun p' st' s' a1 a2 a3 a4 => ⟨p', a1, a2, a3, a4⟩) ?_) ?_ fun _ _ e => e)
    · rw [hlen]
      refine Good.wp (n := T.length) (lt := fun i j => ltb (T.getD i (0, 0, 0)) (T.getD j (0, 0, 0))) (fun i j C hi hj hC => ?_) (fun p hp => ⟨rfl, hp⟩) (good_sort (by omega) (fun i j x y => lt3_asym (ltb_iff.mp x) (ltb_iff.mp y)) (fun i j k x y => ltb_iff.mpr (lt3_tr (ltb_iff.mp x) (ltb_iff.mp y))) (fun i j hi hj e => ?_) (by omega))
      · exact lt_tups ((hT.sub hs6).getD i hi) ((hT.sub hs6).getD j hj) hC
      · have hne : T.getD i (0, 0, 0) ≠ T.getD j (0, 0, 0) := fun q => e (by
          have e1 : T[i]? = T[j]? := by
            simp only [List.getD_eq_getElem?_getD, List.getElem?_eq_getElem hi, List.getElem?_eq_getElem hj, Option.getD_some] at q
            rw [List.getElem?_eq_getElem hi, List.getElem?_eq_getElem hj, q]
          exact (List.getElem?_inj hi hd).mp e1)
        rcases lt3_tot hne with x | x
        · exact .inl (ltb_iff.mpr x)
        · exact .inr (ltb_iff.mpr x)
    · rintro ⟨⟨⟩, st'⟩ s' ⟨p, hp, har, hf, rfl, hPP, hA⟩
      dsimp only
      have hout := kat_snds (ks := vs) (vs := vs) rfl har
      rw [hout]
      have hsz2 : (List.toArray (p.toList.map fun i => vs.getD i Value.none)).size = vs.length := by rw [List.size_toArray, List.length_map, Array.length_toList, hp]
      refine wpAny_bind (seqEpoch_at ho6 rfl ?_)
      refine wpAny_bind (listUpdate_at ho6 rfl ?_ (Nat.zero_le _) (Nat.le_trans (Nat.le_of_eq hsz2) (by rw [sizeLine_eq]; omega)))
      rw [hf]
      simp only [bne_self_eq_false, Bool.false_eq_true, if_false]
      obtain ⟨b1, b2⟩ := srt_map_perm hPP hA
      refine wpAny_pure (h _ _ (All2.mapI fun i hi => ?_) b1 b2)
      exact hT.getD i (List.mem_range.mp (hPP.mem_iff.mp hi))
theorem sorted_tups {w : World} {A : Around} {E : Value → Shared → Prop} {s : Shared} {l : Addr} {vs : List Value} {T : List T3} {Q : Value → Shared → Prop} {h0 : Heap} (hl : s.heap.IsList l vs.toArray) (h0s : Sub h0 s.heap) (hT : TupsAt h0 vs T) (hd : T.Nodup) (h64 : T.length < 64)
    (h : ∀ (out : List Value) (T' : List T3), TupsAt h0 out T' → T'.Perm T → Srt T' → Q (.ref (s.heap.objs.size + 1)) { s with heap := sortedAll s.heap vs out.toArray }) :
    wpAny (model PW w) A (call (.builtin "sorted") [.ref l]) Q E s := by
  have hlen := hT.length
  refine Calls.call_function_entry kind_sorted plain_sorted entry_sorted (args_sorted1 _) ?_
  unfold Builtin.«sorted»
  refine wpAny_bind (m := checkCount "sorted" 1 1 _) (wpAny_pure ?_)
  refine wpAny_bind (collect_list hl ?_ (by rw [sizeLine_eq]; omega))
  refine wpAny_bind (wpAny_newList ?_ (by rw [sizeLine_eq]; omega))
  have hsz : ((s.heap.push (seqObj "list" #[] 0)).update s.heap.objs.size (Obj.mapSeq (· ++ vs.toArray))).objs.size = s.heap.objs.size + 1 := by
    rw [Heap.size_update, size_push']
  have hoL : (((s.heap.push (seqObj "list" #[] 0)).update s.heap.objs.size (Obj.mapSeq (· ++ vs.toArray))).push (seqObj "list" vs.toArray 0)).get? (s.heap.objs.size + 1) = some (seqObj "list" vs.toArray 0) := by
    rw [← hsz]; exact Heap.get?_push_size _ rfl
  have keep : Sub s.heap (((s.heap.push (seqObj "list" #[] 0)).update s.heap.objs.size (Obj.mapSeq (· ++ vs.toArray))).push (seqObj "list" vs.toArray 0)) := fun b o q => by
    have hlt : b < s.heap.objs.size := Heap.lt_size q
    rw [Heap.get?_push_ne _ _ _ (by rw [hsz]; exact Nat.ne_of_lt (Nat.lt_succ_of_lt hlt)), Heap.get?_update_ne _ _ _ _ (Nat.ne_of_lt hlt), Heap.get?_push_ne _ _ _ (Nat.ne_of_lt hlt)]
    exact q
  show wpAny _ _ _ _ _ { s with heap := ((s.heap.push (seqObj "list" #[] 0)).update s.heap.objs.size (Obj.mapSeq (· ++ vs.toArray))).push (seqObj "list" vs.toArray 0) }
  rw [hsz]
  refine wpAny_bind (wpAny_holding (wpAny_call_entry slot_list_sort ⟨_, hoL, rfl⟩ entry_list_sort (wpAny_mono (list_sort_tups (s := { s with heap := ((s.heap.push (seqObj "list" #[] 0)).update s.heap.objs.size (Obj.mapSeq (· ++ vs.toArray))).push (seqObj "list" vs.toArray 0) }) (P := fun f s' => ∃ v, f = .done (.ret v) ∧ Q (.ref (s.heap.objs.size + 1)) s') hoL (h0s.trans keep) (by
    cases q : h0.get? (s.heap.objs.size + 1) with
    | none => rfl
    | some o => exact absurd (Heap.lt_size (h0s _ _ q)) (Nat.not_lt.mpr (Nat.le_succ _))) hT hd h64 fun out T' a1 a2 a3 => ⟨_, rfl, h out T' a1 a2 a3⟩) (fun f s' q => ?_) fun _ _ e => e.elim) (args_list_sort _)))
  obtain ⟨v, rfl, q⟩ := q
  exact ⟨_, rfl, wpAny_pure ⟨_, rfl, q⟩⟩
theorem sortedAll_keep {h : Heap} {vs : List Value} {out : Array Value} : Sub h (sortedAll h vs out) ∧ HasAt (sortedAll h vs out) (h.objs.size + 1) (oList out.toList) := by
  have hsz : ((h.push (seqObj "list" #[] 0)).update h.objs.size (Obj.mapSeq (· ++ vs.toArray))).objs.size = h.objs.size + 1 := by rw [Heap.size_update, size_push']
  have keep : Sub h (((h.push (seqObj "list" #[] 0)).update h.objs.size (Obj.mapSeq (· ++ vs.toArray))).push (seqObj "list" vs.toArray 0)) := fun b o q => by
    have hlt : b < h.objs.size := Heap.lt_size q
    rw [Heap.get?_push_ne _ _ _ (by rw [hsz]; exact Nat.ne_of_lt (Nat.lt_succ_of_lt hlt)), Heap.get?_update_ne _ _ _ _ (Nat.ne_of_lt hlt), Heap.get?_push_ne _ _ _ (Nat.ne_of_lt hlt)]
    exact q
  have hoL : (((h.push (seqObj "list" #[] 0)).update h.objs.size (Obj.mapSeq (· ++ vs.toArray))).push (seqObj "list" vs.toArray 0)).get? (h.objs.size + 1) = some (seqObj "list" vs.toArray 0) := by
    rw [← hsz]; exact Heap.get?_push_size _ rfl
  unfold sortedAll sortedHeap
  generalize (((h.push (seqObj "list" #[] 0)).update h.objs.size (Obj.mapSeq (· ++ vs.toArray))).push (seqObj "list" vs.toArray 0)) = h1 at keep hoL
  obtain ⟨e1, ho1⟩ : ∃ e1, (h1.update (h.objs.size + 1) (Obj.mapSeq fun _ => #[])).get? (h.objs.size + 1) = some (seqObj "list" #[] e1) := ⟨_, get?_update_seq hoL (fun _ => #[])⟩
  have ho2 : (((h1.update (h.objs.size + 1) (Obj.mapSeq fun _ => #[])).push (seqObj "tuple" vs.toArray 0)).push (seqObj "list" #[] 0)).get? (h.objs.size + 1) = some (seqObj "list" #[] e1) := Heap.get?_push_of_some _ (Heap.get?_push_of_some _ ho1)
  obtain ⟨e2, ho3⟩ : ∃ e2, ((((h1.update (h.objs.size + 1) (Obj.mapSeq fun _ => #[])).push (seqObj "tuple" vs.toArray 0)).push (seqObj "list" #[] 0)).update (h.objs.size + 1) (Obj.mapSeq fun _ => out)).get? (h.objs.size + 1) = some (seqObj "list" out e2) := ⟨_, get?_update_seq ho2 (fun _ => out)⟩
  refine ⟨fun b o q => ?_, _, ho3, e2, by simp⟩
  have hne : b ≠ h.objs.size + 1 := Nat.ne_of_lt (Nat.lt_succ_of_lt (Heap.lt_size q))
  rw [Heap.get?_update_ne _ _ _ _ hne]
  refine Heap.get?_push_of_some _ (Heap.get?_push_of_some _ ?_)
  rw [Heap.get?_update_ne _ _ _ _ hne]
  exact keep b o q
theorem b_sorted {w : World} {A : Around} {E : Value → Shared → Prop} {g : Heap} {p : Ent} {ms : List Ent} {s₀ s : Shared} {a : Addr} {vs : List Value} {T : List T3} {Q : Value → Shared → Prop} (H : Ok g (p :: ms) s₀ s) (r : Rd g (p :: ms) a (oList vs)) (hT : TupsAt g vs T) (hd : T.Nodup) (hz : T.length < 64) (hu : A.units < 9000)
    (k : ∀ a' g' vs' T' s', Sub g g' → HasAt g' a' (oList vs') → TupsAt g' vs' T' → T'.Perm T → Srt T' → Ok g' (p :: ms) s₀ s' → Q (.ref a') s') : wpAny (model PW w) A (call (.builtin "sorted") [.ref a]) Q E s := by
  refine sorted_tups (H.rd r).list H.keep hT hd hz fun out T' a1 a2 a3 => ?_
  obtain ⟨b1, b2⟩ := sortedAll_keep (h := s.heap) (vs := vs) (out := out.toArray)
  have H2 : Ok g (p :: ms) s₀ { s with heap := sortedAll s.heap vs out.toArray } := H.ext b1 rfl rfl
  have hnm : s.heap.objs.size + 1 ∉ (p :: ms).map (·.1) := fun hm => by
    obtain ⟨q, hq, e⟩ := List.mem_map.mp hm
    have := H.lt hq
    rw [e] at this
    exact absurd this (Nat.not_lt.mpr (Nat.le_succ _))
  rw [List.toList_toArray] at b2
  exact k _ _ out T' _ H2.gsub (gnd_has b2 hnm) (a1.sub H2.gsub) a2 a3 H2.freeze
end Mine
end
/-! text M6 -/
section
open PySem PySem.W PySem.Calls PyProof.Rows
set_option maxRecDepth 100000
namespace Mine

section
variable {g : Heap} {ms : List Ent} {s₀ s : Shared}
/-- an entry goes: its object may have turned into anything -/
theorem Ok.eraseX {a : Addr} {P : Obj → Prop} {h' : Heap} {t : Nat} (j : Nat) (H : Ok g ms s₀ s) (hj : ms[j]? = some (a, P)) (hx : Heap.ExtBut a s.heap h') (ht : s.toks ≤ t := by first | exact Nat.le_refl _ | exact Nat.le_succ _ | exact Nat.le_add_right _ 2 | exact Nat.le_add_right _ _ | omega) : Ok g (ms.eraseIdx j) s₀ { s with heap := h', toks := t } := by
  have H₂ : Ok g (ms.eraseIdx j) s₀ s := H.sub (List.eraseIdx_sublist _ _)
  have hne : ∀ p ∈ ms.eraseIdx j, p.1 ≠ a := by
    intro p hp
    obtain ⟨i, hi⟩ := List.mem_iff_getElem?.mp hp
    rw [List.getElem?_eraseIdx] at hi
    split at hi
    · rename_i q
      exact nodup_ne H.nd hi hj (Nat.ne_of_lt q)
    · rename_i q
      exact nodup_ne H.nd hi hj (by omega)
  refine ⟨fun b o e => hx b o (fun q => ?_) (H₂.keep b o e), fun p hp => ?_, H₂.nd, H₂.new, H₂.gens, H₂.os, Nat.le_trans H₂.tm ht⟩
  · have := H.new (a, P) (List.mem_of_getElem? hj)
    subst q; rw [e] at this; cases this
  · obtain ⟨o, e, q⟩ := H₂.at_ p hp
    exact ⟨o, hx _ _ (hne p hp) e, q⟩
theorem Rd.up {a : Addr} {P : Obj → Prop} {p : Ent} (h : Rd g ms a P) : Rd g (p :: ms) a P := h.elim (fun h => .inl (.tail _ h)) .inr
end

/-! ## iterators -/
structure ItK (it : Addr) (n : Nat) (IO : Nat → Obj → Prop) (val : Nat → Value → Prop) (rdy : Heap → List Ent → Prop) : Prop where
  up : ∀ g ms p, rdy g ms → rdy g (p :: ms)
  next : ∀ {w : World} {A : Around} {E : Value → Shared → Prop} {g : Heap} {ms : List Ent} {s₀ s : Shared} {Q : Option Value → Shared → Prop} (i j : Nat), i < n → Ok g ms s₀ s → rdy g ms → ms[j]? = some (it, IO i) →
    (∀ v s', val i v → Ok g (ms.set j (it, IO (i + 1))) s₀ s' → Q (some v) s') → wpAny (model PW w) A (pyNext (.ref it)) Q E s
  fin : ∀ {w : World} {A : Around} {E : Value → Shared → Prop} {g : Heap} {ms : List Ent} {s₀ s : Shared} {Q : Option Value → Shared → Prop} (j : Nat), A.handled = none → Ok g ms s₀ s → rdy g ms → ms[j]? = some (it, IO n) →
    (∀ s', Ok g (ms.eraseIdx j) s₀ s' → Q none s') → wpAny (model PW w) A (pyNext (.ref it)) Q E s
  self : ∀ {w : World} {A : Around} {E : Value → Shared → Prop} {g : Heap} {ms : List Ent} {s₀ s : Shared} {Q : Value → Shared → Prop} (i j : Nat), Ok g ms s₀ s → ms[j]? = some (it, IO i) → Q (.ref it) s → wpAny (model PW w) A (pyIter (.ref it)) Q E s

theorem itk_range (it : Addr) (a : Int) (n : Nat) : ItK it n (fun i => oIs (itO (a + i) ((n : Int) - i))) (fun i v => ∃ t, v = .int (a + i) t) (fun _ _ => True) where
  up _ _ _ _ := trivial
  next {w A E g ms s₀ s Q} i j hi H _ hj k := by
    have hit : IsRangeIter s.heap it (a + i) ((n : Int) - i) 1 := oIs_get (H.at_ _ (List.mem_of_getElem? hj))
    refine wpAny_pyNext_range_item hit (by omega) fun h₁ hit₁ hs₁ => k _ _ ⟨_, rfl⟩ (H.upd j hj hs₁ ⟨_, hit₁, ?_⟩)
    show _ = _
    unfold itO
    congr 4
    · congr 1; push_cast; omega
    · congr 2; push_cast; omega
  fin {w A E g ms s₀ s Q} j hh H _ hj k := by
    have hit : IsRangeIter s.heap it (a + n) ((n : Int) - n) 1 := oIs_get (H.at_ _ (List.mem_of_getElem? hj))
    exact wpAny_pyNext_range_end hh hit (by omega) fun h₁ he₁ => k _ (H.eraseX (t := s.toks) j hj he₁)
  self {w A E g ms s₀ s Q} i j H hj h := by
    have hit : IsRangeIter s.heap it (a + i) ((n : Int) - i) 1 := oIs_get (H.at_ _ (List.mem_of_getElem? hj))
    exact wpAny_pyIter_rangeiter hit h

theorem itk_list (it l : Addr) (vs : List Value) : ItK it vs.length (fun i => oLit l i) (fun i v => vs[i]? = some v) (fun g ms => Rd g ms l (oList vs)) where
  up _ _ _ h := h.up
  next {w A E g ms s₀ s Q} i j hi H hr hj k := by
    have hit := (H.at_ _ (List.mem_of_getElem? hj)).lit
    exact wpAny_pyNext_list_item hit (H.rd hr).list (x := vs[i]) (by simp [hi]) fun h₁ hit₁ hs₁ => k _ _ (by simp [hi]) (H.upd (t := s.toks) j hj hs₁ (HasAt.ofLit hit₁))
  fin {w A E g ms s₀ s Q} j hh H hr hj k := by
    have hit := (H.at_ _ (List.mem_of_getElem? hj)).lit
    exact wpAny_pyNext_list_end hh hit (H.rd hr).list (by simp) fun h₁ he₁ => k _ (H.eraseX (t := s.toks) j hj he₁)
  self {w A E g ms s₀ s Q} i j H hj h := wpAny_pyIter_listiter (H.at_ _ (List.mem_of_getElem? hj)).lit h

section
variable {w : World} {A : Around} {E : Value → Shared → Prop} {g : Heap} {ms : List Ent} {s₀ s : Shared} {env : Env} {L : Addr} {m : Str → Option Value}
theorem p_list {l : Addr} {vs : List Value} {Q : Value → Shared → Prop} (H : Ok g ms s₀ s) (hr : Rd g ms l (oList vs)) (k : ∀ it s', Ok g ((it, oLit l 0) :: ms) s₀ s' → Q (.ref it) s') : wpAny (model PW w) A (pyIter (.ref l)) Q E s :=
  wpAny_pyIter_list (H.rd hr).list (k _ _ (H.push (P := oLit l 0) (t := s.toks) ⟨rfl, rfl⟩ rfl))
theorem p_rangeI {r : Addr} {a b : Int} {t u v : Tok} {n : Nat} {Q : Value → Shared → Prop} (H : Ok g ms s₀ s) (hr : IsRange s.heap r a b 1 t u v) (ha : -(2 ^ 62) ≤ a) (ha' : a < 2 ^ 62) (hb : -(2 ^ 62) ≤ b) (hb' : b < 2 ^ 62)
    (hn : Builtin.Range.rangeSize a b 1 = n) (k : ∀ it s', Ok g ((it, oIs (itO (a + (0 : Nat)) ((n : Int) - (0 : Nat)))) :: ms) s₀ s' → Q (.ref it) s') : wpAny (model PW w) A (pyIter (.ref r)) Q E s := by
  refine wpAny_pyIter_range hr (small_one ha ha' hb hb') ?_
  rw [hn]
  refine k _ _ (H.push (t := s.toks) (o := itO a n) ?_ rfl)
  show itO a n = itO (a + (0 : Nat)) ((n : Int) - (0 : Nat))
  congr 1 <;> omega

/-! ## comprehensions with one clause and no test -/
theorem comp_walk {elt iter : Expr} {x : Str} {px pos : Pos} {scope : Scope} {cl : List (Str × Addr)} {it : Addr} {n : Nat} {IO : Nat → Obj → Prop} {val : Nat → Value → Prop} {rdy : Heap → List Ent → Prop} {use : Option (Value → Sem Unit)} {Q : Value → Shared → Prop}
    (K : ItK it n IO val rdy) (hh : A.handled = none) (hn : n ≤ 1000) (hcell : ∀ y ∈ scope.names, y.2 ≠ .cell) (hkind : scope.kind = .function) (hx : scope.names.lookup x = some .local)
    (J : Nat → Heap → List Value → List Ent → Prop) (hJ : ∀ i g ys ms, J i g ys ms → rdy g ms ∧ ys.length = i)
    (turn : ∀ (i : Nat) g ys ms (C acc : Addr) mC s v, i < n → J i g ys ms → val i v → mC x = some v → Ok g ((C, oNs mC) :: (acc, oList ys) :: (it, IO (i + 1)) :: ms) s₀ s →
      wpAny (model PW w) A (eval elt (compEnvC scope cl C env)) (fun y s' => ∃ g' ms', J (i + 1) g' (ys ++ [y]) ms' ∧ Ok g' ((C, oNs mC) :: (acc, oList ys) :: (it, IO (i + 1)) :: ms') s₀ s') (fun _ _ => False) s)
    (fin : ∀ g ys ms (C acc : Addr) mC s, J n g ys ms → Ok g ((C, oNs mC) :: (acc, oList ys) :: ms) s₀ s → compPost (model PW w) A E use Q (.ref acc) C (.ok .next) s)
    (h : J 0 g [] ms) (H : Ok g ((it, IO 0) :: ms) s₀ s) :
    wpAny (model PW w) A (newList []) (fun acc s₃ => wpAny (model PW w) A (newFunctionEnv scope env.globals cl [] env.qual none .none (some env)) (fun cenv s₄ =>
      codeAny (model PW w) A (.compStart (.ListComp elt [⟨.Name x px, iter, [], 0⟩] scope pos) 0 (.ref it) acc { cenv with scope := relabel scope env }) (compPost (model PW w) A E use Q acc cenv.locals) s₄) E s₃) E s := by
  refine wpAny_newObj_type ?_
  have H1 := H.push (o := { cls := .type "list", data := .seq ([] : List Value).toArray }) (P := oList []) (t := s.toks) ⟨0, rfl⟩ rfl
  generalize ha : s.heap.objs.size = acc at H1 ⊢
  revert H1
  show Ok g ((acc, oList []) :: (it, IO 0) :: ms) s₀ { s with heap := s.heap.push _ } → wpAny _ _ _ _ _ { s with heap := s.heap.push _ }
  generalize ({ s with heap := s.heap.push { cls := .type "list", data := .seq ([] : List Value).toArray } } : Shared) = s1
  intro H1
  refine wpAny_newFunctionEnv hcell (by intro y hy; simp at hy) (fun h₁ hns₁ hsb₁ => ?_) hkind
  have H2 : Ok g ((s1.heap.objs.size, oNs fun x => ([] : List (Str × Value)).reverse.lookup x) :: (acc, oList []) :: (it, IO 0) :: ms) s₀ { s1 with heap := h₁, toks := s1.toks + ([] : List (Str × Value)).length } := by
    have H3 := H1.push (o := { cls := .type "dict", data := .dict #[] }) (P := fun _ => True) (t := s1.toks) trivial rfl
    exact (H3.upd (t := s1.toks) 0 rfl hsb₁ (HasAt.ofNs hns₁))
  generalize s1.heap.objs.size = C at H2 ⊢
  generalize ({ s1 with heap := h₁, toks := s1.toks + ([] : List (Str × Value)).length } : Shared) = s2 at H2 ⊢
  have hxl : (compEnvC scope cl C env).kindOf x = some .local := lookup_relabel_local hx
  have hkl : (compEnvC scope cl C env).scope.kind = .function := by simp [compEnvC, relabel, hkind]
  have loop : codeAny (model PW w) A (.compLoop (.ListComp elt [⟨.Name x px, iter, [], 0⟩] scope pos) 0 (.ref it) (.ref acc) (compEnvC scope cl C env)) (compPost (model PW w) A E use Q (.ref acc) C) s2 := by
    refine codeAny_compLoop_list (fun k s' => ∃ i g ys ms mC, i ≤ n ∧ k = n + 1 - i ∧ J i g ys ms ∧ Ok g ((C, oNs mC) :: (acc, oList ys) :: (it, IO i) :: ms) s₀ s') ?_ (n + 1) ⟨0, g, [], ms, _, Nat.zero_le _, rfl, h, H2⟩
    rintro k s' ⟨i, g, ys, ms, mC, hi, rfl, hj, H⟩
    obtain ⟨hr, hl⟩ := hJ _ _ _ _ hj
    have hr' := K.up _ _ (C, oNs mC) (K.up _ _ (acc, oList ys) (K.up _ _ (it, IO i) hr))
    by_cases hlt : i < n
    · refine K.next i 2 hlt H hr' rfl fun v s1 hv H1 => ?_
      refine wpAny_assign_Name (s_loc H1 hkl hxl rfl fun s2 H2 => ?_)
      refine wpAny_mono (turn i g ys ms C acc _ s2 v hlt hj hv upd_eq H2) (fun y s3 q => ?_) fun _ _ e => e.elim
      obtain ⟨g', ms', hj', H3⟩ := q
      refine b_app 1 H3 rfl (by omega) fun s4 H4 => ?_
      exact ⟨n + 1 - (i + 1), by omega, i + 1, g', ys ++ [y], ms', _, by omega, rfl, hj', H4⟩
    · obtain rfl : i = n := by omega
      exact K.fin 2 hh H hr' rfl fun s1 H1 => fin g ys ms C acc mC s1 hj H1
  exact codeAny_compStart_list loop (K.self 0 2 H2 rfl loop)

/-- as a value -/
theorem e_comp {elt iter : Expr} {x : Str} {px pos : Pos} {scope : Scope} {cl : List (Str × Addr)} {Q : Value → Shared → Prop}
    (hs : ∀ x, foldedSetIterable iter env x = pure x) (hclos : closureFor scope env = pure cl) (hkind : scope.kind = .function) (hnames : ∀ x ∈ scope.names, x.2 = .local → scope.names.lookup x.1 = some .local)
    (h : wpAny (model PW w) A (eval iter env) (fun xv s₁ => wpAny (model PW w) A (pyIter xv) (fun it s₂ =>
      wpAny (model PW w) A (newList []) (fun acc s₃ => wpAny (model PW w) A (newFunctionEnv scope env.globals cl [] env.qual none .none (some env)) (fun cenv s₄ =>
      codeAny (model PW w) A (.compStart (.ListComp elt [⟨.Name x px, iter, [], 0⟩] scope pos) 0 it acc { cenv with scope := relabel scope env }) (compPost (model PW w) A E none Q acc cenv.locals) s₄) E s₃) E s₂) E s₁) E s) :
    wpAny (model PW w) A (eval (.ListComp elt [⟨.Name x px, iter, [], 0⟩] scope pos) env) Q E s := by
  rw [eval_ListComp]
  exact wpAny_comprehension_free (use := none) rfl hs hclos hkind hnames h
theorem compPost_val {g : Heap} {ys : List Value} {ms : List Ent} {C acc : Addr} {mC : Str → Option Value} {Q : Value → Shared → Prop} (H : Ok g ((C, oNs mC) :: (acc, oList ys) :: ms) s₀ s) (k : ∀ s', Ok g ((acc, oList ys) :: ms) s₀ s' → Q (.ref acc) s') :
    compPost (model PW w) A E none Q (.ref acc) C (.ok .next) s := by
  refine ⟨mC, (H.at_ _ (.head _)).ns, fun h' hs => k _ ?_⟩
  exact H.eraseX (t := s.toks) 0 rfl hs.extBut
end
end Mine
end
/-! text M7 -/
section
open PySem PySem.W PySem.Calls PyProof.Rows
set_option maxRecDepth 100000
namespace Mine
section
variable {w : World} {A : Around} {E : Value → Shared → Prop} {g : Heap} {ms : List Ent} {s₀ s : Shared} {env : Env} {pos : Pos} {L : Addr} {m : Str → Option Value} {a b : Int} {t u : Tok}
theorem i_divS {Q : Value → Shared → Prop} (H : Ok g ms s₀ s) (h0 : 0 < b) (hb : b < 1073741824) (k : ∀ t' s', Ok g ms s₀ s' → Q (.int (a / b) t') s') : wpAny (model PW w) A (binaryOp .FloorDiv (.int a t) (.int b u)) Q E s :=
  i_div H h0 (PyProof.noPylong_small (by omega)) k
theorem i_pow {Q : Value → Shared → Prop} (H : Ok g ms s₀ s) (ha : 2 ≤ a) (ha' : a < 1099511627776) (h0 : 0 < b) (hb : b < 10000) (k : ∀ t' s', Ok g ms s₀ s' → Q (.int (a ^ b.toNat) t') s') : wpAny (model PW w) A (binaryOp .Pow (.int a t) (.int b u)) Q E s := by
  have e : a.natAbs.log2 < 40 := (Nat.log2_lt (by omega)).mpr (by omega)
  have hbits : Builtin.Int.intBits a ≤ 40 := by
    unfold Builtin.Int.intBits
    split
    · omega
    · omega
  have hm : ((Builtin.Int.intBits a : Nat) : Int) * b ≤ 40 * 10000 := Int.mul_le_mul (by omega) (by omega) (by omega) (by omega)
  refine PySem.AutoIntOps.pow_4 (by omega) (by simp; omega) (by simp; omega) (by simp; omega) ?_ (k _ _ H.tk)
  unfold Builtin.Int.intTooBig
  simp only [decide_eq_true_eq, gt_iff_lt, Int.not_lt]
  refine Int.le_trans hm ?_
  decide +kernel
theorem e_and2 {x y : Expr} {Q : Value → Shared → Prop} (h : wpAny (model PW w) A (eval x env) (fun v s₁ => wpAny (model PW w) A (truthy v) (fun c s₂ => if c = true then wpAny (model PW w) A (eval y env) Q E s₂ else Q v s₂) E s₁) E s) :
    wpAny (model PW w) A (eval (.BoolOp .And [x, y] pos) env) Q E s := PyProof.Rows.BoolOp_and (wpAny_mono h (fun v s₁ q => wpAny_mono q (fun c s₂ r => by cases c <;> exact r) fun _ _ e => e) fun _ _ e => e)
theorem t_name {x : PySem.Str} {whole : Sem Value} {Q : Bool → Shared → Prop} (h : wpAny (model PW w) A whole (fun v s₁ => wpAny (model PW w) A (truthy v) Q E s₁) E s) : wpAny (model PW w) A (isTrue (.Name x pos) env whole) Q E s :=
  isTrue_plain h
theorem e_slice {lower upper : Option Expr} {Q : Value → Shared → Prop}
    (h : wpAny (model PW w) A (evalPart lower env) (fun l s₁ => wpAny (model PW w) A (evalPart upper env) (fun u s₂ =>
      Q (.ref s₂.heap.objs.size) { s₂ with heap := s₂.heap.push { cls := .type "slice", data := .fields #[l, u, .none] } }) E s₁) E s) :
    wpAny (model PW w) A (eval (.Slice lower upper none pos) env) Q E s :=
  wpAny_Slice (wpAny_mono h (fun l s₁ h₁ => wpAny_mono h₁ (fun u s₂ h₂ => by rw [evalPart_none]; exact wpAny_pure h₂) fun _ _ x => x) fun _ _ x => x)
theorem v_none {Q : Value → Shared → Prop} (h : Q .none s) : wpAny (model PW w) A (evalPart none env) Q E s := by rw [evalPart_none]; exact wpAny_pure h
theorem v_some {e : Expr} {Q : Value → Shared → Prop} (h : wpAny (model PW w) A (eval e env) Q E s) : wpAny (model PW w) A (evalPart (some e) env) Q E s := by rw [evalPart_some]; exact h
theorem Ok.sl (H : Ok g ms s₀ s) {l u : Value} : Ok g ms s₀ { s with heap := s.heap.push { cls := .type "slice", data := .fields #[l, u, .none] } } := H.ext (Sub.push _ _) rfl rfl

/-- `xs[a:]` of a list: a new list that nobody changes -/
theorem l_from {value slice : Expr} {c sl : Addr} {vs : List Value} {n : Nat} {ut : Tok} {Q : Value → Shared → Prop} (H : Ok g ms s₀ s) (r : Rd g ms c (oList vs)) (hs : s.heap.IsSliceOf sl (.int (n : Nat) ut) .none .none) (hz : vs.length < 100000)
    (k : ∀ a' g' s', Sub g g' → HasAt g' a' (oList (vs.drop n)) → Ok g' ms s₀ s' → Q (.ref a') s')
    (hsub : subscripted slice false (.ref c) (.ref sl) = operate [.ref sl, .ref c] (getItem (.ref c) (.ref sl)) := by with_unfolding_all rfl) : wpAny (model PW w) A (subscriptTail value slice (.ref c) (.ref sl)) Q E s := by
  have hL := (H.rd r).list
  refine tail_any hL.typeIs slot_list_getitem.lookup (wpAny_getItem_list_slice hL hs (.int _ _) .none .none (by simp) ?_ (by rw [List.size_toArray, sizeLine_eq]; omega)) hsub
  have H₁ := H.push (o := { cls := .type "list", data := .seq (slicePick vs.toArray (some (n : Int)) none none) }) (P := oList (vs.drop n)) (t := s.toks) ⟨0, by rw [slicePick_from']⟩ rfl
  have H₂ := H₁.drop1
  exact k _ _ _ H₂.gsub (gnd_has (H₁.at_ _ (.head _)) (by have := H₁.nd; rw [List.map_cons] at this; exact (List.nodup_cons.mp this).1)) H₂.freeze

/-- `one[:2]` of a triple -/
theorem t_two {value slice : Expr} {c sl : Addr} {v1 v2 v3 : Value} {ut : Tok} {Q : Value → Shared → Prop} (H : Ok g ms s₀ s) (r : HasAt s.heap c (oTup [v1, v2, v3])) (hs : s.heap.IsSliceOf sl .none (.int 2 ut) .none)
    (k : ∀ a' g' s', Sub g g' → HasAt g' a' (oTup [v1, v2]) → Ok g' ms s₀ s' → Q (.ref a') s')
    (hsub : subscripted slice false (.ref c) (.ref sl) = operate [.ref sl, .ref c] (getItem (.ref c) (.ref sl)) := by with_unfolding_all rfl) : wpAny (model PW w) A (subscriptTail value slice (.ref c) (.ref sl)) Q E s := by
  have ht := r.tup
  refine tail_any ht.typeIs slot_tuple_getitem.lookup ?_ hsub
  have h : Q (.ref s.heap.objs.size) { s with heap := s.heap.push { cls := .type "tuple", data := .seq #[v1, v2] } } := by
    have H₁ := H.push (o := { cls := .type "tuple", data := .seq #[v1, v2] }) (P := oTup [v1, v2]) (t := s.toks) ⟨rfl, _, rfl⟩ rfl
    have H₂ := H₁.drop1
    exact k _ _ _ H₂.gsub (gnd_has (H₁.at_ _ (.head _)) (by have := H₁.nd; rw [List.map_cons] at this; exact (List.nodup_cons.mp this).1)) H₂.freeze
  obtain ⟨os, hos, hcs, hds⟩ := id hs
  have hTs : s.TypeIs (.ref sl) "slice" := ⟨os, hos, hcs⟩
  have hsl : ∀ {B : Around} {E' : Value → Shared → Prop} {Q' : Int × Int × Nat → Shared → Prop}, Q' (0, 1, 2) s → wpAny (model PW w) B (Builtin.Slice.sliceApplied (.ref sl) (pure (3 : Int))) Q' E' s := by
    intro B E' Q' hq
    unfold Builtin.Slice.sliceApplied Builtin.Slice.sliceFields
    refine wpAny_bind (wpAny_bind (wpAny_field hos hds (x := .none) rfl (wpAny_bind (wpAny_field hos hds (x := .int 2 ut) rfl (wpAny_bind (wpAny_field hos hds (x := .none) rfl (wpAny_pure ?_)))))))
    refine wpAny_bind (slicePart_none ?_)
    show wpAny _ _ (if ((1 : Int) == 0) = true then _ else _) _ _ s
    rw [if_neg (by decide)]
    refine wpAny_bind (slicePart_none (wpAny_bind (slicePart_int (wpAny_bind (wpAny_pure ?_)))))
    exact wpAny_pure hq
  unfold getItem
  try with_reducible refine wpAny_holding ?_
  first | refine wpAny_bind (wpAny_pure ?_) | skip
  refine wpAny_bind (wpAny_sequenceKey ht.typeIs (by decide) ?_)
  refine wpAny_bind (wpAny_callSpecial?_slot (name := Str.ofString "__getitem__") ht.typeIs slot_tuple_getitem
    (wpAny_call_entry slot_tuple_getitem ht.typeIs entry_tuple_getitem ?_ (args_tuple_getitem _ _)))
  show wpAny _ _ (Builtin.Tuple.tupleItemsOf (.ref c) >>= _) _ _ s
  refine wpAny_bind (tupleItemsOf_ ht ?_)
  refine wpAny_bind (wpAny_typeOf hTs ?_)
  rw [if_pos (by decide)]
  refine wpAny_bind (hsl ?_)
  first
    | exact wpAny_bind (m := Builtin.Tuple.tupleExact _) (wpAny_newObj_type (wpAny_pure ⟨_, rfl, wpAny_pure h⟩) (by show (2 : Nat) ≤ sizeLine; rw [sizeLine_eq]; omega))
    | exact wpAny_bind (wpAny_bind (m := Builtin.Tuple.tupleExact _) (wpAny_newObj_type (wpAny_pure ⟨_, rfl, wpAny_pure h⟩) (by show (2 : Nat) ≤ sizeLine; rw [sizeLine_eq]; omega)))
    | exact wpAny_bind (wpAny_bind (m := Builtin.Tuple.tupleExact _) (wpAny_newObj_type (wpAny_pure (wpAny_pure ⟨_, rfl, wpAny_pure h⟩)) (by show (2 : Nat) ≤ sizeLine; rw [sizeLine_eq]; omega)))
end

/-- a comprehension that changes nothing but what it makes -/
theorem comp_walkF {w : World} {A : Around} {E : Value → Shared → Prop} {g : Heap} {ms : List Ent} {s₀ s : Shared} {env : Env} {elt iter : Expr} {x : PySem.Str} {px pos : Pos} {scope : Scope} {cl : List (PySem.Str × Addr)} {it : Addr} {n : Nat} {IO : Nat → Obj → Prop} {val : Nat → Value → Prop} {rdy : Heap → List Ent → Prop} {use : Option (Value → Sem Unit)} {Q : Value → Shared → Prop}
    (K : ItK it n IO val rdy) (H : Ok g ((it, IO 0) :: ms) s₀ s) (hh : A.handled = none) (hn : n ≤ 1000) (hcell : ∀ y ∈ scope.names, y.2 ≠ .cell) (hkind : scope.kind = .function) (hx : scope.names.lookup x = some .local)
    (J : Nat → Heap → List Value → Prop) (hJ : ∀ i g ys, J i g ys → rdy g ms ∧ ys.length = i) (h : J 0 g [])
    (turn : ∀ (i : Nat) g ys (C acc : Addr) mC s v, i < n → J i g ys → val i v → mC x = some v → Ok g ((C, oNs mC) :: (acc, oList ys) :: (it, IO (i + 1)) :: ms) s₀ s →
      wpAny (model PW w) A (eval elt (compEnvC scope cl C env)) (fun y s' => ∃ g', J (i + 1) g' (ys ++ [y]) ∧ Ok g' ((C, oNs mC) :: (acc, oList ys) :: (it, IO (i + 1)) :: ms) s₀ s') (fun _ _ => False) s)
    (fin : ∀ g ys (C acc : Addr) mC s, J n g ys → Ok g ((C, oNs mC) :: (acc, oList ys) :: ms) s₀ s → compPost (model PW w) A E use Q (.ref acc) C (.ok .next) s) :
    wpAny (model PW w) A (newList []) (fun acc s₃ => wpAny (model PW w) A (newFunctionEnv scope env.globals cl [] env.qual none .none (some env)) (fun cenv s₄ =>
      codeAny (model PW w) A (.compStart (.ListComp elt [⟨.Name x px, iter, [], 0⟩] scope pos) 0 (.ref it) acc { cenv with scope := relabel scope env }) (compPost (model PW w) A E use Q acc cenv.locals) s₄) E s₃) E s := by
  refine comp_walk K hh hn hcell hkind hx (J := fun i g ys ms' => ms' = ms ∧ J i g ys) (fun i g ys ms' ⟨e, q⟩ => by subst e; exact hJ i g ys q) ?_ ?_ ⟨rfl, h⟩ H
  · rintro i g ys ms' C acc mC s v hi ⟨rfl, q⟩ hv hm H'
    exact wpAny_mono (turn i g ys C acc mC s v hi q hv hm H') (fun y s' ⟨g', q', H''⟩ => ⟨g', _, ⟨rfl, q'⟩, H''⟩) fun _ _ e => e
  · rintro g ys ms' C acc mC s ⟨rfl, q⟩ H'
    exact fin g ys C acc mC s q H'

/-! ## pairs -/
def Tup2 (g : Heap) (v : Value) (t : Nat × Nat) : Prop := ∃ a x y, v = .ref a ∧ HasAt g a (oTup [.int t.1 x, .int t.2 y])
def PairsAt (g : Heap) (vs : List Value) (T : List (Nat × Nat)) : Prop := All2 (Tup2 g) vs T
theorem Tup2.sub {g g' : Heap} {v : Value} {t : Nat × Nat} (h : Tup2 g v t) (s : Sub g g') : Tup2 g' v t := let ⟨a, x, y, e, q⟩ := h; ⟨a, x, y, e, q.sub s⟩
theorem PairsAt.sub {g g' : Heap} {vs : List Value} {T : List (Nat × Nat)} (h : PairsAt g vs T) (s : Sub g g') : PairsAt g' vs T := h.mono fun _ _ q => q.sub s
def dat2 (t : Nat × Nat) : PyData := .tuple [.int t.1, .int t.2]
theorem Tup2.reads {g : Heap} {v : Value} {t : Nat × Nat} (h : Tup2 g v t) : Reads g v (dat2 t) [] := by
  obtain ⟨a, x, y, rfl, o, e, c, n, d⟩ := h
  exact .tuple e c d (.cons (.int _ _) (.cons (.int _ _) .nil))
theorem PairsAt.reads {g : Heap} : ∀ {vs : List Value} {T : List (Nat × Nat)}, PairsAt g vs T → ReadsAll g vs (T.map dat2) []
  | _, _, .nil => .nil
  | _, _, .cons q r => by
    have := ReadsAll.cons q.reads (PairsAt.reads r)
    exact this
theorem lay2 : ∀ T : List (Nat × Nat), PyData.canLayAll0 (T.map dat2) = true
  | [] => rfl
  | t :: T => by
    show (PyData.canLay0 (dat2 t) && PyData.canLayAll0 (T.map dat2)) = true
    rw [lay2 T]; rfl
theorem eqv2 (a b : Nat × Nat) : PyData.eqv (dat2 a) (dat2 b) = decide (a = b) := by
  obtain ⟨a1, a2⟩ := a
  obtain ⟨b1, b2⟩ := b
  show (((a1 : Int) == b1) && (((a2 : Int) == b2) && true)) = _
  rw [Bool.eq_iff_iff]
  simp only [Bool.and_true, Bool.and_eq_true, beq_iff_eq, decide_eq_true_eq, Prod.mk.injEq]
  omega
theorem depth2 : ∀ T : List (Nat × Nat), PyData.depthAll (T.map dat2) ≤ 1
  | [] => Nat.zero_le _
  | t :: T => by
    show max 1 (PyData.depthAll (T.map dat2)) ≤ 1
    have := depth2 T
    omega
theorem notin2 {w : World} {A : Around} {E : Value → Shared → Prop} {g : Heap} {ms : List Ent} {s₀ s : Shared} {a : Addr} {vs : List Value} {v : Value} {T : List (Nat × Nat)} {t : Nat × Nat} {Q : Value → Shared → Prop} (H : Ok g ms s₀ s) (r : Rd g ms a (oList vs)) (hT : PairsAt g vs T) (ht : Tup2 s.heap v t) (hu : A.units < 9000) (h : Q (.bool (decide (t ∉ T))) s) :
    wpAny (model PW w) A (compareOp .NotIn v (.ref a)) Q E s := by
  obtain ⟨n, e⟩ := (H.rd r).plist
  refine PySem.SeqAt.notIn_list_reads (xs := T.map dat2) (d := dat2 t) (.list e rfl rfl (PairsAt.reads (hT.sub H.keep))) ht.reads (lay2 T) rfl ?_ ?_
  · have := depth2 T
    show _ + 1 + min _ _ < 9900
    omega
  · have : (!(T.map dat2).any fun y => PyData.eqv y (dat2 t)) = decide (t ∉ T) := by
      rw [List.any_map]
      have e : ((fun y => PyData.eqv y (dat2 t)) ∘ dat2) = fun x => decide (x = t) := funext fun x => eqv2 x t
      rw [e, Bool.eq_iff_iff]
      simp only [Bool.not_eq_true', List.any_eq_false, decide_eq_true_eq]
      exact ⟨fun h hm => h t hm rfl, fun h x hm e => h (e ▸ hm)⟩
    rw [this]; exact h
end Mine
end
/-! text R1 -/
section
open PySem PySem.W PySem.Calls PyProof.Rows
open Builtin Builtin.Str Builtin.Int
set_option maxRecDepth 100000
namespace Mine
/-- a text by its code points -/
def tx (l : List Nat) : PySem.Str := ⟨l.toArray⟩
theorem tx_cps (l : List Nat) : (tx l).cps = l.toArray := rfl
theorem tx_list (l : List Nat) : (tx l).cps.toList = l := by rw [tx_cps]
theorem tx_len (l : List Nat) : (tx l).length = l.length := by show (tx l).cps.size = _; rw [tx_cps, List.size_toArray]
theorem tx_add (a b : List Nat) : tx a ++ tx b = tx (a ++ b) := by
  show (⟨(tx a).cps ++ (tx b).cps⟩ : PySem.Str) = ⟨(a ++ b).toArray⟩
  rw [tx_cps, tx_cps, List.append_toArray]
theorem tx_of (x : PySem.Str) : x = tx x.cps.toList := by cases x; simp [tx]
theorem tx_inj {a b : List Nat} (h : tx a = tx b) : a = b := by
  have := congrArg (fun x : PySem.Str => x.cps.toList) h
  simpa [tx] using this

theorem slot_sub : Slot "re.Pattern" "sub" "re.Pattern.sub" :=
  .of (owner := "re.Pattern") (n := "sub") (by rw [typeLookup_type, builtinLookup_eq_fast]; kernel_rfl) (by decide +kernel) (by decide +kernel) (by decide +kernel)
    (by first | exact .inl (by decide +kernel) | exact .inr (by decide +kernel)) (by rw [isSubtype_type]; kernel_rfl)
theorem type_sub : typeOf (.builtin "re.Pattern.sub") = pure (.type "method_descriptor") := by show builtinType _ = _; rw [builtinType_eq_fast]; kernel_rfl
theorem entry_sub : entryFor table "re.Pattern.sub" = some Builtin.«re.Pattern.sub» := entryFor_of_tree (by kernel_rfl)
theorem entry_sub_loop : entryFor table "re.Pattern.sub.loop" = some Builtin.«re.Pattern.sub.loop» := entryFor_of_tree (by kernel_rfl)
theorem plain_sub_loop : plainId "re.Pattern.sub.loop" = true := by decide +kernel
theorem pat_getattribute : typeLookup (.type "re.Pattern") "__getattribute__" = pure (some (.builtin "object.__getattribute__")) := by rw [typeLookup_type, builtinLookup_eq_fast]; kernel_rfl
theorem canon_pat_getattribute : (Manifest.canonical "object.__getattribute__" != "object.__getattribute__") = false := by decide +kernel
theorem pat_getattr_none : typeLookup (.type "re.Pattern") "__getattr__" = pure none := by rw [typeLookup_type, builtinLookup_eq_fast]; kernel_rfl
theorem args_sub (a b c : Value) : argsOk "re.Pattern.sub" ⟨[a, b, c], []⟩ := by
  unfold argsOk; rw [signature?_of (id := "re.Pattern.sub") (n := ['b', 'u', 's']) (o := ['n', 'r', 'e', 't', 't', 'a', 'P', '.', 'e', 'r']) (by kernel_rfl) (rows := Manifest.sig_re_Pattern) (by kernel_rfl)]; kernel_rfl

theorem m_sub {w : World} {A : Around} {E : Value → Shared → Prop} {s : Shared} {l : Addr} {o : Obj} {pl : Sem Bool} {Q : Value × List Value → Shared → Prop} (ho : s.heap.get? l = some o) (hc : o.cls = .type "re.Pattern") (hd : o.dict = none)
    (h : Q (.builtin "re.Pattern.sub", [.ref l]) s) : wpAny (model PW w) A (getMethod (.ref l) "sub" pl) Q E s := by
  have hT : s.TypeIs (.ref l) "re.Pattern" := ⟨o, ho, hc⟩
  unfold getMethod
  refine wpAny_bind (wpAny_specialOf hT pat_getattribute ?_)
  show wpAny _ A (if (Manifest.canonical "object.__getattribute__" != "object.__getattribute__") = true then _ else _) Q E s
  rw [canon_pat_getattribute, if_neg Bool.false_ne_true]
  refine wpAny_bind (wpAny_specialOf hT pat_getattr_none ?_)
  refine wpAny_bind (wpAny_specialOf hT slot_sub.lookup ?_)
  refine wpAny_bind (wpAny_of_eq type_sub ?_)
  refine wpAny_bind (wpAny_load ho ?_)
  rw [hd]
  exact wpAny_bind (wpAny_rule (wpAny_pure h))

/-! ## the join of texts -/
def TxA (vs : List Value) (ls : List (List Nat)) : Prop := StrsAre vs (ls.map tx)
theorem TxA.snoc {vs : List Value} {ls : List (List Nat)} (h : TxA vs ls) (l : List Nat) (t : Tok) : TxA (vs ++ [.str (tx l) t]) (ls ++ [l]) := by
  unfold TxA
  rw [List.map_append]
  exact StrsAre.append' h (.cons _ _ .nil)
theorem TxA.nil0 : TxA [] [] := StrsAre.nil
theorem fold_tx (ls : List (List Nat)) : ∀ acc : Array Nat, (ls.map tx).foldl (fun acc p => acc ++ (#[] : Array Nat) ++ p.cps) acc = acc ++ ls.flatten.toArray := by
  induction ls with
  | nil => intro acc; simp
  | cons l r ih =>
    intro acc
    rw [List.map_cons, List.foldl_cons, ih, tx_cps]
    simp
theorem join_tx (ls : List (List Nat)) : Txt.join (tx []) (ls.map tx) = tx ls.flatten := by
  unfold Txt.join Builtin.Str.glued
  cases ls with
  | nil => rfl
  | cons l r =>
    rw [List.map_cons, List.drop_succ_cons, List.drop_zero, List.headD_cons]
    show (⟨(r.map tx).foldl (fun acc p => acc ++ (#[] : Array Nat) ++ p.cps) (tx l).cps⟩ : PySem.Str) = _
    rw [fold_tx, tx_cps, List.flatten_cons]
    unfold tx
    rw [List.append_toArray]
theorem sum_tx (ls : List (List Nat)) : ((ls.map tx).map (·.length)).sum = ls.flatten.length := by
  induction ls with
  | nil => rfl
  | cons l r ih => rw [List.map_cons, List.map_cons, List.sum_cons, ih, tx_len, List.flatten_cons, List.length_append]
theorem size_tx (ls : List (List Nat)) : ∀ n : Nat, (ls.map tx).foldl (fun n p => n + p.length + (tx []).length) n = n + ls.flatten.length := by
  induction ls with
  | nil => intro n; simp
  | cons l r ih =>
    intro n
    rw [List.map_cons, List.foldl_cons, ih, tx_len, List.flatten_cons, List.length_append]
    show n + l.length + 0 + _ = _
    omega
theorem b_join {w : World} {A : Around} {E : Value → Shared → Prop} {g : Heap} {ms : List Ent} {s₀ s : Shared} {a : Addr} {vs : List Value} {ls : List (List Nat)} {t : Tok} {Q : Value → Shared → Prop} (H : Ok g ms s₀ s) (r : Rd g ms a (oList vs)) (hv : TxA vs ls) (hz : ls.flatten.length < 100000)
    (k : ∀ t' s', Ok g ms s₀ s' → Q (.str (tx ls.flatten) t') s') : wpAny (model PW w) A (call (.builtin "str.join") [.str (tx []) t, .ref a]) Q E s := by
  obtain ⟨ps, rfl, e2⟩ := strsAre_values hv
  have hL := (H.rd r).list
  have hj := join_tx ls
  rw [← e2] at hj
  refine call_meets F.slot_str_join (typeIs_str s _ _) F.entry_str_join (F.args_str_join_2 _ _) (meets_str_join_list (tx []) t a ps ?_) ⟨hL, ?_⟩
  · rw [e2]
    unfold Builtin.Str.tooLong
    rw [List.foldl_toArray, size_tx, sizeLine_eq]
    simp only [decide_eq_false_iff_not]
    omega
  · have many : Txt.join (tx []) (ps.map (·.1)) = tx ls.flatten → (Made.str (Builtin.Str.glued (tx []) (ps.map (·.1)))).post Q s := fun e => by
      rw [show Builtin.Str.glued (tx []) (ps.map (·.1)) = tx ls.flatten from e]
      exact ⟨by rw [tx_len, sizeLine_eq]; omega, k _ _ H.tk⟩
    match ps, hj, many with
    | [], hj, many => exact many hj
    | [p], hj, many =>
      show Q (.str p.1 p.2) s
      rw [show p.1 = tx ls.flatten from hj]
      exact k _ _ H
    | p :: q :: ps, hj, many => exact many hj
end Mine
end
/-! text R2 -/
section
open PySem
set_option maxRecDepth 100000
namespace Mine
abbrev SM := PySem.Sre.M
def mkM (C t : Array Nat) (lim st ls pc pos hd : Nat) (om : Bool) (fr : List Sre.Frame) (wt : Nat) (an : Option Bool) (sn : Sre.Seen) : SM :=
  { code := C, text := t, lim := lim, start := st, lastStart := ls, pc := pc, pos := pos, handed := hd, outermost := om, marks := #[], frames := fr, weight := wt, answer := an, seen := sn }
def KP : Sre.Kept := { lastmark := -1, lastindex := -1, whole := false, marks := #[] }
def Go (k : Nat) (m m' : SM) : Prop := ∀ n, Sre.M.runFor (n + k) m = Sre.M.runFor n m'
theorem Go.one {m m' : SM} (h : m.outcome.isSome = false) (e : m.step = m') : Go 1 m m' := fun n => by
  show (if m.outcome.isSome = true then m else Sre.M.runFor n m.step) = _
  rw [h, if_neg Bool.false_ne_true, e]
theorem Go.trans {a b : Nat} {m m' m'' : SM} (x : Go a m m') (y : Go b m' m'') : Go (a + b) m m'' := fun n => by
  rw [show n + (a + b) = n + b + a by omega, x, y]
def GoS (k : Nat) (f f' : Sre.Seen → SM) : Prop := ∀ sn, ∃ sn', Go k (f sn) (f' sn')
theorem GoS.trans {a b : Nat} {m m' m'' : Sre.Seen → SM} (x : GoS a m m') (y : GoS b m' m'') : GoS (a + b) m m'' := fun sn =>
  let ⟨s1, h1⟩ := x sn; let ⟨s2, h2⟩ := y s1; ⟨s2, h1.trans h2⟩
section
variable {C t : Array Nat} {lim st ls pc pos hd wt : Nat} {om : Bool} {fr : List Sre.Frame} {an : Option Bool} {sn : Sre.Seen}
theorem mk_out : (mkM C t lim st ls pc pos hd om fr wt an sn).outcome.isSome = false := rfl
theorem st_exec (hs : pc < C.size) : (mkM C t lim st ls pc pos hd om fr wt none sn).step = (mkM C t lim st ls pc pos hd om fr wt none sn).exec := by
  unfold Sre.M.step
  rw [if_neg (by simp [mkM])]
  show (if pc < C.size then _ else _) = _
  rw [if_pos hs]
theorem go_exec {f' : Sre.Seen → SM} (hs : pc < C.size) (h : ∀ sn, ∃ sn', (mkM C t lim st ls pc pos hd om fr wt none sn).exec = f' sn') : GoS 1 (mkM C t lim st ls pc pos hd om fr wt none) f' := fun sn =>
  let ⟨s1, e⟩ := h sn; ⟨s1, .one mk_out ((st_exec hs).trans e)⟩
theorem word_mk (k : Nat) : (mkM C t lim st ls pc pos hd om fr wt an sn).word k = C.getD (pc + k) 0 := rfl

theorem go_lit_yes (ho : C.getD pc 0 = 16) (hs : pc < C.size) (hp : pos < lim) (hc : t.getD pos 0 = C.getD (pc + 1) 0) : GoS 1 (mkM C t lim st ls pc pos hd om fr wt none) (mkM C t lim st ls (pc + 2) (pos + 1) hd om fr wt none) := go_exec hs fun sn => by
  refine ⟨sn.add 16, ?_⟩
  unfold Sre.M.exec
  have e : (mkM C t lim st ls pc pos hd om fr wt none sn).word 0 = 16 := ho
  rw [e]
  show (if pos ≥ lim then _ else match Sre.accepts C pc (t.getD pos 0) (sn.add 16) with | .error why => _ | .ok (false, seen) => _ | .ok (true, seen) => _) = _
  rw [if_neg (by omega)]
  have e2 : Sre.accepts C pc (t.getD pos 0) (sn.add 16) = .ok (true, sn.add 16) := by
    unfold Sre.accepts
    rw [ho, hc]
    show Except.ok (C.getD (pc + 1) 0 == C.getD (pc + 1) 0, _) = _
    rw [beq_self_eq_true]
  rw [e2]
  have e3 : Sre.itemWidth C pc = 2 := by unfold Sre.itemWidth; rw [ho]; rfl
  show { mkM C t lim st ls pc pos hd om fr wt none sn with seen := sn.add 16, pc := pc + Sre.itemWidth C pc, pos := pos + 1 } = _
  rw [e3]; rfl
theorem go_lit_no (ho : C.getD pc 0 = 16) (hs : pc < C.size) (hc : pos < lim → t.getD pos 0 ≠ C.getD (pc + 1) 0) : GoS 1 (mkM C t lim st ls pc pos hd om fr wt none) (mkM C t lim st ls pc pos hd om fr wt (some false)) := go_exec hs fun sn => by
  refine ⟨sn.add 16, ?_⟩
  unfold Sre.M.exec
  have e : (mkM C t lim st ls pc pos hd om fr wt none sn).word 0 = 16 := ho
  rw [e]
  show (if pos ≥ lim then _ else match Sre.accepts C pc (t.getD pos 0) (sn.add 16) with | .error why => _ | .ok (false, seen) => _ | .ok (true, seen) => _) = _
  by_cases hp : pos ≥ lim
  · rw [if_pos hp]; rfl
  · rw [if_neg hp]
    have e2 : Sre.accepts C pc (t.getD pos 0) (sn.add 16) = .ok (false, sn.add 16) := by
      unfold Sre.accepts
      rw [ho]
      show Except.ok (t.getD pos 0 == C.getD (pc + 1) 0, _) = _
      rw [beq_eq_false_iff_ne.mpr (hc (by omega))]
    rw [e2]; rfl
theorem go_at (ho : C.getD pc 0 = 6) (h1 : C.getD (pc + 1) 0 = 1) (hs : pc < C.size) {b : Bool} (hb : (pos == 0 || t.getD (pos - 1) 0 == 10) = b) :
    GoS 1 (mkM C t lim st ls pc pos hd om fr wt none) (if b = true then mkM C t lim st ls (pc + 2) pos hd om fr wt none else mkM C t lim st ls pc pos hd om fr wt (some false)) := go_exec hs fun sn => by
  refine ⟨(sn.add 6).add 44, ?_⟩
  unfold Sre.M.exec
  have e : (mkM C t lim st ls pc pos hd om fr wt none sn).word 0 = 6 := ho
  rw [e]
  show (match Sre.M.isAt { mkM C t lim st ls pc pos hd om fr wt none sn with seen := sn.add 6 } (C.getD (pc + 1) 0) with | .error why => _ | .ok yes => _) = _
  rw [h1]
  show (if (pos == 0 || t.getD (pos - 1) 0 == 10) = true then ({ mkM C t lim st ls pc pos hd om fr wt none sn with seen := (sn.add 6).add (43 + C.getD (pc + 1) 0), pc := pc + 2 } : SM) else ({ mkM C t lim st ls pc pos hd om fr wt none sn with seen := (sn.add 6).add (43 + C.getD (pc + 1) 0), answer := some false } : SM)) = _
  rw [hb, h1]
  cases b <;> rfl
theorem go_success (ho : C.getD pc 0 = 1) (hs : pc < C.size) : GoS 1 (mkM C t lim st ls pc pos hd om fr wt none) (mkM C t lim st ls pc pos pos om fr wt (some true)) := go_exec hs fun sn => by
  refine ⟨sn.add 1, ?_⟩
  unfold Sre.M.exec
  have e : (mkM C t lim st ls pc pos hd om fr wt none sn).word 0 = 1 := ho
  rw [e]
  show (if (om && ((false && pos != lim) || (false && pos == st))) = true then _ else _) = _
  rw [if_neg (by simp)]; rfl
theorem go_jump (ho : C.getD pc 0 = 15) (hs : pc < C.size) {pc' : Nat} (h : pc + 1 + C.getD (pc + 1) 0 = pc') : GoS 1 (mkM C t lim st ls pc pos hd om fr wt none) (mkM C t lim st ls pc' pos hd om fr wt none) := go_exec hs fun sn => by
  refine ⟨sn.add 15, ?_⟩
  unfold Sre.M.exec
  have e : (mkM C t lim st ls pc pos hd om fr wt none sn).word 0 = 15 := ho
  rw [e, ← h]; rfl
def frB (alt pos : Nat) (om : Bool) : Sre.Frame := { wait := .nextBranch, pc := alt, pos := pos, outermost := om, kept := KP }
def frN (pc pos : Nat) (om : Bool) : Sre.Frame := { wait := .lookNot, pc := pc, pos := pos, outermost := om, kept := KP }
def frS (pc pos : Nat) (om : Bool) : Sre.Frame := { wait := .nextStart, pc := pc, pos := pos, outermost := om }
theorem alt_mk {alt : Nat} (h0 : C.getD alt 0 ≠ 0) (hw : wt < 1000) : (mkM C t lim st ls pc pos hd om fr wt none sn).alternative alt KP = mkM C t lim st ls (alt + 1) pos pos om (frB alt pos om :: fr) (wt + 1) none sn := by
  unfold Sre.M.alternative
  show (if (C.getD alt 0 == 0) = true then _ else _) = _
  rw [if_neg (by simpa using h0)]
  unfold Sre.M.attempt
  rw [if_neg (by show ¬ wt + 1 + 0 > 16777216; omega)]
  rfl
theorem go_branch (ho : C.getD pc 0 = 7) (hs : pc < C.size) (h0 : C.getD (pc + 1) 0 ≠ 0) (hw : wt < 1000) : GoS 1 (mkM C t lim st ls pc pos hd om fr wt none) (mkM C t lim st ls (pc + 2) pos pos om (frB (pc + 1) pos om :: fr) (wt + 1) none) := go_exec hs fun sn => by
  refine ⟨sn.add 7, ?_⟩
  unfold Sre.M.exec
  have e : (mkM C t lim st ls pc pos hd om fr wt none sn).word 0 = 7 := ho
  rw [e]
  exact alt_mk (sn := sn.add 7) h0 hw
theorem go_not (ho : C.getD pc 0 = 5) (hs : pc < C.size) (h2 : C.getD (pc + 2) 0 = 0) (hw : wt < 1000) : GoS 1 (mkM C t lim st ls pc pos hd om fr wt none) (mkM C t lim st ls (pc + 3) pos pos false (frN pc pos om :: fr) (wt + 1) none) := go_exec hs fun sn => by
  refine ⟨sn.add 5, ?_⟩
  unfold Sre.M.exec
  have e : (mkM C t lim st ls pc pos hd om fr wt none sn).word 0 = 5 := ho
  rw [e]
  show (if pos < C.getD (pc + 2) 0 then _ else Sre.M.attempt (mkM C t lim st ls pc pos hd om fr wt none (sn.add 5)) (frN pc pos om) (pc + 3) (pos - C.getD (pc + 2) 0) false) = _
  rw [h2, if_neg (by omega)]
  unfold Sre.M.attempt
  rw [if_neg (by show ¬ wt + 1 + 0 > 16777216; omega)]
  rfl
theorem go_back {f : Sre.Frame} {yes : Bool} {f' : Sre.Seen → SM} (hk : f.kept.marks = #[]) (h : ∀ sn, ∃ sn', Sre.M.resume (mkM C t lim st ls f.pc f.pos hd f.outermost fr (wt - 1) none sn) f yes = f' sn') :
    GoS 1 (mkM C t lim st ls pc pos hd om (f :: fr) wt (some yes)) f' := fun sn => by
  obtain ⟨s1, e⟩ := h sn
  refine ⟨s1, .one mk_out (Eq.trans ?_ e)⟩
  unfold Sre.M.step
  rw [if_neg (by simp [mkM])]
  show Sre.M.resume { mkM C t lim st ls pc pos hd om fr wt none sn with weight := wt - (1 + f.kept.marks.size), pc := f.pc, pos := f.pos, outermost := f.outermost } f yes = _
  rw [hk]; rfl
theorem go_nb_yes {a p : Nat} {o : Bool} : GoS 1 (mkM C t lim st ls pc pos hd om (frB a p o :: fr) wt (some true)) (mkM C t lim st ls a p hd o fr (wt - 1) (some true)) := go_back rfl fun sn => ⟨sn, rfl⟩
theorem go_nb_no {a p a' : Nat} {o : Bool} (ha : a + C.getD a 0 = a') (h0 : C.getD a' 0 ≠ 0) (hw : wt < 1000) : GoS 1 (mkM C t lim st ls pc pos hd om (frB a p o :: fr) wt (some false)) (mkM C t lim st ls (a' + 1) p p o (frB a' p o :: fr) (wt - 1 + 1) none) := go_back rfl fun sn => ⟨sn, by
  subst ha
  exact alt_mk (wt := wt - 1) (sn := sn) h0 (by omega)⟩
theorem go_ln_no {a p a' : Nat} {o : Bool} (ha : a + 1 + C.getD (a + 1) 0 = a') : GoS 1 (mkM C t lim st ls pc pos hd om (frN a p o :: fr) wt (some false)) (mkM C t lim st ls a' p hd o fr (wt - 1) none) := go_back rfl fun sn => ⟨sn, by subst ha; rfl⟩
theorem go_ns_yes {a p : Nat} {o : Bool} : GoS 1 (mkM C t lim st ls pc pos hd om (frS a p o :: fr) wt (some true)) (mkM C t lim st ls a p hd o fr (wt - 1) (some true)) := go_back rfl fun sn => ⟨sn, rfl⟩
theorem go_ns_last {a p : Nat} {o : Bool} (h : ¬ p < ls) : GoS 1 (mkM C t lim st ls pc pos hd om (frS a p o :: fr) wt (some false)) (mkM C t lim st ls a p hd o fr (wt - 1) (some false)) := go_back rfl fun sn => ⟨sn, by
  show (if p < ls then _ else _) = _
  rw [if_neg h]; rfl⟩
theorem go_ns_next {a p : Nat} {o : Bool} (h : p < ls) (hf : (match Sre.ops[C.getD 0 0]? with | some .INFO => true | _ => false) = true ∧ C.getD 2 0 ≠ 4) (hw : wt < 1000) : GoS 1 (mkM C t lim st ls pc pos hd om (frS a p o :: fr) wt (some false)) (mkM C t lim (p + 1) ls a (p + 1) (p + 1) false (frS a (p + 1) false :: fr) (wt - 1 + 1) none) := go_back rfl fun sn => ⟨sn, by
  show (if p < ls then Sre.M.attemptFrom (mkM C t lim st ls a p hd o fr (wt - 1) none sn) (p + 1) false else _) = _
  rw [if_pos h]
  unfold Sre.M.attemptFrom
  have : Sre.M.hasFirstSet (mkM C t lim st ls a p hd o fr (wt - 1) none sn) = false := by
    show ((match Sre.ops[C.getD 0 0]? with | some .INFO => true | _ => false) && C.getD 2 0 == 4) = false
    rw [beq_eq_false_iff_ne.mpr hf.2, Bool.and_false]
  rw [this]
  show Sre.M.attemptAt _ _ _ = _
  unfold Sre.M.attemptAt Sre.M.attempt
  rw [if_neg (by show ¬ wt - 1 + 1 + 0 > 16777216; omega)]
  rfl⟩
/-- the end -/
def EndM (yes : Bool) (st hd : Nat) (m : SM) : Prop := m.outcome = some (if yes then .matched else .failed) ∧ m.start = st ∧ m.handed = hd
theorem go_end {yes : Bool} : ∃ m' : Sre.Seen → SM, GoS 1 (mkM C t lim st ls pc pos hd om [] wt (some yes)) m' ∧ ∀ sn, EndM yes st hd (m' sn) :=
  ⟨fun sn => { mkM C t lim st ls pc pos hd om [] wt (some yes) sn with outcome := some (if yes then .matched else .failed) }, fun sn => ⟨sn, .one mk_out rfl⟩, fun sn => ⟨rfl, rfl, rfl⟩⟩
end
end Mine
end
/-! text R3 -/
section
open PySem
set_option maxRecDepth 100000
namespace Mine
def C1 : Array Nat := #[14, 4, 0, 1, 1, 6, 1, 16, 46, 1]
def C2 : Array Nat := #[14, 9, 4, 1, 2, 16, 10, 16, 13, 0, 7, 7, 16, 13, 16, 10, 15, 18, 5, 16, 10, 15, 13, 11, 16, 13, 5, 5, 0, 16, 10, 1, 15, 2, 0, 1]
/-- the run from here ends so, within so many steps -/
def Ends (N : Nat) (m : SM) (yes : Bool) (st hd : Nat) : Prop := ∃ k m', k ≤ N ∧ Sre.M.runFor k m = m' ∧ EndM yes st hd m'
theorem GoS.ends {k : Nat} {f f' : Sre.Seen → SM} {yes : Bool} {st hd : Nat} (x : GoS k f f') (y : ∀ sn, EndM yes st hd (f' sn)) (sn : Sre.Seen) : Ends k (f sn) yes st hd := by
  obtain ⟨s1, e⟩ := x sn
  refine ⟨k, _, Nat.le_refl _, ?_, y s1⟩
  have := e 0
  rw [Nat.zero_add] at this
  exact this
theorem Ends.mono {N N' : Nat} {m : SM} {yes : Bool} {st hd : Nat} (x : Ends N m yes st hd) (h : N ≤ N') : Ends N' m yes st hd := let ⟨k, m', a, b, c⟩ := x; ⟨k, m', Nat.le_trans a h, b, c⟩
theorem Ends.after {N k : Nat} {m m' : SM} {yes : Bool} {st hd : Nat} (g : Go k m m') (x : Ends N m' yes st hd) : Ends (N + k) m yes st hd := by
  obtain ⟨k', m'', a, b, c⟩ := x
  exact ⟨k' + k, m'', by omega, by rw [g, b], c⟩
section
variable {t : Array Nat} {lim p q : Nat}
/-- the second pattern at a place of its own -/
def S2 (t : Array Nat) (lim q : Nat) : Sre.Seen → SM := mkM C2 t lim q lim 10 q q true [frS 10 q true] 1 none
theorem Ends.step {N : Nat} {f f' : Sre.Seen → SM} {yes : Bool} {st hd : Nat} (sn : Sre.Seen) (g : GoS 1 f f') (h : ∀ sn, Ends N (f' sn) yes st hd) : Ends (N + 1) (f sn) yes st hd := by
  obtain ⟨s1, e⟩ := g sn
  exact Ends.after e (h s1)
theorem Ends.fin {C t : Array Nat} {lim st ls pc pos hd wt : Nat} {om yes : Bool} (sn : Sre.Seen) : Ends 1 (mkM C t lim st ls pc pos hd om [] wt (some yes) sn) yes st hd := by
  obtain ⟨f, hf, he⟩ := go_end (C := C) (t := t) (lim := lim) (st := st) (ls := ls) (pc := pc) (pos := pos) (hd := hd) (wt := wt) (om := om) (yes := yes)
  exact GoS.ends hf he sn
theorem run2_crlf (hq : q + 1 < lim) (h1 : t.getD q 0 = 13) (h2 : t.getD (q + 1) 0 = 10) (sn : Sre.Seen) : Ends 8 (S2 t lim q sn) true q (q + 2) := by
  unfold S2
  refine Ends.step sn (go_branch (by rfl) (by decide) (by decide) (by decide)) fun sn => ?_
  refine Ends.step sn (go_lit_yes (by rfl) (by decide) (by omega) (by rw [h1]; rfl)) fun sn => ?_
  refine Ends.step sn (go_lit_yes (by rfl) (by decide) (by omega) (by rw [h2]; rfl)) fun sn => ?_
  refine Ends.step sn (go_jump (by rfl) (by decide) (by rfl)) fun sn => ?_
  refine Ends.step sn (go_success (by rfl) (by decide)) fun sn => ?_
  refine Ends.step sn go_nb_yes fun sn => ?_
  refine Ends.step sn go_ns_yes fun sn => ?_
  exact Ends.fin sn
theorem run2_lf (hq : q < lim) (h1 : t.getD q 0 = 10) (sn : Sre.Seen) : Ends 9 (S2 t lim q sn) true q (q + 1) := by
  unfold S2
  refine Ends.step sn (go_branch (by rfl) (by decide) (by decide) (by decide)) fun sn => ?_
  refine Ends.step sn (go_lit_no (by rfl) (by decide) fun _ => by rw [h1]; decide) fun sn => ?_
  refine Ends.step sn (go_nb_no (by rfl) (by decide) (by decide)) fun sn => ?_
  refine Ends.step sn (go_lit_yes (by rfl) (by decide) (by omega) (by rw [h1]; rfl)) fun sn => ?_
  refine Ends.step sn (go_jump (by rfl) (by decide) (by rfl)) fun sn => ?_
  refine Ends.step sn (go_success (by rfl) (by decide)) fun sn => ?_
  refine Ends.step sn go_nb_yes fun sn => ?_
  refine Ends.step sn go_ns_yes fun sn => ?_
  exact Ends.fin sn
theorem run2_cr (hq : q < lim) (h1 : t.getD q 0 = 13) (h2 : q + 1 < lim → t.getD (q + 1) 0 ≠ 10) (sn : Sre.Seen) : Ends 15 (S2 t lim q sn) true q (q + 1) := by
  unfold S2
  refine Ends.step sn (go_branch (by rfl) (by decide) (by decide) (by decide)) fun sn => ?_
  refine Ends.step sn (go_lit_yes (by rfl) (by decide) (by omega) (by rw [h1]; rfl)) fun sn => ?_
  refine Ends.step sn (go_lit_no (by rfl) (by decide) h2) fun sn => ?_
  refine Ends.step sn (go_nb_no (by rfl) (by decide) (by decide)) fun sn => ?_
  refine Ends.step sn (go_lit_no (by rfl) (by decide) fun _ => by rw [h1]; decide) fun sn => ?_
  refine Ends.step sn (go_nb_no (by rfl) (by decide) (by decide)) fun sn => ?_
  refine Ends.step sn (go_lit_yes (by rfl) (by decide) (by omega) (by rw [h1]; rfl)) fun sn => ?_
  refine Ends.step sn (go_not (by rfl) (by decide) (by rfl) (by decide)) fun sn => ?_
  refine Ends.step sn (go_lit_no (by rfl) (by decide) h2) fun sn => ?_
  refine Ends.step sn (go_ln_no (by rfl)) fun sn => ?_
  refine Ends.step sn (go_jump (by rfl) (by decide) (by rfl)) fun sn => ?_
  refine Ends.step sn (go_success (by rfl) (by decide)) fun sn => ?_
  refine Ends.step sn go_nb_yes fun sn => ?_
  refine Ends.step sn go_ns_yes fun sn => ?_
  exact (Ends.fin sn)

theorem set2 (c : Nat) (sn : Sre.Seen) : ∃ sn', Sre.inSet C2 c C2.size 5 true sn = .ok (decide (c = 10 ∨ c = 13), sn') := by
  have e : C2.size = 33 + 3 := rfl
  rw [e]
  by_cases h1 : c = 10
  · subst h1; exact ⟨_, rfl⟩
  · by_cases h2 : c = 13
    · subst h2; exact ⟨_, rfl⟩
    · refine ⟨((sn.add 16).add 16).add 0, ?_⟩
      have a1 : (c == 10) = false := by simpa using h1
      have a2 : (c == 13) = false := by simpa using h2
      show (if (c == 10) = true then _ else (if (c == 13) = true then _ else _)) = _
      rw [a1, a2, if_neg Bool.false_ne_true, if_neg Bool.false_ne_true, show decide (c = 10 ∨ c = 13) = false by simp [h1, h2]]
      rfl
def hit2 (t : Array Nat) (j : Nat) : Prop := t.getD j 0 = 10 ∨ t.getD j 0 = 13
theorem adm_some {m : SM} (hc : m.code = C2) (ht : m.text = t) (hl : m.lim = lim) (hq : q < lim) (hh : hit2 t q) : ∀ (n p : Nat) (sn : Sre.Seen), p + n = lim + 1 → p ≤ q → (∀ j, p ≤ j → j < q → ¬ hit2 t j) → ∃ sn', Sre.M.admitted m n p sn = .ok (some q, sn')
  | 0, p, sn, h1, h2, _ => by omega
  | n + 1, p, sn, h1, h2, hno => by
    unfold Sre.M.admitted
    rw [hl, if_neg (by omega), hc, ht]
    obtain ⟨sn', e⟩ := set2 (t.getD p 0) sn
    by_cases hp : p = q
    · subst hp
      exact ⟨sn', by rw [e, show decide (t.getD p 0 = 10 ∨ t.getD p 0 = 13) = true from decide_eq_true hh]⟩
    · obtain ⟨sn2, e2⟩ := adm_some hc ht hl hq hh n (p + 1) sn' (by omega) (by omega) (fun j a b => hno j (by omega) b)
      exact ⟨sn2, by rw [e, show decide (t.getD p 0 = 10 ∨ t.getD p 0 = 13) = false from decide_eq_false (hno p (Nat.le_refl _) (by omega))]; exact e2⟩
theorem adm_none {m : SM} (hc : m.code = C2) (ht : m.text = t) (hl : m.lim = lim) : ∀ (n p : Nat) (sn : Sre.Seen), p + n = lim + 1 → (∀ j, p ≤ j → j < lim → ¬ hit2 t j) → ∃ sn', Sre.M.admitted m n p sn = .ok (none, sn')
  | 0, p, sn, h1, _ => ⟨sn, rfl⟩
  | n + 1, p, sn, h1, hno => by
    unfold Sre.M.admitted
    rw [hl]
    by_cases hp : p ≥ lim
    · exact ⟨sn, by rw [if_pos hp]⟩
    · rw [if_neg hp, hc, ht]
      obtain ⟨sn', e⟩ := set2 (t.getD p 0) sn
      obtain ⟨sn2, e2⟩ := adm_none hc ht hl n (p + 1) sn' (by omega) (fun j a b => hno j (by omega) b)
      exact ⟨sn2, by rw [e, show decide (t.getD p 0 = 10 ∨ t.getD p 0 = 13) = false from decide_eq_false (hno p (Nat.le_refl _) (by omega))]; exact e2⟩
def F2 (t : Array Nat) (lim p : Nat) : SM := Sre.forSearch C2 t 0 p lim false
def N0 : Sre.Seen := ({} : Sre.Seen).add 14
theorem f2_done (h : lim ≤ p) : F2 t lim p = mkM C2 t lim p 0 10 p p true [] 0 (some false) N0 := by
  show (if p > lim || lim - p < 1 then _ else _) = _
  rw [if_pos (by simp; omega)]; rfl
theorem f2_go (h : p < lim) : F2 t lim p = Sre.M.attemptFrom (mkM C2 t lim p lim 10 p p true [] 0 none N0) p true := by
  show (if p > lim || lim - p < 1 then _ else _) = _
  rw [if_neg (by simp; omega)]; rfl
theorem f2_some (hp : p ≤ q) (hq : q < lim) (hh : hit2 t q) (hno : ∀ j, p ≤ j → j < q → ¬ hit2 t j) : ∃ sn, F2 t lim p = S2 t lim q sn := by
  rw [f2_go (by omega)]
  obtain ⟨sn, e⟩ := adm_some (lim := lim) (m := mkM C2 t lim p lim 10 p p true [] 0 none N0) rfl rfl rfl hq hh (lim + 1 - p) p N0 (by omega) hp hno
  refine ⟨sn, ?_⟩
  show (match Sre.M.admitted (mkM C2 t lim p lim 10 p p true [] 0 none N0) (lim + 1 - p) p N0 with | .ok (some s, seen) => _ | .ok (none, seen) => _ | .error why => _) = _
  rw [e]; rfl
theorem f2_none (hno : ∀ j, p ≤ j → j < lim → ¬ hit2 t j) : Ends 1 (F2 t lim p) false p p := by
  by_cases h : lim ≤ p
  · rw [f2_done h]
    obtain ⟨f, hf, he⟩ := go_end (C := C2) (t := t) (lim := lim) (st := p) (ls := 0) (pc := 10) (pos := p) (hd := p) (wt := 0) (om := true) (yes := false)
    exact GoS.ends hf he _
  · rw [f2_go (by omega)]
    obtain ⟨sn, e⟩ := adm_none (lim := lim) (m := mkM C2 t lim p lim 10 p p true [] 0 none N0) rfl rfl rfl (lim + 1 - p) p N0 (by omega) hno
    obtain ⟨f, hf, he⟩ := go_end (C := C2) (t := t) (lim := lim) (st := p) (ls := lim) (pc := 10) (pos := p) (hd := p) (wt := 0) (om := true) (yes := false)
    have : Sre.M.attemptFrom (mkM C2 t lim p lim 10 p p true [] 0 none N0) p true = mkM C2 t lim p lim 10 p p true [] 0 (some false) sn := by
      show (match Sre.M.admitted (mkM C2 t lim p lim 10 p p true [] 0 none N0) (lim + 1 - p) p N0 with | .ok (some s, seen) => _ | .ok (none, seen) => _ | .error why => _) = _
      rw [e]; rfl
    rw [this]
    exact GoS.ends hf he _

/-! ## the first pattern -/
def bol (t : Array Nat) (j : Nat) : Bool := j == 0 || t.getD (j - 1) 0 == 10
def hit1 (t : Array Nat) (j : Nat) : Prop := bol t j = true ∧ t.getD j 0 = 46
def S1 (t : Array Nat) (lim x : Nat) (om : Bool) : Sre.Seen → SM := mkM C1 t lim x lim 5 x x om [frS 5 x om] 1 none
theorem run1_hit {om : Bool} (hq : q < lim) (hh : hit1 t q) (sn : Sre.Seen) : Ends 5 (S1 t lim q om sn) true q (q + 1) := by
  obtain ⟨f, hf, he⟩ := go_end (C := C1) (t := t) (lim := lim) (st := q) (ls := lim) (pc := 5) (pos := q) (hd := q + 1) (wt := 0) (om := om) (yes := true)
  have g := go_at (C := C1) (t := t) (lim := lim) (st := q) (ls := lim) (pc := 5) (pos := q) (hd := q) (wt := 1) (om := om) (fr := [frS 5 q om]) rfl rfl (by decide) (b := true) hh.1
  rw [if_pos rfl] at g
  exact GoS.ends ((g.trans (go_lit_yes rfl (by decide) hq hh.2)).trans (((go_success rfl (by decide))).trans (go_ns_yes.trans hf))) he sn
theorem go1_miss {x : Nat} {om : Bool} (hh : x < lim → ¬ hit1 t x) : ∃ k f, k ≤ 2 ∧ GoS k (S1 t lim x om) f ∧ ∃ pc', f = mkM C1 t lim x lim pc' x x om [frS 5 x om] 1 (some false) := by
  cases hb : bol t x with
  | true =>
    have g := go_at (C := C1) (t := t) (lim := lim) (st := x) (ls := lim) (pc := 5) (pos := x) (hd := x) (wt := 1) (om := om) (fr := [frS 5 x om]) rfl rfl (by decide) (b := true) hb
    rw [if_pos rfl] at g
    exact ⟨2, _, Nat.le_refl _, g.trans (go_lit_no rfl (by decide) fun h e => hh h ⟨hb, e⟩), _, rfl⟩
  | false =>
    have g := go_at (C := C1) (t := t) (lim := lim) (st := x) (ls := lim) (pc := 5) (pos := x) (hd := x) (wt := 1) (om := om) (fr := [frS 5 x om]) rfl rfl (by decide) (b := false) hb
    rw [if_neg Bool.false_ne_true] at g
    exact ⟨1, _, by omega, g, _, rfl⟩
theorem run1_some (hq : q < lim) (hh : hit1 t q) : ∀ (n x : Nat) (om : Bool) (sn : Sre.Seen), x + n = q → (∀ j, x ≤ j → j < q → ¬ hit1 t j) → Ends (3 * n + 5) (S1 t lim x om sn) true q (q + 1)
  | 0, x, om, sn, h1, _ => by
    obtain rfl : x = q := by omega
    exact run1_hit hq hh sn
  | n + 1, x, om, sn, h1, hno => by
    obtain ⟨k, f, hk, g, pc', rfl⟩ := go1_miss (t := t) (lim := lim) (x := x) (om := om) (fun _ => hno x (Nat.le_refl _) (by omega))
    obtain ⟨s1, g1⟩ := (g.trans (go_ns_next (by omega) ⟨rfl, by decide⟩ (by decide))) sn
    exact (Ends.after g1 (run1_some hq hh n (x + 1) false s1 (by omega) (fun j a b => hno j (by omega) b))).mono (by omega)
theorem run1_none : ∀ (n x : Nat) (om : Bool) (sn : Sre.Seen), x + n = lim → (∀ j, x ≤ j → j < lim → ¬ hit1 t j) → ∃ a b, Ends (3 * n + 5) (S1 t lim x om sn) false a b
  | 0, x, om, sn, h1, _ => by
    obtain ⟨k, f, hk, g, pc', rfl⟩ := go1_miss (t := t) (lim := lim) (x := x) (om := om) (fun h => absurd h (by omega))
    obtain ⟨f, hf, he⟩ := go_end (C := C1) (t := t) (lim := lim) (st := x) (ls := lim) (pc := 5) (pos := x) (hd := x) (wt := 0) (om := om) (yes := false)
    exact ⟨_, _, (GoS.ends (g.trans ((go_ns_last (by omega)).trans hf)) he sn).mono (by omega)⟩
  | n + 1, x, om, sn, h1, hno => by
    obtain ⟨k, f, hk, g, pc', rfl⟩ := go1_miss (t := t) (lim := lim) (x := x) (om := om) (fun _ => hno x (Nat.le_refl _) (by omega))
    obtain ⟨s1, g1⟩ := (g.trans (go_ns_next (by omega) ⟨rfl, by decide⟩ (by decide))) sn
    obtain ⟨a, b, e⟩ := run1_none n (x + 1) false s1 (by omega) (fun j a b => hno j (by omega) b)
    exact ⟨a, b, (Ends.after g1 e).mono (by omega)⟩
def F1 (t : Array Nat) (lim p : Nat) : SM := Sre.forSearch C1 t 0 p lim false
theorem f1_done (h : lim ≤ p) : F1 t lim p = mkM C1 t lim p 0 5 p p true [] 0 (some false) N0 := by
  show (if p > lim || lim - p < 1 then _ else _) = _
  rw [if_pos (by simp; omega)]; rfl
theorem f1_go (h : p < lim) : F1 t lim p = S1 t lim p true N0 := by
  show (if p > lim || lim - p < 1 then _ else _) = _
  rw [if_neg (by simp; omega)]; rfl
theorem f1_some (hp : p ≤ q) (hq : q < lim) (hh : hit1 t q) (hno : ∀ j, p ≤ j → j < q → ¬ hit1 t j) : Ends (3 * lim + 5) (F1 t lim p) true q (q + 1) := by
  rw [f1_go (by omega)]
  exact (run1_some hq hh (q - p) p true N0 (by omega) hno).mono (by omega)
theorem f1_none (hno : ∀ j, p ≤ j → j < lim → ¬ hit1 t j) : ∃ a b, Ends (3 * lim + 5) (F1 t lim p) false a b := by
  by_cases h : lim ≤ p
  · rw [f1_done h]
    obtain ⟨f, hf, he⟩ := go_end (C := C1) (t := t) (lim := lim) (st := p) (ls := 0) (pc := 5) (pos := p) (hd := p) (wt := 0) (om := true) (yes := false)
    exact ⟨_, _, (GoS.ends hf he _).mono (by omega)⟩
  · rw [f1_go (by omega)]
    obtain ⟨a, b, e⟩ := run1_none (t := t) (lim := lim) (lim - p) p true N0 (by omega) hno
    exact ⟨a, b, e.mono (by omega)⟩
theorem f2_hit (hp : p ≤ q) (hq : q < lim) (hh : hit2 t q) (hno : ∀ j, p ≤ j → j < q → ¬ hit2 t j) :
    Ends 15 (F2 t lim p) true q (if t.getD q 0 = 13 ∧ q + 1 < lim ∧ t.getD (q + 1) 0 = 10 then q + 2 else q + 1) := by
  obtain ⟨sn, e⟩ := f2_some hp hq hh hno
  rw [e]
  by_cases h : t.getD q 0 = 13 ∧ q + 1 < lim ∧ t.getD (q + 1) 0 = 10
  · rw [if_pos h]; exact (run2_crlf h.2.1 h.1 h.2.2 sn).mono (by omega)
  · rw [if_neg h]
    rcases hh with hh | hh
    · exact (run2_lf hq hh sn).mono (by omega)
    · exact run2_cr hq hh (fun a b => h ⟨hh, a, b⟩) sn
end
end Mine
end
/-! text R4 -/
section
open PySem PySem.W PySem.Calls PyProof.Rows
open Builtin Builtin.Re
set_option maxRecDepth 100000
namespace Mine
theorem rf_stop {m : SM} (h : m.outcome.isSome = true) : ∀ n, Sre.M.runFor n m = m
  | 0 => rfl
  | n + 1 => by show (if m.outcome.isSome = true then m else _) = m; rw [if_pos h]
theorem rf_add : ∀ (a b : Nat) (m : SM), Sre.M.runFor (a + b) m = Sre.M.runFor b (Sre.M.runFor a m)
  | 0, b, m => by rw [Nat.zero_add]; rfl
  | a + 1, b, m => by
    by_cases h : m.outcome.isSome = true
    · rw [rf_stop h, rf_stop h, rf_stop h]
    · rw [show a + 1 + b = (a + b) + 1 by omega]
      show (if m.outcome.isSome = true then m else Sre.M.runFor (a + b) m.step) = Sre.M.runFor b (if m.outcome.isSome = true then m else Sre.M.runFor a m.step)
      rw [if_neg h, if_neg h, rf_add a b]
theorem rf_same {m : SM} {a b : Nat} (ha : (Sre.M.runFor a m).outcome.isSome = true) (hb : (Sre.M.runFor b m).outcome.isSome = true) : Sre.M.runFor a m = Sre.M.runFor b m := by
  rcases Nat.le_total a b with h | h
  · obtain ⟨c, rfl⟩ := Nat.le.dest h
    rw [rf_add, rf_stop ha]
  · obtain ⟨c, rfl⟩ := Nat.le.dest h
    rw [rf_add, rf_stop hb]
section
variable {w : World} {A : Around} {E : Value → Shared → Prop} {s : Shared}
theorem drive (k : Nat) : ∀ (n : Nat) (m : SM) {Q : SM → Shared → Prop}, (Sre.M.runFor k m).outcome.isSome = true → k < 4 * n → Q (Sre.M.runFor k m) s → wpAny (model PW w) A (reDrive n m) Q E s := by
  induction k using Nat.strongRecOn with
  | _ k ih =>
    intro n m Q hk hn h
    match n, hn with
    | n + 1, hn =>
      unfold reDrive
      show wpAny _ A (if (Sre.M.runFor 4 m).outcome.isSome = true then pure (Sre.M.runFor 4 m) else (do rule "sre.turn"; reDrive n (Sre.M.runFor 4 m))) Q E s
      by_cases h4 : (Sre.M.runFor 4 m).outcome.isSome = true
      · rw [if_pos h4]
        exact wpAny_pure (by rw [rf_same h4 hk]; exact h)
      · rw [if_neg h4]
        have hk4 : 4 < k := by
          refine Nat.lt_of_not_le fun hle => h4 ?_
          obtain ⟨c, hc⟩ := Nat.le.dest hle
          rw [← hc, rf_add, rf_stop hk]; exact hk
        have e : Sre.M.runFor (k - 4) (Sre.M.runFor 4 m) = Sre.M.runFor k m := by rw [← rf_add]; congr 1; omega
        exact wpAny_bind (wpAny_rule (ih (k - 4) (by omega) n _ (by rw [e]; exact hk) (by omega) (by rw [e]; exact h)))
theorem rules {m : SM} {Q : PUnit → Shared → Prop} (h : Q ⟨⟩ s) {f : Nat → PUnit → Sem (ForInStep PUnit)} (hf : ∀ i b, f i b = (if m.seen.has i = true then (do rule (Sre.names.getD i ""); pure (.yield ⟨⟩)) else pure (.yield ⟨⟩))) (l : List Nat) : wpAny (model PW w) A (forIn l ⟨⟩ f) Q E s := by
  refine wpAny_forIn_list f (fun _ _ s' => s' = s) Q (fun x rest b s' e => ?_) (fun b s' e => by subst e; exact h) l ⟨⟩ rfl
  rw [hf]
  split
  · exact wpAny_bind (wpAny_rule (wpAny_pure e))
  · exact wpAny_pure e
theorem runToEnd {N : Nat} {m : SM} {yes : Bool} {st hd : Nat} {Q : Option SM → Shared → Prop} (x : Ends N m yes st hd) (hN : N < 1000000) (h : ∀ m', m'.start = st → m'.handed = hd → Q (if yes = true then some m' else none) s) :
    wpAny (model PW w) A (reRunToEnd m) Q E s := by
  obtain ⟨k, m', hk, e, e1, e2, e3⟩ := x
  unfold reRunToEnd
  have ho : (Sre.M.runFor k m).outcome.isSome = true := by rw [e, e1]; rfl
  refine wpAny_bind (drive k _ m ho (Nat.lt_of_lt_of_le (Nat.lt_of_le_of_lt hk hN) (by decide)) ?_)
  rw [e]
  refine wpAny_bind (rules (m := m') ?_ (fun i b => by split <;> rfl) _)
  rw [e1]
  cases yes with
  | true => exact wpAny_pure (h m' e2 e3)
  | false => exact wpAny_pure (h m' e2 e3)
end
structure PatAt (h : Heap) (a : Addr) (C : Array Nat) : Prop where
  pat : ∃ o c v0 v1 v3 v4, h.get? a = some o ∧ o.cls = .type "re.Pattern" ∧ o.dict = none ∧ o.data = .fields #[v0, v1, .int 0 0, v3, v4, .ref c, .int 0 0] ∧
    ∃ o' vs n, h.get? c = some o' ∧ o'.data = .seq vs n ∧ (vs.map reRawOf).map (·.toNat) = C
theorem PatAt.sub {h h' : Heap} {a : Addr} {C : Array Nat} (x : PatAt h a C) (s : Sub h h') : PatAt h' a C :=
  let ⟨o, c, v0, v1, v3, v4, e1, e2, e3, e4, o', vs, n, e5, e6, e7⟩ := x.pat
  ⟨⟨o, c, v0, v1, v3, v4, s _ _ e1, e2, e3, e4, o', vs, n, s _ _ e5, e6, e7⟩⟩
theorem pat1 {w : World} {g : Heap} (G : Gd w g) : PatAt g 36 C1 := ⟨_, _, _, _, _, _, G.X 36 _ rfl, rfl, rfl, rfl, _, _, _, G.X 35 _ rfl, rfl, by simp [reRawOf, C1]⟩
theorem pat2 {w : World} {g : Heap} (G : Gd w g) : PatAt g 41 C2 := ⟨_, _, _, _, _, _, G.X 41 _ rfl, rfl, rfl, rfl, _, _, _, G.X 40 _ rfl, rfl, by simp [reRawOf, C2]⟩
section
variable {w : World} {A : Around} {E : Value → Shared → Prop} {s : Shared}
def target (a : Addr) (l : List Nat) (t : Tok) (C : Array Nat) : ReTarget := { pattern := .ref a, string := .str (tx l) t, code := C, text := l.toArray, kind := 0, groups := 0, pos := 0, lim := l.length }
theorem wholeTarget {a : Addr} {C : Array Nat} {l : List Nat} {t : Tok} {Q : ReTarget → Shared → Prop} (P : PatAt s.heap a C) (h : Q (target a l t C) s) : wpAny (model PW w) A (reWholeTarget (.ref a) (.str (tx l) t)) Q E s := by
  obtain ⟨o, c, v0, v1, v3, v4, e1, e2, e3, e4, o', vs, n, e5, e6, e7⟩ := P.pat
  unfold reWholeTarget
  refine wpAny_bind (wpAny_fieldsOf e1 e4 ?_)
  refine wpAny_bind (m := reTextOf _) (wpAny_pure ?_)
  show wpAny _ _ (reNoCollectionInside (.str (tx l) t) 0 >>= fun _ => do
    let x ← reRawItems (.ref c)
    pure ({ pattern := .ref a, string := .str (tx l) t, code := x.map (·.toNat), text := (tx l).cps, kind := 0, groups := 0, pos := 0, lim := (tx l).cps.size } : ReTarget)) _ _ _
  refine wpAny_bind (m := reNoCollectionInside _ _) (wpAny_pure ?_)
  refine wpAny_bind ?_
  unfold reRawItems
  refine wpAny_bind ?_
  unfold seqItems?
  refine wpAny_bind (wpAny_load e5 ?_)
  rw [e6]
  refine wpAny_pure (wpAny_pure (wpAny_pure ?_))
  show Q ({ pattern := .ref a, string := .str (tx l) t, code := (vs.map reRawOf).map (·.toNat), text := (tx l).cps, kind := 0, groups := 0, pos := 0, lim := (tx l).cps.size } : ReTarget) s
  rw [e7, tx_cps, List.size_toArray]
  exact h
theorem slice_tx {l : List Nat} {b e : Nat} : (⟨l.toArray.extract b e⟩ : PySem.Str) = tx ((l.drop b).take (e - b)) := by
  unfold tx
  rw [List.extract_toArray, List.extract_eq_take_drop]
theorem u_push {g : Heap} {ms : List Ent} {s₀ : Shared} {a : Addr} {vs : List Value} {x : Value} {Q : Unit → Shared → Prop} (i : Nat) (H : Ok g ms s₀ s) (hi : ms[i]? = some (a, oList vs)) (hz : vs.length < 100000)
    (k : ∀ s', Ok g (ms.set i (a, oList (vs ++ [x]))) s₀ s' → Q () s') : wpAny (model PW w) A (updateSeq a (·.push x)) Q E s := by
  obtain ⟨o, e, n, rfl⟩ := H.at_ _ (List.mem_of_getElem? hi)
  have hu := Heap.get?_update_self (Obj.mapSeq (·.push x)) e rfl
  refine wpAny_updateSeq e rfl (k _ (H.upd (t := s.toks) i hi (Heap.SameBut.update _ _ _) ⟨_, hu, ?_⟩)) (by rw [List.size_toArray, sizeLine_eq]; omega) (by rw [Array.size_push, List.size_toArray, sizeLine_eq]; omega)
  exact ⟨n + 1, by unfold Obj.mapSeq; simp⟩
theorem TxA.inv : ∀ {ls : List (List Nat)}, TxA [] ls → ls = []
  | [], _ => rfl
  | _ :: _, h => by unfold TxA at h; rw [List.map_cons] at h; cases h
/-- what a search and its replacement are, by places -/
def Subst (C : Array Nat) (l repl : List Nat) (res : Nat → List Nat) : Prop := ∀ p, p ≤ l.length →
  (∃ q e, p ≤ q ∧ q < e ∧ e ≤ l.length ∧ Ends (3 * l.length + 15) (Sre.forSearch C l.toArray 0 p l.length false) true q e ∧ res p = (l.drop p).take (q - p) ++ (repl ++ res e)) ∨
  (∃ a b, Ends (3 * l.length + 15) (Sre.forSearch C l.toArray 0 p l.length false) false a b ∧ res p = l.drop p)
theorem sub_loop {g : Heap} {s₀ : Shared} {R : Result → Shared → Prop} {a pc : Addr} {C : Array Nat} {l repl : List Nat} {t u : Tok} {res : Nat → List Nat} {ms : List Ent} (P : PatAt g a C) (S : Subst C l repl res) (hl : l.length < 10000)
    (k : ∀ s' r t', r = res 0 → Ok g ms s₀ s' → R (.ok (.ret (.str (tx r) t'))) s') :
    ∀ (d p : Nat) (n : Int) (vs : List Value) (ls : List (List Nat)) (s : Shared), d = l.length - p → p ≤ l.length → TxA vs ls → vs.length ≤ 2 * p → ls.flatten ++ res p = res 0 → (res 0).length < 100000 → Ok g ((pc, oList vs) :: ms) s₀ s →
      codeAny (model PW w) A (.builtin "re.Pattern.sub.loop" ⟨[.ref a, .str (tx l) t, .str (tx repl) u, rawInt 0, rawInt 0, rawInt n, rawInt (p : Int), rawInt (p : Int), .bool false, .ref pc, .bool false], []⟩) R s := by
  intro d
  induction d using Nat.strongRecOn with
  | _ d ih =>
    intro p n vs ls s hd hp hv hlen hres hr0 H
    refine codeAny_builtin entry_sub_loop ?_
    rw [Around.under_plainId plain_sub_loop _]
    show wpAny _ A.in1 (reWholeTarget (.ref a) (.str (tx l) t) >>= fun tt => _) _ _ s
    refine wpAny_bind (wholeTarget (P.sub H.keep) ?_)
    show wpAny _ A.in1 (reLiteralCannotBeTurned (.str (tx repl) u) >>= fun _ => _) _ _ s
    refine wpAny_bind (m := reLiteralCannotBeTurned _) (wpAny_pure ?_)
    show wpAny _ A.in1 (reNextFound (target a l t C) p false >>= fun o => _) _ _ s
    have hlt : (((p : Nat) : Int)).toNat = p := rfl
    have fl : ∀ (x y : List Nat), (ls ++ [x]).flatten = ls.flatten ++ x := fun x y => by simp
    have hflat : ls.flatten.length ≤ (res 0).length := by rw [← hres, List.length_append]; omega
    rcases S p hp with ⟨q, e, hpq, hqe, hel, hE, hr⟩ | ⟨x, y, hE, hr⟩
    · have key : ∀ m' : SM, m'.start = q → m'.handed = e → ∀ (vs' : List Value) (ls' : List (List Nat)) (s' : Shared), TxA vs' ls' → vs'.length ≤ 2 * p + 1 → ls'.flatten = ls.flatten ++ (l.drop p).take (q - p) → Ok g ((pc, oList vs') :: ms) s₀ s' →
          wpAny (model PW w) A.in1 (updateSeq pc (·.push (.str (tx repl) u)) >>= fun _ => again (.builtin "re.Pattern.sub.loop" ⟨[.ref a, .str (tx l) t, .str (tx repl) u, rawInt 0, rawInt 0, rawInt (n + 1), rawInt (m'.handed : Int), rawInt (m'.handed : Int), .bool (m'.handed == m'.start), .ref pc, .bool false], []⟩))
            (fun fin s' => match fin with | .done f => R (.ok f) s' | .again c' => c'.quiet = true ∧ codeAny (model PW w) A c' R s') (fun e s' => R (.error e) s') s' := by
        intro m' em1 em2 vs' ls' s' hv' hl' hf' H'
        refine wpAny_bind (u_push 0 H' rfl (by omega) fun s2 H2 => wpAny_pure ⟨plainId_quiet plain_sub_loop _, ?_⟩)
        rw [em1, em2, show (e == q) = false by rw [beq_eq_false_iff_ne]; omega]
        refine ih (l.length - e) (by omega) e (n + 1) (vs' ++ [Value.str (tx repl) u]) (ls' ++ [repl]) s2 rfl hel (hv'.snoc repl u) (by rw [List.length_append, List.length_singleton]; omega) ?_ hr0 H2
        rw [← hres, hr, List.flatten_append, hf']
        simp
      refine wpAny_bind (runToEnd hE (by omega) fun m' em1 em2 => ?_)
      rw [if_pos rfl]
      by_cases hlt2 : p < q
      · show wpAny _ A.in1 (if p < m'.start then _ else _) _ _ s
        rw [if_pos (by omega)]
        refine wpAny_bind (m := reSlice _ _ _ _) (wpAny_mkStr (x := ⟨l.toArray.extract p m'.start⟩) ?_ ?_)
        · refine wpAny_bind (u_push 0 (H.tk (t := s.toks + 1)) rfl (by omega) fun s2 H2 => ?_)
          rw [em1, slice_tx] at H2
          refine key m' em1 em2 _ (ls ++ [(l.drop p).take (q - p)]) s2 (hv.snoc _ _) (by rw [List.length_append, List.length_singleton]; omega) (fl _ []) H2
        · rw [slice_tx, tx_len, List.length_take, List.length_drop, sizeLine_eq]; omega
      · obtain rfl : p = q := by omega
        show wpAny _ A.in1 (if p < m'.start then _ else _) _ _ s
        rw [if_neg (by omega)]
        exact key m' em1 em2 vs ls s hv (by omega) (by simp) H
    · have key : ∀ (vs' : List Value) (ls' : List (List Nat)) (s' : Shared), TxA vs' ls' → ls'.flatten = res 0 → Ok g ((pc, oList vs') :: ms) s₀ s' →
          wpAny (model PW w) A.in1 (mkStr ⟨l.toArray.extract 0 0⟩ >>= fun joiner => seqItems? (.ref pc) >>= fun xs => if (xs.getD #[]).isEmpty = true then ret joiner else call (.builtin "str.join") [joiner, .ref pc] >>= fun text => ret text)
            (fun fin s' => match fin with | .done f => R (.ok f) s' | .again c' => c'.quiet = true ∧ codeAny (model PW w) A c' R s') (fun e s' => R (.error e) s') s' := by
        intro vs' ls' s' hv' hf' H'
        refine wpAny_bind (wpAny_mkStr ?_ (by rw [slice_tx, tx_len, sizeLine_eq]; simp))
        rw [slice_tx, List.take_zero]
        have H2 := H'.tk (t := s'.toks + 1)
        obtain ⟨o, e, nn, rfl⟩ := H2.at_ _ (.head _)
        refine wpAny_bind (wpAny_seqItems e rfl ?_)
        show wpAny _ _ (if (vs'.toArray).isEmpty = true then _ else _) _ _ _
        by_cases hem : vs' = []
        · subst hem
          have hls := hv'.inv
          subst hls
          rw [if_pos (show (#[] : Array Value).isEmpty = true from rfl)]
          exact wpAny_pure (k _ [] _ hf' H2.drop1)
        · rw [if_neg (by simpa using hem)]
          refine wpAny_bind (b_join H2 (.inl (.head _)) hv' (by rw [hf']; exact hr0) fun t' s3 H3 => wpAny_pure ?_)
          exact k s3 _ t' hf' H3.drop1
      refine wpAny_bind (runToEnd hE (by omega) fun m' em1 em2 => ?_)
      rw [if_neg Bool.false_ne_true]
      by_cases hlt2 : p < l.length
      · show wpAny _ A.in1 (if p < l.length then _ else _) _ _ s
        rw [if_pos hlt2]
        refine wpAny_bind (m := reSlice _ _ _ _) (wpAny_mkStr (x := ⟨l.toArray.extract p l.length⟩) ?_ ?_)
        · refine wpAny_bind (u_push 0 (H.tk (t := s.toks + 1)) rfl (by omega) fun s2 H2 => ?_)
          rw [slice_tx] at H2
          refine key _ (ls ++ [(l.drop p).take (l.length - p)]) s2 (hv.snoc _ _) ?_ H2
          rw [fl _ [], ← hres, hr, List.take_of_length_le (by rw [List.length_drop]; omega)]
        · rw [slice_tx, tx_len, List.length_take, List.length_drop, sizeLine_eq]; omega
      · show wpAny _ A.in1 (if p < l.length then _ else _) _ _ s
        rw [if_neg hlt2]
        refine key vs ls s hv ?_ H
        rw [← hres, hr, List.drop_eq_nil_of_le (by omega), List.append_nil]
theorem str_uncalled : typeLookup (.type "str") "__call__" = pure none := by rw [typeLookup_type, builtinLookup_eq_fast]; kernel_rfl
theorem b_sub {g : Heap} {s₀ : Shared} {Q : Value → Shared → Prop} {a : Addr} {C : Array Nat} {l repl : List Nat} {t u : Tok} {res : Nat → List Nat} {ms : List Ent} (P : PatAt g a C) (S : Subst C l repl res) (hl : l.length < 10000) (h92 : 92 ∉ repl) (hr0 : (res 0).length < 100000)
    (H : Ok g ms s₀ s) (k : ∀ s' t', Ok g ms s₀ s' → Q (.str (tx (res 0)) t') s') : wpAny (model PW w) A (call (.builtin "re.Pattern.sub") [.ref a, .str (tx repl) u, .str (tx l) t]) Q E s := by
  obtain ⟨o, c, v0, v1, v3, v4, e1, e2, e3, e4, o', vs, n, e5, e6, e7⟩ := (P.sub H.keep).pat
  have hT : s.TypeIs (.ref a) "re.Pattern" := ⟨o, e1, e2⟩
  refine wpAny_call (codeAny_call_builtin slot_sub.plain entry_sub (slot_sub.check _ _ _ _ _ _ _ _ hT (args_sub _ _ _) ?_))
  show wpAny _ A.in1 (reNamed "re.Pattern.sub" "sub" ["repl", "string", "count"] 2 [.str (tx repl) u, .str (tx l) t] [] >>= fun x => _) _ _ s
  refine wpAny_bind (m := reNamed _ _ _ _ _ _) (wpAny_pure ?_)
  show wpAny _ A.in1 (specialOf (.str (tx repl) u) (Str.ofString "__call__") >>= fun x => _) _ _ s
  refine wpAny_bind (wpAny_specialOf (typeIs_str s _ _) str_uncalled ?_)
  show wpAny _ A.in1 (asStr? (.str (tx repl) u) >>= fun x => _) _ _ s
  refine wpAny_bind (m := asStr? _) (wpAny_pure ?_)
  have hlit : (!(tx repl).cps.contains 92) = true := by
    rw [tx_cps, List.contains_toArray]
    simpa using h92
  show wpAny _ A.in1 (if (!(tx repl).cps.contains 92) = true then _ else _) _ _ s
  rw [if_pos hlit]
  show wpAny _ A.in1 (holding [.str (tx repl) u] (reWholeTarget (.ref a) (.str (tx l) t)) >>= fun _ => newList [] >>= fun x => again (.builtin "re.Pattern.sub.loop" ⟨[.ref a, .str (tx l) t, .str (tx repl) u, rawInt 0, rawInt 0, rawInt 0, rawInt 0, rawInt 0, .bool false, x, .bool false], []⟩)) _ _ s
  refine wpAny_bind (wpAny_holding (wholeTarget (P.sub H.keep) ?_))
  refine wpAny_bind (wpAny_newObj_type ?_ (by show (0 : Nat) ≤ sizeLine; omega))
  have H2 := H.push (o := { cls := .type "list", data := .seq ([] : List Value).toArray }) (P := oList []) (t := s.toks) ⟨0, rfl⟩ rfl
  refine wpAny_pure ⟨plainId_quiet plain_sub_loop _, ?_⟩
  refine sub_loop (ms := ms) (res := res) P S hl ?_ l.length 0 0 [] [] _ (by omega) (Nat.zero_le _) TxA.nil0 (Nat.zero_le _) rfl hr0 H2
  rintro s' r t' rfl H3
  exact k s' t' H3
end
theorem m_subP {w : World} {A : Around} {E : Value → Shared → Prop} {g : Heap} {ms : List Ent} {s₀ s : Shared} {a : Addr} {C : Array Nat} {pl : Sem Bool} {Q : Value × List Value → Shared → Prop} (H : Ok g ms s₀ s) (P : PatAt g a C)
    (h : Q (.builtin "re.Pattern.sub", [.ref a]) s) : wpAny (model PW w) A (getMethod (.ref a) "sub" pl) Q E s := by
  obtain ⟨o, c, v0, v1, v3, v4, e1, e2, e3, _⟩ := (P.sub H.keep).pat
  exact m_sub e1 e2 e3 h
end Mine
end
section
open PySem PySem.W PySem.Calls PyProof.Rows
set_option maxRecDepth 100000
namespace Mine
local macro_rules | `(tactic| walk_at "lk") => `(tactic| first
  | with_reducible exact upd_eq
  | with_reducible assumption
  | ((with_reducible refine (upd_ne ?hne).trans ?hlk); (case hne => decide); (case hlk => walk_at "lk"))
  | rfl)
local macro_rules | `(tactic| walk_at "rd") => `(tactic| first
  | exact Or.inl (by walk_at "mem")
  | exact Or.inr (by assumption))
local macro_rules | `(tactic| walk_at "boot") => `(tactic| first
  | exact bo_len
  | exact bo_range
  | exact bo_sorted
  | exact bo_next
  | exact bo_iter
  | exact bo_enumerate)
local macro_rules | `(tactic| walk_at "name") => `(tactic| first
  | ((with_reducible rename Ok _ _ _ _ => hO); ((with_reducible refine' e_loc hO ?hk ?hx ?hL ?hd ?hv ?_)); (case hk => rfl); (case hx => rfl); (case hL => rfl); (case hd => decide); (case hv => walk_at "lk"); skip)
  | ((with_reducible rename Ok _ _ _ _ => hO); ((with_reducible refine' e_cell hO ?hk ?hx ?hd ?hc ?hm ?_)); (case hk => rfl); (case hx => rfl); (case hd => decide); (case hc => rfl); (case hm => walk_at "mem"); skip)
  | ((with_reducible rename Ok _ _ _ _ => hO); ((with_reducible refine' e_free hO ?hk ?hx ?hd ?hn ?hc ?hm ?_)); (case hk => rfl); (case hx => rfl); (case hd => decide); (case hn => decide); (case hc => rfl); (case hm => walk_at "mem"); skip)
  | ((with_reducible rename Ok _ _ _ _ => hO); ((with_reducible refine' e_bui ?G hO ?hk ?hx ?hg ?hb ?hd ?e ?hv ?hn ?_)); (case G => assumption); (case hk => rfl); (case hx => rfl); (case hg => rfl); (case hb => rfl); (case hd => decide); (case e => walk_at "gl"); (case hv => walk_at "boot"); (case hn => decide); skip)
  | ((with_reducible rename Ok _ _ _ _ => hO); ((with_reducible refine' e_glob ?G hO ?hk ?hx ?hg ?hd ?e ?_)); (case G => assumption); (case hk => rfl); (case hx => rfl); (case hg => rfl); (case hd => decide); (case e => walk_at "gl"); skip))
local macro_rules | `(tactic| walk_at "cm") => `(tactic| first
  | with_reducible refine i_lt ?_
  | with_reducible refine i_gt ?_
  | with_reducible refine i_ge ?_
  | with_reducible refine i_le ?_
  | with_reducible refine i_eq ?_
  | with_reducible refine i_ne ?_
  | with_reducible refine x_gt ?_
  | with_reducible refine x_ne ?_)
section
local macro_rules | `(tactic| walk_at "mem") => `(tactic| first
  | exact List.Mem.head _
  | (refine List.Mem.tail _ ?_; walk_at "mem"))
local macro_rules | `(tactic| walk_at "gl") => `(tactic| first
  | exact gl_len
  | exact gl_range
  | exact gl_sorted
  | exact gl_next
  | exact gl_iter
  | exact gl_enumerate
  | exact gl_quotedata
  | exact gl_parse
  | exact gl_written
  | exact gl_led
  | exact gl_repeats
  | exact gl_re1
  | exact gl_re2
  | exact gl_crlf)
local macro_rules | `(tactic| walk_at "ev") => `(tactic| first
  | ((with_reducible refine g_name ?_); walk_at "name")
  | with_reducible refine e_bin ?_
  | ((with_reducible rename Ok _ _ _ _ => hO); ((with_reducible refine' e_int hO ?_)); intro _ _ _; clear hO)
  | with_reducible refine e_sub ?_
  | ((with_reducible refine' e_cmp ?hm ?_); (case hm => with_unfolding_all rfl))
  | with_reducible refine e_call ?_
  | with_reducible refine e_tup ?_
  | with_reducible refine e_list ?_
  | with_reducible refine e_if ?_
  | ((with_reducible refine' e_meth ?he ?_); (case he => rfl))
  | ((with_reducible rename Ok _ _ _ _ => hO); ((with_reducible refine' e_str hO ?_)); intro _ _ _; clear hO)
  | with_reducible refine e_bool ?_)
local macro_rules | `(tactic| walk_at "ex") => `(tactic| first
  | ((with_reducible refine' x_two ?hs ?hw ?_); (case hs => rfl); (case hw => rfl))
  | ((with_reducible refine' x_expr ?hi ?hs ?_); (case hi => rfl); (case hs => rfl))
  | ((with_reducible refine' x_assign ?hs ?_); (case hs => rfl))
  | with_reducible refine x_aug ?_
  | with_reducible refine x_if ?_
  | with_reducible refine x_ret ?_
  | ((with_reducible refine' x_for ?hs ?_); (case hs => intro _; with_unfolding_all rfl)))
local macro_rules | `(tactic| walk_at "tr") => `(tactic| first
  | ((with_reducible refine' t_cmp ?hm ?_); (case hm => with_unfolding_all rfl))
  | with_reducible refine t_and ?_
  | with_reducible refine t_and0 ?_
  | with_reducible refine t_or ?_
  | with_reducible refine t_or0 ?_
  | with_reducible refine t_not ?_)
local macro_rules | `(tactic| walk_at "bi") => `(tactic| first
  | ((with_reducible rename Ok _ _ _ _ => hO); ((with_reducible refine' i_add hO ?_)); intro _ _ _; clear hO)
  | ((with_reducible rename Ok _ _ _ _ => hO); ((with_reducible refine' i_sub hO ?_)); intro _ _ _; clear hO)
  | ((with_reducible rename Ok _ _ _ _ => hO); ((with_reducible refine' i_mul hO ?hm ?_)); (case hm => mul_fits); intro _ _ _; clear hO))
local macro_rules | `(tactic| walk_at "cw") => `(tactic| first
  | ((with_reducible refine' c_bui ?he ?hp ?_); (case he => rfl); (case hp => rfl))
  | ((with_reducible refine' c_type ?he ?hp ?_); (case he => rfl); (case hp => rfl))
  | ((with_reducible refine' c_meth ?he ?hp ?_); (case he => rfl); (case hp => rfl)))
local macro_rules | `(tactic| walk_at "ca") => `(tactic| first
  | ((with_reducible rename Ok _ _ _ _ => hO); ((with_reducible refine' b_len hO ?r ?hz ?_)); (case r => walk_at "rd"); (case hz => omega); intro _ _ _; clear hO)
  | ((with_reducible rename Ok _ _ _ _ => hO); ((with_reducible refine' b_range1 hO ?_)); intro _ _ _ _ _ _; clear hO)
  | ((with_reducible rename Ok _ _ _ _ => hO); ((with_reducible refine' b_range2 hO ?_)); intro _ _ _ _ _; clear hO))
local macro_rules | `(tactic| walk_at "m") => `(tactic| first
  | with_reducible refine nx_next ?_
  | with_reducible refine x_cons ?_
  | ((with_reducible refine g_eval ?_); walk_at "ev")
  | ((with_reducible refine g_exec ?_); walk_at "ex")
  | ((with_reducible refine g_true ?_); walk_at "tr")
  | ((with_reducible refine g_bin ?_); walk_at "bi")
  | ((with_reducible refine g_cmp ?_); walk_at "cm")
  | with_reducible refine t_bool ?_
  | ((with_reducible rename Ok _ _ _ _ => hO); ((with_reducible refine' s_loc hO ?hk ?hx ?hL ?_)); (case hk => rfl); (case hx => rfl); (case hL => rfl); intro _ _; clear hO)
  | ((with_reducible refine' a_cons ?he ?_); (case he => rfl))
  | with_reducible refine a_nil ?_
  | ((with_reducible refine g_cw ?_); walk_at "cw")
  | ((with_reducible refine g_call ?_); walk_at "ca")
  | ((with_reducible rename Ok _ _ _ _ => hO); ((with_reducible refine' n_loc hO ?hk ?hx ?hL ?hv ?_)); (case hk => rfl); (case hx => rfl); (case hL => rfl); (case hv => walk_at "lk"); skip)
  | ((with_reducible rename Ok _ _ _ _ => hO); ((with_reducible refine' i_iadd hO ?_)); intro _ _ _; clear hO)
  | ((with_reducible rename Ok _ _ _ _ => hO); ((with_reducible refine' i_isub hO ?_)); intro _ _ _; clear hO)
  | ((with_reducible rename Ok _ _ _ _ => hO); ((with_reducible refine' m_app hO ?r ?_)); (case r => walk_at "rd"); skip)
  | with_reducible refine x_nil ?_
  | with_reducible refine ite_t ?_
  | with_reducible refine ite_f ?_
  | with_reducible refine ite_nf ?_
  | with_reducible refine ite_nt ?_
  | with_reducible refine o_cons ?_
  | with_reducible refine o_nil ?_
  | ((with_reducible rename Ok _ _ _ _ => hO); ((with_reducible refine' n_cell hO ?hk ?hx ?hc ?hm ?_)); (case hk => rfl); (case hx => rfl); (case hc => rfl); (case hm => walk_at "mem"); skip))
/-! text FLed -/
section
set_option maxHeartbeats 4000000
def LtS (σ : Nat → PySem.Str) (p j : Nat) : Prop := (σ p).cps.toList < (σ j).cps.toList
/-- the end of the stretch that leads: all behind the place are greater, the end is not -/
def LedE (gt : Nat → Nat → Prop) (n p e0 : Nat) : Prop := p < e0 ∧ e0 ≤ n ∧ (∀ j, p < j → j < e0 → gt p j) ∧ (e0 = n ∨ ¬ gt p e0)
def ExtE (k : Nat → Int) (n e0 s e : Nat) : Prop := e0 ≤ e ∧ e ≤ n ∧ (∀ j, e0 ≤ j → j < e → k j = k (j - s)) ∧ (e = n ∨ k e ≠ k (e - s))
def ExtF (k : Nat → Int) (p s f : Nat) : Prop := f ≤ p ∧ (∀ j, f ≤ j → j < p → k j = k (j + s)) ∧ (f = 0 ∨ k (f - 1) ≠ k (f - 1 + s))
def Led0 (k : Nat → Int) (gt : Nat → Nat → Prop) (n p : Nat) (t : T3) : Prop := ∃ e0, LedE gt n p e0 ∧ t.2.2 = e0 - p ∧ ExtE k n e0 t.2.2 t.2.1 ∧ ExtF k p t.2.2 t.1
theorem LedE.one {gt : Nat → Nat → Prop} {n p a b : Nat} (x : LedE gt n p a) (y : LedE gt n p b) : a = b := by
  obtain ⟨x1, x2, x3, x4⟩ := x
  obtain ⟨y1, y2, y3, y4⟩ := y
  rcases Nat.lt_trichotomy a b with q | q | q
  · rcases x4 with e | e
    · omega
    · exact absurd (y3 a x1 q) e
  · exact q
  · rcases y4 with e | e
    · omega
    · exact absurd (x3 b y1 q) e
theorem ExtE.one {k : Nat → Int} {n e0 s a b : Nat} (x : ExtE k n e0 s a) (y : ExtE k n e0 s b) : a = b := by
  obtain ⟨x1, x2, x3, x4⟩ := x
  obtain ⟨y1, y2, y3, y4⟩ := y
  rcases Nat.lt_trichotomy a b with q | q | q
  · rcases x4 with e | e
    · omega
    · exact absurd (y3 a x1 q) e
  · exact q
  · rcases y4 with e | e
    · omega
    · exact absurd (x3 b y1 q) e
theorem ExtF.one {k : Nat → Int} {p s a b : Nat} (x : ExtF k p s a) (y : ExtF k p s b) : a = b := by
  obtain ⟨x1, x3, x4⟩ := x
  obtain ⟨y1, y3, y4⟩ := y
  rcases Nat.lt_trichotomy a b with q | q | q
  · rcases y4 with e | e
    · omega
    · exact absurd (x3 (b - 1) (by omega) (by omega)) e
  · exact q
  · rcases x4 with e | e
    · omega
    · exact absurd (y3 (a - 1) (by omega) (by omega)) e
theorem Led0.one {k : Nat → Int} {gt : Nat → Nat → Prop} {n p : Nat} {t u : T3} (x : Led0 k gt n p t) (y : Led0 k gt n p u) : t = u := by
  obtain ⟨e, x1, x2, x3, x4⟩ := x
  obtain ⟨e', y1, y2, y3, y4⟩ := y
  obtain ⟨t1, t2, t3⟩ := t
  obtain ⟨u1, u2, u3⟩ := u
  obtain rfl := x1.one y1
  dsimp only at *
  obtain rfl : t3 = u3 := x2.trans y2.symm
  obtain rfl := x3.one y3
  obtain rfl := x4.one y4
  rfl
def LedAt (k : Nat → Int) (gt : Nat → Nat → Prop) (n p : Nat) (t : T3) : Prop := Led0 k gt n p t ∧ 2 * t.2.2 ≤ t.2.1 - t.1
def LedOf (k : Nat → Int) (gt : Nat → Nat → Prop) (n i : Nat) (T : List T3) : Prop := T.Nodup ∧ ∀ t, t ∈ T ↔ ∃ p, p < i ∧ LedAt k gt n p t
theorem LedOf.zero {k : Nat → Int} {gt : Nat → Nat → Prop} {n : Nat} : LedOf k gt n 0 [] := ⟨List.nodup_nil, fun t => ⟨fun h => (nomatch h), fun ⟨p, hp, _⟩ => absurd hp (Nat.not_lt_zero _)⟩⟩
theorem LedOf.none {k : Nat → Int} {gt : Nat → Nat → Prop} {n i : Nat} {T : List T3} (h : LedOf k gt n i T) (hn : ∀ t, LedAt k gt n i t → t ∈ T) : LedOf k gt n (i + 1) T :=
  ⟨h.1, fun t => (h.2 t).trans ⟨fun ⟨p, hp, q⟩ => ⟨p, by omega, q⟩, fun ⟨p, hp, q⟩ => by
    by_cases e : p = i
    · subst e; exact (h.2 t).mp (hn t q)
    · exact ⟨p, by omega, q⟩⟩⟩
theorem LedOf.more {k : Nat → Int} {gt : Nat → Nat → Prop} {n i : Nat} {T : List T3} {t : T3} (h : LedOf k gt n i T) (ht : LedAt k gt n i t) (hn : t ∉ T) : LedOf k gt n (i + 1) (T ++ [t]) := by
  refine ⟨List.nodup_append.mpr ⟨h.1, by simp, ?_⟩, fun u => ?_⟩
  · intro a ha b hb e
    rw [List.mem_singleton] at hb
    subst hb; subst e; exact hn ha
  · rw [List.mem_append, List.mem_singleton, h.2 u]
    constructor
    · rintro (⟨p, hp, q⟩ | rfl)
      · exact ⟨p, by omega, q⟩
      · exact ⟨i, by omega, ht⟩
    · rintro ⟨p, hp, q⟩
      by_cases e : p = i
      · subst e; exact .inr (q.1.one ht.1)
      · exact .inl ⟨p, by omega, q⟩

structure LedM (m : PySem.Str → Option Value) (a1 a2 td : Addr) : Prop where
  word : m "word" = some (.ref a1)
  tails : m "tails" = some (.ref a2)
  told : m "told" = some (.ref td)

theorem led_call {w : World} {A : Around} {s : Shared} {R : Result → Shared → Prop} {a1 a2 : Addr} {n : Nat} {k : Nat → Int} {σ : Nat → PySem.Str}
  {ws ts : List Value} (G : Gd w s.heap) (hh : A.handled = none) (hroom : A.depth < recursionLimit) (hu : A.units < 5000)
  (h1 : HasAt s.heap a1 (oList ws)) (h2 : IntL ws n k) (h3 : HasAt s.heap a2 (oList ts)) (h4 : StrL ts n σ) (hn : n ≤ 63)
  (hR : ∀ a s' vs T, T.length ≤ n → Sub s.heap s'.heap → s'.gens = s.gens → s'.os = s.os → s.toks ≤ s'.toks → HasAt s'.heap a (oList vs) → TupsAt s'.heap vs T → Srt T → T.Nodup → (∀ t, t ∈ T ↔ ∃ p, p < n ∧ LedAt k (LtS σ) n p t) → R (.ok (.ret (.ref a))) s') :
  codeAny (model PW w) A (.call (.ref 111) ⟨[.ref a1, .ref a2], []⟩) R s := by
  refine fn_call (binds := [("word", .ref a1), ("tails", .ref a2)]) G hh hroom (G.X 111 _ rfl) rfl rfl rfl (locs rfl) rfl rfl rfl (by decide) fun A' L s1 hA hd hu' H => ?_
  dsimp only [List.reverse, List.reverseAux] at H
  repeat walk_at "m"
  refine n_list H (by decide) fun td s2 H2 => ?_
  clear H
  have e1 := h2.1
  have e2 := h4.1
  repeat walk_at "m"
  rename_i H4 hr
  refine p_range (n := n) H4 hr (by omega) (by omega) (by omega) (by omega) (by rw [rangeSize_one]; split <;> omega) fun it s5 H5 => ?_
  clear H4 hr
  refine for_range (J := fun i g m ms => Sub s.heap g ∧ LedM m a1 a2 td ∧ ∃ vs T, ms = [(td, oList vs)] ∧ TupsAt g vs T ∧ T.length ≤ i ∧ LedOf k (LtS σ) n i T) hA rfl rfl rfl 0 n it ?turn ?fin ?start H5
  case start => exact ⟨Sub.refl _, ⟨by walk_at "lk", by walk_at "lk", by walk_at "lk"⟩, [], [], rfl, .nil, Nat.le_refl _, LedOf.zero⟩
  case fin =>
    rintro g m ms s' ⟨hg, M, vs, T, rfl, hT, hz, hL⟩ H'
    refine ⟨.next, rfl, ?_⟩
    have G' := G.sub hg
    obtain ⟨M1, M2, M3⟩ := M
    repeat walk_at "m"
    rename_i H6
    refine b_sorted H6 (by walk_at "rd") hT hL.1 (by omega) (by omega) fun a' g' vs' T' s7 hg' ha hT' hp hS H7 => ?_
    repeat walk_at "m"
    exact hR a' s7 vs' T' (by rw [hp.length_eq]; exact hz) (hg.trans (hg'.trans H7.keep)) H7.gens H7.os H7.tm (ha.sub H7.keep) (hT'.sub H7.keep) hS (hp.nodup_iff.mpr hL.1) (fun t => (hp.mem_iff).trans (hL.2 t))
  case turn =>
    rintro i g m ms s' o t c hc hi ⟨hg, M, vs, T, rfl, hT, hz, hL⟩ H'
    obtain rfl : c = (i : Int) := by omega
    have h1g := h1.sub hg
    have h3g := h3.sub hg
    have G' := G.sub hg
    obtain ⟨M1, M2, M3⟩ := M
    clear H5
    repeat walk_at "m"
    rename_i H'' 
    refine x_whileM (fun n' m' => ∃ e t, m' "end" = some (.int (e : Nat) t) ∧ (∃ t, m' "place" = some (.int (i : Nat) t)) ∧ LedM m' a1 a2 td ∧ i < e ∧ e ≤ n ∧ (∀ j, i < j → j < e → LtS σ i j) ∧ n' = n - e)
      (fun m' => ∃ e t, m' "end" = some (.int (e : Nat) t) ∧ (∃ t, m' "place" = some (.int (i : Nat) t)) ∧ LedM m' a1 a2 td ∧ LedE (LtS σ) n i e) ?wt (n - (i + 1)) ?ws H'' ?wk
    case ws => exact ⟨i + 1, _, by walk_at "lk", ⟨_, by walk_at "lk"⟩, ⟨by walk_at "lk", by walk_at "lk", by walk_at "lk"⟩, by omega, by omega, fun j _ _ => by omega, rfl⟩
    case wt =>
      rintro n' m' s1 ⟨e, te, me, ⟨tp, mp⟩, ⟨x1, x2, x3⟩, he1, he2, hgt, rfl⟩ H1
      repeat walk_at "m"
      refine if_dec (fun q => ?_) (fun q => ?_)
      · obtain ⟨t1, y1⟩ := h4.2 e (by omega)
        obtain ⟨t2, y2⟩ := h4.2 i (by omega)
        repeat walk_at "m"
        refine i_item (by assumption) (.inr h3g) (by omega) (by omega) y1 (by with_unfolding_all rfl) ?_
        repeat walk_at "m"
        refine i_item (by assumption) (.inr h3g) (by omega) (by omega) y2 (by with_unfolding_all rfl) ?_
        repeat walk_at "m"
        refine if_dec (fun r => ?_) (fun r => ?_)
        · repeat walk_at "m"
          rename_i H3
          refine ⟨rfl, n - (e + 1), _, by omega, ⟨e + 1, _, by walk_at "lk", ⟨tp, by walk_at "lk"⟩, ⟨by walk_at "lk", by walk_at "lk", by walk_at "lk"⟩, by omega, by omega, fun j u v => ?_, rfl⟩, H3⟩
          by_cases z : j = e
          · subst z; exact r
          · exact hgt j u (by omega)
        · refine ite_f ⟨m', ⟨e, te, me, ⟨tp, mp⟩, ⟨x1, x2, x3⟩, he1, he2, hgt, .inr r⟩, by assumption⟩
      · exact ite_f ⟨m', ⟨e, te, me, ⟨tp, mp⟩, ⟨x1, x2, x3⟩, he1, he2, hgt, .inl (by omega)⟩, by assumption⟩
    case wk =>
      rintro m1 s1 ⟨e0, te, me, ⟨tp, mp⟩, ⟨x1, x2, x3⟩, hE⟩ H1
      clear H''
      have hp0 := hE.1
      have hp1 := hE.2.1
      repeat walk_at "m"
      rename_i H2
      refine n_tupH H2 (by simp) fun ta s2 H3 ht => ?_
      refine u_tupH hA H3 ht rfl fun s3 H4 => ?_
      clear H2 H3 ht
      dsimp only [List.reverse, List.reverseAux]
      repeat walk_at "m"
      rename_i H5
      obtain ⟨st, hst, hst1⟩ : ∃ st : Nat, (e0 : Int) - (i : Int) = (st : Int) ∧ st = e0 - i := ⟨e0 - i, by omega, rfl⟩
      rw [hst] at H5
      refine x_whileM (fun n' m' => ∃ e t, m' "end" = some (.int (e : Nat) t) ∧ (∃ t, m' "step" = some (.int (st : Nat) t)) ∧ (∃ t, m' "front" = some (.int (i : Nat) t)) ∧ LedM m' a1 a2 td ∧ e0 ≤ e ∧ e ≤ n ∧ (∀ j, e0 ≤ j → j < e → k j = k (j - st)) ∧ n' = n - e)
        (fun m' => ∃ e t, m' "end" = some (.int (e : Nat) t) ∧ (∃ t, m' "step" = some (.int (st : Nat) t)) ∧ (∃ t, m' "front" = some (.int (i : Nat) t)) ∧ LedM m' a1 a2 td ∧ ExtE k n e0 st e) ?wt (n - e0) ?ws H5 ?wk
      case ws => exact ⟨e0, _, by walk_at "lk", ⟨_, by walk_at "lk"⟩, ⟨_, by walk_at "lk"⟩, ⟨by walk_at "lk", by walk_at "lk", by walk_at "lk"⟩, by omega, by omega, fun j _ _ => by omega, rfl⟩
      case wt =>
        rintro n' m' s1 ⟨e, te', me', ⟨ts', ms'⟩, ⟨tf, mf⟩, ⟨y1, y2, y3⟩, he1, he2, heq, rfl⟩ H1
        repeat walk_at "m"
        refine if_dec (fun q => ?_) (fun q => ?_)
        · obtain ⟨t1, z1⟩ := h2.2 e (by omega)
          obtain ⟨t2, z2⟩ := h2.2 (e - st) (by omega)
          repeat walk_at "m"
          refine i_item (by assumption) (.inr h1g) (by omega) (by omega) z1 (by with_unfolding_all rfl) ?_
          repeat walk_at "m"
          refine i_item (by assumption) (.inr h1g) (i := (e : Int) - st) (by omega) (by omega) (by rw [show ((e : Int) - st).toNat = e - st by omega]; exact z2) (by with_unfolding_all rfl) ?_
          repeat walk_at "m"
          refine if_dec (fun r => ?_) (fun r => ?_)
          · repeat walk_at "m"
            rename_i H3
            refine ⟨rfl, n - (e + 1), _, by omega, ⟨e + 1, _, by walk_at "lk", ⟨_, by walk_at "lk"⟩, ⟨_, by walk_at "lk"⟩, ⟨by walk_at "lk", by walk_at "lk", by walk_at "lk"⟩, by omega, by omega, fun j u v => ?_, rfl⟩, H3⟩
            by_cases z : j = e
            · subst z; exact r
            · exact heq j u (by omega)
          · exact ite_f ⟨m', ⟨e, te', me', ⟨_, ms'⟩, ⟨_, mf⟩, ⟨y1, y2, y3⟩, he1, he2, heq, .inr r⟩, by assumption⟩
        · exact ite_f ⟨m', ⟨e, te', me', ⟨_, ms'⟩, ⟨_, mf⟩, ⟨y1, y2, y3⟩, he1, he2, heq, .inl (by omega)⟩, by assumption⟩
      case wk =>
        rintro m2 s2 ⟨e, te', me', ⟨ts', ms'⟩, ⟨tf, mf⟩, ⟨y1, y2, y3⟩, hX⟩ H1
        clear H5
        repeat walk_at "m"
        refine x_whileM (fun n' m' => ∃ f t, m' "front" = some (.int (f : Nat) t) ∧ (∃ t, m' "step" = some (.int (st : Nat) t)) ∧ (∃ t, m' "end" = some (.int (e : Nat) t)) ∧ LedM m' a1 a2 td ∧ f ≤ i ∧ (∀ j, f ≤ j → j < i → k j = k (j + st)) ∧ n' = f)
          (fun m' => ∃ f t, m' "front" = some (.int (f : Nat) t) ∧ (∃ t, m' "step" = some (.int (st : Nat) t)) ∧ (∃ t, m' "end" = some (.int (e : Nat) t)) ∧ LedM m' a1 a2 td ∧ ExtF k i st f) ?wt i ?ws (by assumption) ?wk
        case ws => exact ⟨i, _, mf, ⟨_, ms'⟩, ⟨_, me'⟩, ⟨y1, y2, y3⟩, by omega, fun j _ _ => by omega, rfl⟩
        case wt =>
          rintro n' m' s1 ⟨f, tf', mf', ⟨ts'', ms''⟩, ⟨te'', me''⟩, ⟨z1, z2, z3⟩, hf1, heq, rfl⟩ H1
          repeat walk_at "m"
          refine if_dec (fun q => ?_) (fun q => ?_)
          · obtain ⟨t1, w1⟩ := h2.2 (n' - 1) (by omega)
            obtain ⟨t2, w2⟩ := h2.2 (n' - 1 + st) (by omega)
            repeat walk_at "m"
            refine i_item (by assumption) (.inr h1g) (i := (n' : Int) - 1) (by omega) (by omega) (by rw [show ((n' : Int) - 1).toNat = n' - 1 by omega]; exact w1) (by with_unfolding_all rfl) ?_
            repeat walk_at "m"
            refine i_item (by assumption) (.inr h1g) (i := (n' : Int) - 1 + st) (by omega) (by omega) (by rw [show ((n' : Int) - 1 + st).toNat = n' - 1 + st by omega]; exact w2) (by with_unfolding_all rfl) ?_
            repeat walk_at "m"
            refine if_dec (fun r => ?_) (fun r => ?_)
            · repeat walk_at "m"
              rename_i H3
              refine ⟨rfl, n' - 1, _, by omega, ⟨n' - 1, _, by rw [show ((n' - 1 : Nat) : Int) = (n' : Int) - 1 by omega]; walk_at "lk", ⟨_, by walk_at "lk"⟩, ⟨_, by walk_at "lk"⟩, ⟨by walk_at "lk", by walk_at "lk", by walk_at "lk"⟩, by omega, fun j u v => ?_, rfl⟩, H3⟩
              by_cases z : j = n' - 1
              · subst z; exact r
              · exact heq j (by omega) v
            · exact ite_f ⟨m', ⟨n', tf', mf', ⟨_, ms''⟩, ⟨_, me''⟩, ⟨z1, z2, z3⟩, hf1, heq, .inr r⟩, by assumption⟩
          · exact ite_f ⟨m', ⟨n', tf', mf', ⟨_, ms''⟩, ⟨_, me''⟩, ⟨z1, z2, z3⟩, hf1, heq, .inl (by omega)⟩, by assumption⟩
        case wk =>
          rintro m3 s3 ⟨f, tf', mf', ⟨ts'', ms''⟩, ⟨te'', me''⟩, ⟨z1, z2, z3⟩, hF⟩ H1
          have L0 : Led0 k (LtS σ) n i (f, e, st) := ⟨e0, hE, hst1, hX, hF⟩
          have hf1 := hF.1
          have he1 := hX.1
          have he2 := hX.2.1
          have skip : ¬ LedAt k (LtS σ) n i (f, e, st) ∨ (f, e, st) ∈ T → LedOf k (LtS σ) n (i + 1) T := fun q => hL.none fun t ht => by
            have := ht.1.one L0
            subst this
            rcases q with q | q
            · exact absurd ht q
            · exact q
          repeat walk_at "m"
          refine if_dec (fun q => ?_) (fun q => ?_)
          · repeat walk_at "m"
            rename_i H3
            refine n_tupH H3 (by simp) fun ta s4 H4 ht => ?_
            clear H3
            repeat walk_at "m"
            rename_i H5
            refine notin3 (t := (f, e, st)) H5 (by walk_at "rd") hT ⟨ta, _, _, _, rfl, ht⟩ (by omega) ?_
            repeat walk_at "m"
            refine if_dec (fun r => ?_) (fun r => ?_)
            · repeat walk_at "m"
              rename_i H5
              refine n_tup H5 (by simp) fun tb g' s6 hg' ht' H6 => ?_
              repeat walk_at "m"
              refine b_app 2 H6 rfl (by have := hT.length; omega) fun s7 H7 => ?_
              refine ⟨rfl, ?_⟩
              repeat walk_at "m"
              refine ⟨rfl, g', m3, _, ⟨hg.trans hg', ⟨z1, z2, z3⟩, _, _, rfl, (hT.sub hg').snoc ⟨tb, _, _, _, rfl, ht'⟩, by simp; omega, hL.more ⟨L0, by show 2 * st ≤ e - f; omega⟩ r⟩, H7⟩
            · repeat walk_at "m"
              rename_i H5
              refine ⟨rfl, g, m3, _, ⟨hg, ⟨z1, z2, z3⟩, _, _, rfl, hT, by omega, skip (.inr (Classical.not_not.mp r))⟩, H5⟩
          · repeat walk_at "m"
            rename_i H5
            refine ⟨rfl, g, m3, _, ⟨hg, ⟨z1, z2, z3⟩, _, _, rfl, hT, by omega, skip (.inl fun h => q (by have := h.2; dsimp only at this; omega))⟩, H5⟩
end
local macro_rules | `(tactic| walk_at "ev") => `(tactic| first
  | with_reducible refine e_and2 ?_
  | with_reducible refine e_slice ?_)
local macro_rules | `(tactic| walk_at "tr") => `(tactic| first
  | with_reducible refine t_name ?_)
local macro_rules | `(tactic| walk_at "bi") => `(tactic| first
  | ((with_reducible rename Ok _ _ _ _ => hO); ((with_reducible refine' i_mod hO ?h0 ?_)); (case h0 => omega); intro _ _ _; clear hO)
  | ((with_reducible rename Ok _ _ _ _ => hO); ((with_reducible refine' i_divS hO ?h0 ?hb ?_)); (case h0 => omega); (case hb => omega); intro _ _ _; clear hO))
local macro_rules | `(tactic| walk_at "m") => `(tactic| first
  | with_reducible refine v_none ?_
  | with_reducible refine v_some ?_)
/-! text FRep -/
section
theorem e_cutH {w : World} {A : Around} {E : Value → Shared → Prop} {g : Heap} {ms : List Ent} {s₀ s : Shared} {env : Env} {e : Expr} {Q : Value → Shared → Prop} (V : Value → Prop) (H : Ok g ms s₀ s)
    (h : ∀ Q' : Value → Shared → Prop, (∀ v s', V v → Ok g ms s₀ s' → Q' v s') → wpAny (model PW w) A (eval e env) Q' E s) (k : ∀ v s', V v → Ok g ms s₀ s' → Q v s') : wpAny (model PW w) A (eval e env) Q E s := h Q k
def LikeE (h : Nat → Int) (st e like : Nat) : Prop := like ≤ e - st ∧ (∀ j, j < like → (h e - h (e - st)) % (64 : Int) ^ (j + 1) = 0) ∧ (like = e - st ∨ ¬ (h e - h (e - st)) % (64 : Int) ^ (like + 1) = 0)
def OnE (h : Nat → Int) (n st e : Nat) : Prop := e < n ∧ (h (e + 1) - h (e + 1 - st)) % 64 = 0
def Rep (h : Nat → Int) (n : Nat) (t : T3) : Prop := 1 ≤ t.2.2 ∧ 2 * t.2.2 ≤ t.2.1 ∧ t.2.1 ≤ n ∧ ∃ like, LikeE h t.2.2 t.2.1 like ∧ t.2.2 ≤ like ∧ t.1 = t.2.1 - t.2.2 - like ∧ ¬ OnE h n t.2.2 t.2.1
def RepMin (h : Nat → Int) (n : Nat) (t : T3) : Prop := Rep h n t ∧ ∀ st', st' < t.2.2 → ¬ Rep h n (t.1, t.2.1, st')
def RepsOf (h : Nat → Int) (n : Nat) (V : T3 → Prop) (T : List T3) : Prop := T.Nodup ∧ ∀ t, t ∈ T ↔ V t ∧ RepMin h n t
theorem LikeE.one {h : Nat → Int} {st e a b : Nat} (x : LikeE h st e a) (y : LikeE h st e b) : a = b := by
  obtain ⟨x1, x3, x4⟩ := x
  obtain ⟨y1, y3, y4⟩ := y
  rcases Nat.lt_trichotomy a b with q | q | q
  · rcases x4 with e' | e'
    · omega
    · exact absurd (y3 a q) e'
  · exact q
  · rcases y4 with e' | e'
    · omega
    · exact absurd (x3 b q) e'
def VAt (i j : Nat) (t : T3) : Prop := t.2.2 < i + 1 ∨ (t.2.2 = i + 1 ∧ t.2.1 < 2 * (i + 1) + j)
theorem RepsOf.congr {h : Nat → Int} {n : Nat} {V V' : T3 → Prop} {T : List T3} (x : RepsOf h n V T) (e : ∀ t, Rep h n t → (V t ↔ V' t)) : RepsOf h n V' T :=
  ⟨x.1, fun t => (x.2 t).trans ⟨fun ⟨a, b⟩ => ⟨(e t b.1).mp a, b⟩, fun ⟨a, b⟩ => ⟨(e t b.1).mpr a, b⟩⟩⟩
theorem RepsOf.zero {h : Nat → Int} {n : Nat} : RepsOf h n (VAt 0 0) [] := ⟨List.nodup_nil, fun t => ⟨fun h => (nomatch h), fun ⟨v, r, _⟩ => by
  obtain ⟨r1, r2, r3, _⟩ := r
  rcases v with v | v
  · omega
  · omega⟩⟩
theorem RepsOf.turn {h : Nat → Int} {n i : Nat} {T : List T3} (x : RepsOf h n (VAt i (n + 1 - 2 * (i + 1))) T) : RepsOf h n (VAt (i + 1) 0) T := x.congr fun t r => by
  obtain ⟨r1, r2, r3, _⟩ := r
  unfold VAt; omega
/-- nothing new at the step and the end -/
theorem RepsOf.none {h : Nat → Int} {n i j : Nat} {T : List T3} (x : RepsOf h n (VAt i j) T) (hn : ∀ f, RepMin h n (f, 2 * (i + 1) + j, i + 1) → False) : RepsOf h n (VAt i (j + 1)) T :=
  ⟨x.1, fun t => (x.2 t).trans ⟨fun ⟨a, b⟩ => ⟨by unfold VAt at *; omega, b⟩, fun ⟨a, b⟩ => ⟨by
    obtain ⟨t1, t2, t3⟩ := t
    unfold VAt at *
    dsimp only at *
    by_cases e : t3 = i + 1 ∧ t2 = 2 * (i + 1) + j
    · obtain ⟨rfl, rfl⟩ := e
      exact (hn _ b).elim
    · omega, b⟩⟩⟩
theorem RepsOf.more {h : Nat → Int} {n i j f : Nat} {T : List T3} (x : RepsOf h n (VAt i j) T) (hr : Rep h n (f, 2 * (i + 1) + j, i + 1)) (hp : (f, 2 * (i + 1) + j) ∉ T.map fun t => (t.1, t.2.1)) : RepsOf h n (VAt i (j + 1)) (T ++ [(f, 2 * (i + 1) + j, i + 1)]) := by
  have hmin : RepMin h n (f, 2 * (i + 1) + j, i + 1) := by
    refine ⟨hr, fun st' => ?_⟩
    induction st' using Nat.strongRecOn with
    | _ st' ih =>
      intro hlt hr'
      refine hp (List.mem_map.mpr ⟨(f, 2 * (i + 1) + j, st'), (x.2 _).mpr ⟨.inl (by dsimp only at *; omega), hr', fun st'' h2 hr'' => ih st'' h2 (by dsimp only at *; omega) hr''⟩, rfl⟩)
  refine ⟨List.nodup_append.mpr ⟨x.1, by simp, ?_⟩, fun u => ?_⟩
  · intro a ha b hb e
    rw [List.mem_singleton] at hb
    subst hb; subst e
    exact hp (List.mem_map.mpr ⟨_, ha, rfl⟩)
  · rw [List.mem_append, List.mem_singleton, x.2 u]
    constructor
    · rintro (⟨v, q⟩ | rfl)
      · exact ⟨by unfold VAt at *; omega, q⟩
      · exact ⟨.inr ⟨rfl, by dsimp only; omega⟩, hmin⟩
    · rintro ⟨v, q⟩
      obtain ⟨u1, u2, u3⟩ := u
      unfold VAt at *
      dsimp only at *
      by_cases e : u3 = i + 1 ∧ u2 = 2 * (i + 1) + j
      · obtain ⟨rfl, rfl⟩ := e
        obtain ⟨_, _, _, l1, a1, a2, a3, _⟩ := q.1
        obtain ⟨_, _, _, l2, b1, b2, b3, _⟩ := hr
        obtain rfl := a1.one b1
        dsimp only at *
        exact .inr (by rw [a3, b3])
      · exact .inl ⟨by omega, q⟩
theorem RepsOf.dup {h : Nat → Int} {n i j f : Nat} {T : List T3} (x : RepsOf h n (VAt i j) T) (hr : Rep h n (f, 2 * (i + 1) + j, i + 1)) (hp : (f, 2 * (i + 1) + j) ∈ T.map fun t => (t.1, t.2.1)) : RepsOf h n (VAt i (j + 1)) T := x.none fun f' q => by
  obtain ⟨⟨t1, t2, t3⟩, ht, e⟩ := List.mem_map.mp hp
  obtain ⟨rfl, rfl⟩ := (Prod.mk.injEq _ _ _ _).mp e
  obtain ⟨v, r⟩ := (x.2 _).mp ht
  obtain ⟨_, _, _, l1, a1, a2, a3, _⟩ := q.1
  obtain ⟨_, _, _, l2, b1, b2, b3, _⟩ := hr
  obtain rfl := a1.one b1
  dsimp only at *
  rw [← b3] at a3
  subst a3
  refine q.2 t3 ?_ r.1
  unfold VAt at v; dsimp only at *; omega
theorem RepsOf.fin {h : Nat → Int} {n : Nat} {T : List T3} (x : RepsOf h n (VAt (n / 2) 0) T) : ∀ t, t ∈ T ↔ RepMin h n t := fun t => (x.2 t).trans ⟨fun q => q.2, fun q => ⟨.inl (by have := q.1.2.1; have := q.1.2.2.1; omega), q⟩⟩

structure RepM (n : Nat) (m : PySem.Str → Option Value) (a1 td : Addr) : Prop where
  heads : m "heads" = some (.ref a1)
  told : m "told" = some (.ref td)
  size : ∃ t, m "size" = some (.int (n : Int) t)

theorem rep_call {w : World} {A : Around} {s : Shared} {R : Result → Shared → Prop} {a1 : Addr} {n : Nat} {h : Nat → Int}
  {ws : List Value} (G : Gd w s.heap) (hh : A.handled = none) (hroom : A.depth < recursionLimit) (hu : A.units < 5000)
  (h1 : HasAt s.heap a1 (oList ws)) (h2 : IntL ws (n + 1) h) (hn : n ≤ 20)
  (hR : ∀ a s' vs T, T.length ≤ 210 → s.heap.get? a = none → Sub s.heap s'.heap → s'.gens = s.gens → s'.os = s.os → s.toks ≤ s'.toks → HasAt s'.heap a (oList vs) → TupsAt s'.heap vs T → T.Nodup → (∀ t, t ∈ T ↔ RepMin h n t) → R (.ok (.ret (.ref a))) s') :
  codeAny (model PW w) A (.call (.ref 116) ⟨[.ref a1], []⟩) R s := by
  refine fn_call (binds := [("heads", .ref a1)]) G hh hroom (G.X 116 _ rfl) rfl rfl rfl (locs rfl) rfl rfl rfl (by decide) fun A' L s1 hA hd hu' H => ?_
  dsimp only [List.reverse, List.reverseAux] at H
  repeat walk_at "m"
  refine n_list H (by decide) fun td s2 H2 => ?_
  clear H
  have e1 := h2.1
  repeat walk_at "m"
  rename_i H4 hr
  refine p_range (n := n / 2) H4 hr (by omega) (by omega) (by omega) (by omega) (by rw [rangeSize_one]; split <;> omega) fun it s5 H5 => ?_
  clear H4 hr
  refine for_range (J := fun i g m ms => Sub s.heap g ∧ RepM n m a1 td ∧ ∃ vs T, ms = [(td, oList vs)] ∧ TupsAt g vs T ∧ T.length ≤ i * 21 ∧ RepsOf h n (VAt i 0) T) hA rfl rfl rfl 1 (n / 2) it ?turn ?fin ?start H5
  case start => exact ⟨Sub.refl _, ⟨by walk_at "lk", by walk_at "lk", ⟨_, by rw [show (n : Int) = ↑ws.length - 1 by omega]; walk_at "lk"⟩⟩, [], [], rfl, .nil, Nat.zero_le _, RepsOf.zero⟩
  case fin =>
    rintro g m ms s' ⟨hg, M, vs, T, rfl, hT, hz, hL⟩ H'
    refine ⟨.next, rfl, ?_⟩
    obtain ⟨M1, M2, M3⟩ := M
    have hb := H'.at_ (td, oList vs) (by simp)
    have fresh : s.heap.get? td = none := by
      cases e : s.heap.get? td with
      | none => rfl
      | some o => exact absurd (H'.new (td, oList vs) (by simp)) (by rw [hg _ _ e]; exact fun h => nomatch h)
    have q := hR td _ vs T (by omega) fresh (hg.trans H'.keep) H'.gens H'.os H'.tm hb (hT.sub H'.keep) hL.1 hL.fin
    repeat walk_at "m"
    exact q
  case turn =>
    rintro i g m ms s' o t c hc hi ⟨hg, M, vs, T, rfl, hT, hz, hL⟩ H'
    have h1g := h1.sub hg
    have G' := G.sub hg
    obtain ⟨M1, M2, t3, M3⟩ := M
    clear H5
    repeat walk_at "m"
    rename_i H4 hr
    refine p_range (n := n + 1 - 2 * (i + 1)) H4 hr (by omega) (by omega) (by omega) (by omega) (by rw [rangeSize_one]; split <;> omega) fun it2 s5 H5 => ?_
    clear H4 hr
    refine for_range (J := fun j g m ms => Sub s.heap g ∧ RepM n m a1 td ∧ (∃ t, m "step" = some (.int ((i + 1 : Nat) : Int) t)) ∧ ∃ vs T, ms = [(it, oIs o), (td, oList vs)] ∧ TupsAt g vs T ∧ T.length ≤ i * 21 + j ∧ RepsOf h n (VAt i j) T) hA rfl rfl rfl (2 * c) (n + 1 - 2 * (i + 1)) it2 ?turn ?fin ?start H5
    case start => exact ⟨hg, ⟨by walk_at "lk", by walk_at "lk", ⟨_, by walk_at "lk"⟩⟩, ⟨t, by rw [show ((i + 1 : Nat) : Int) = c by omega]; walk_at "lk"⟩, vs, T, rfl, hT, by omega, hL⟩
    case fin =>
      rintro g m ms s' ⟨hg, M, _, vs, T, rfl, hT, hz, hL⟩ H'
      refine ⟨.next, rfl, ?_⟩
      repeat walk_at "m"
      exact ⟨rfl, g, m, _, ⟨hg, M, vs, T, rfl, hT, by omega, hL.turn⟩, H'⟩
    case turn =>
      rintro j g m ms s' o2 t c2 hc2 hj ⟨hg, M, ⟨t4, M4⟩, vs, T, rfl, hT, hz, hL⟩ H'
      have h1g := h1.sub hg
      have G' := G.sub hg
      obtain ⟨M1, M2, t3, M3⟩ := M
      clear H5
      obtain ⟨e, he, he'⟩ : ∃ e : Nat, c2 = (e : Int) ∧ e = 2 * (i + 1) + j := ⟨2 * (i + 1) + j, by omega, rfl⟩
      subst he
      have hen : e ≤ n := by omega
      have hei : 2 * (i + 1) ≤ e := by omega
      clear hj
      repeat walk_at "m"
      rename_i H5
      refine x_whileM (fun n' m' => ∃ k t, m' "like" = some (.int (k : Nat) t) ∧ RepM n m' a1 td ∧ (∃ t, m' "step" = some (.int ((i + 1 : Nat) : Int) t)) ∧ (∃ t, m' "end" = some (.int (e : Nat) t)) ∧ k ≤ e - (i + 1) ∧ (∀ j, j < k → (h e - h (e - (i + 1))) % (64 : Int) ^ (j + 1) = 0) ∧ n' = e - k)
        (fun m' => ∃ k t, m' "like" = some (.int (k : Nat) t) ∧ RepM n m' a1 td ∧ (∃ t, m' "step" = some (.int ((i + 1 : Nat) : Int) t)) ∧ (∃ t, m' "end" = some (.int (e : Nat) t)) ∧ LikeE h (i + 1) e k) ?wt e ?ws H5 ?wk
      case ws => exact ⟨0, _, by walk_at "lk", ⟨by walk_at "lk", by walk_at "lk", ⟨_, by walk_at "lk"⟩⟩, ⟨_, by walk_at "lk"⟩, ⟨_, by walk_at "lk"⟩, by omega, fun j h => absurd h (Nat.not_lt_zero _), rfl⟩
      case wt =>
        rintro n' m' s1 ⟨k, tk, mk, ⟨x1, x2, t5, x3⟩, ⟨t6, x4⟩, ⟨t7, x5⟩, hk, hall, rfl⟩ H1
        repeat walk_at "m"
        refine if_dec (fun q => ?_) (fun q => ?_)
        · obtain ⟨t1, y1⟩ := h2.2 e (by omega)
          obtain ⟨t2, y2⟩ := h2.2 (e - (i + 1)) (by omega)
          repeat walk_at "m"
          refine i_item (by assumption) (.inr h1g) (by omega) (by omega) y1 (by with_unfolding_all rfl) ?_
          repeat walk_at "m"
          refine i_item (by assumption) (.inr h1g) (i := (e : Int) - ((i + 1 : Nat) : Int)) (by omega) (by omega) (by rw [show ((e : Int) - ((i + 1 : Nat) : Int)).toNat = e - (i + 1) by omega]; exact y2) (by with_unfolding_all rfl) ?_
          repeat walk_at "m"
          refine i_pow (by assumption) (by omega) (by omega) (by omega) (by omega) fun t8 s8 H8 => ?_
          rw [show ((k : Int) + 1).toNat = k + 1 by omega]
          have hp : (0 : Int) < 64 ^ (k + 1) := Int.pow_pos (by omega)
          refine i_mod H8 hp fun t9 s9 H9 => ?_
          clear H8
          repeat walk_at "m"
          refine if_dec (fun r => ?_) (fun r => ?_)
          · repeat walk_at "m"
            rename_i H3
            refine ⟨rfl, e - (k + 1), _, by omega, ⟨k + 1, _, by walk_at "lk", ⟨by walk_at "lk", by walk_at "lk", ⟨_, by walk_at "lk"⟩⟩, ⟨_, by walk_at "lk"⟩, ⟨_, by walk_at "lk"⟩, by omega, fun j u => ?_, rfl⟩, H3⟩
            by_cases z : j = k
            · subst z; exact r
            · exact hall j (by omega)
          · refine ite_f ⟨m', ⟨k, tk, mk, ⟨x1, x2, t5, x3⟩, ⟨t6, x4⟩, ⟨t7, x5⟩, hk, hall, .inr r⟩, by assumption⟩
        · exact ite_f ⟨m', ⟨k, tk, mk, ⟨x1, x2, t5, x3⟩, ⟨t6, x4⟩, ⟨t7, x5⟩, hk, hall, .inl (by omega)⟩, by assumption⟩
      case wk =>
        rintro m' s1 ⟨k, tk, mk, ⟨x1, x2, t5, x3⟩, ⟨t6, x4⟩, ⟨t7, x5⟩, hK⟩ H1
        clear H5
        have hk0 := hK.1
        refine x_cons (g_exec ?_)
        walk_at "ex"
        refine e_cutH (fun v => ∃ b : Bool, v = .bool b ∧ (b = true ↔ OnE h n (i + 1) e)) H1 ?on ?_
        case on =>
          intro Q' kQ
          repeat walk_at "m"
          refine if_dec (fun q => ?_) (fun q => ?_)
          · obtain ⟨t1, y1⟩ := h2.2 (e + 1) (by omega)
            obtain ⟨t2, y2⟩ := h2.2 (e + 1 - (i + 1)) (by omega)
            repeat walk_at "m"
            refine i_item (by assumption) (.inr h1g) (i := (e : Int) + 1) (by omega) (by omega) (by rw [show ((e : Int) + 1).toNat = e + 1 by omega]; exact y1) (by with_unfolding_all rfl) ?_
            repeat walk_at "m"
            refine i_item (by assumption) (.inr h1g) (i := (e : Int) + 1 - ((i + 1 : Nat) : Int)) (by omega) (by omega) (by rw [show ((e : Int) + 1 - ((i + 1 : Nat) : Int)).toNat = e + 1 - (i + 1) by omega]; exact y2) (by with_unfolding_all rfl) ?_
            repeat walk_at "m"
            refine kQ _ _ ⟨_, rfl, ?_⟩ (by assumption)
            rw [decide_eq_true_eq]
            exact ⟨fun r => ⟨by omega, r⟩, fun r => r.2⟩
          · refine kQ _ _ ⟨_, rfl, ?_⟩ (by assumption)
            rw [decide_eq_true_eq]
            exact ⟨fun r => absurd r q, fun r => absurd (by have := r.1; omega) q⟩
        rintro _ s2 ⟨on, rfl, hon⟩ H2
        clear H1
        obtain ⟨f, hf, hf'⟩ : ∃ f : Nat, (e : Int) - ((i + 1 : Nat) : Int) - (k : Int) = (f : Int) ∧ f = e - (i + 1) - k := ⟨e - (i + 1) - k, by omega, rfl⟩
        repeat walk_at "m"
        rename_i H3
        rw [hf] at H3
        clear hf
        have skip : (∀ f, RepMin h n (f, 2 * (i + 1) + j, i + 1) → k < i + 1 ∨ on = true → False) := by
          rintro f ⟨⟨_, _, _, l, a1, a2, a3, a4⟩, _⟩ q
          dsimp only at *
          rw [← he'] at *
          obtain rfl := a1.one hK
          rcases q with q | q
          · omega
          · exact a4 (hon.mp q)
        refine if_dec (fun q => ?_) (fun q => ?_)
        · repeat walk_at "m"
          cases on with
          | true =>
            repeat walk_at "m"
            rename Ok _ _ _ _ => H5
            exact ⟨rfl, g, _, _, ⟨hg, ⟨by walk_at "lk", by walk_at "lk", ⟨_, by walk_at "lk"⟩⟩, ⟨_, by walk_at "lk"⟩, vs, T, rfl, hT, by omega, hL.none fun f hf => skip f hf (.inr rfl)⟩, H5⟩
          | false =>
            repeat walk_at "m"
            rename Ok _ _ _ _ => H5
            refine n_tup H5 (by simp) fun ta g4 s4 hg4 ht H4 => ?_
            clear H5
            refine e_comp (cl := []) (by intro _; with_unfolding_all rfl) (by rfl) rfl (by decide) ?_
            repeat walk_at "m"
            rename Ok _ _ _ _ => H5
            refine p_list H5 (by walk_at "rd") fun it3 s5 H6 => ?_
            clear H5
            have hlen := hT.length
            refine comp_walkF (itk_list it3 td vs) H6 hA (by omega) (by decide) rfl rfl (fun i g5 ys => ys.length = i ∧ Sub g4 g5 ∧ PairsAt g5 ys ((T.take i).map fun t => (t.1, t.2.1))) ?hJ ?j0 ?turn ?fin
            case hJ => exact fun i g5 ys q => ⟨.inl (by simp), q.1⟩
            case j0 => exact ⟨rfl, Sub.refl _, .nil⟩
            case turn =>
              rintro i5 g5 ys C acc mC s6 v hi5 ⟨hl5, hg5, hP⟩ hv hm H7
              obtain ⟨tr, htr, a9, y1, y2, y3, rfl, htup⟩ := hT.at _ _ hv
              clear H6
              have htup5 := htup.sub (hg4.trans hg5)
              repeat walk_at "m"
              rename_i H8
              have hsl : ∀ (s : Shared) (u : Tok), ({ s with heap := s.heap.push { cls := .type "slice", data := .fields #[.none, .int 2 u, .none] } } : Shared).heap.IsSliceOf s.heap.objs.size .none (.int 2 u) .none := fun s u => Heap.IsSliceOf.new ..
              refine t_two H8.sl (H8.sl.rd (.inr htup5)) (hsl _ _) fun a8 g8 s8 hg8 ht8 H10 => ?_
              refine ⟨g8, ⟨by simp [hl5], hg5.trans hg8, ?_⟩, H10⟩
              have e5 : (T.take (i5 + 1)).map (fun t => (t.1, t.2.1)) = (T.take i5).map (fun t => (t.1, t.2.1)) ++ [(tr.1, tr.2.1)] := by
                rw [List.take_succ, htr, List.map_append]; rfl
              rw [e5]
              exact (hP.sub hg8).snoc ⟨a8, y1, y2, rfl, ht8⟩
            case fin =>
              rintro g5 ys C acc mC s6 ⟨hl5, hg5, hP⟩ H7
              refine compPost_val H7 fun s7 H8 => ?_
              clear H7
              rw [List.take_of_length_le (by omega)] at hP
              have hrep : ∀ _ : i + 1 ≤ k, Rep h n (f, 2 * (i + 1) + j, i + 1) := fun q => ⟨by dsimp only; omega, by dsimp only; omega, by dsimp only; omega, k, by dsimp only; rw [← he']; exact hK, q, by dsimp only; omega, by dsimp only; rw [← he']; exact fun r => Bool.false_ne_true (hon.mpr r)⟩
              refine notin2 (t := (f, e)) H8 (.inl (.head _)) hP ⟨ta, _, _, rfl, (ht.sub hg5).sub H8.keep⟩ (by omega) ?_
              have H9 := H8.drop1
              clear H8
              repeat walk_at "m"
              refine if_dec (fun r => ?_) (fun r => ?_)
              · repeat walk_at "m"
                rename Ok _ _ _ _ => H9
                refine n_tup H9 (by simp) fun tb g' s6 hg' ht' H6 => ?_
                repeat walk_at "m"
                have hg6 := (hg4.trans hg5).trans hg'
                refine b_app 3 H6 rfl (by omega) fun s7 H7 => ?_
                refine ⟨rfl, ?_⟩
                repeat walk_at "m"
                refine ⟨rfl, g', _, _, ⟨hg.trans hg6, ⟨by walk_at "lk", by walk_at "lk", ⟨_, by walk_at "lk"⟩⟩, ⟨_, by walk_at "lk"⟩, _, T ++ [(f, e, i + 1)], rfl, (hT.sub hg6).snoc ⟨tb, _, _, _, rfl, ht'⟩, by simp; omega, ?_⟩, H7⟩
                rw [he']
                exact hL.more (hrep (by omega)) (by rw [← he']; exact r)
              · repeat walk_at "m"
                rename Ok _ _ _ _ => H9
                refine ⟨rfl, g5, _, _, ⟨hg.trans (hg4.trans hg5), ⟨by walk_at "lk", by walk_at "lk", ⟨_, by walk_at "lk"⟩⟩, ⟨_, by walk_at "lk"⟩, vs, T, rfl, hT.sub (hg4.trans hg5), by omega, hL.dup (hrep (by omega)) (by rw [← he']; exact Classical.not_not.mp r)⟩, H9⟩
        · repeat walk_at "m"
          rename Ok _ _ _ _ => H5
          exact ⟨rfl, g, _, _, ⟨hg, ⟨by walk_at "lk", by walk_at "lk", ⟨_, by walk_at "lk"⟩⟩, ⟨_, by walk_at "lk"⟩, vs, T, rfl, hT, by omega, hL.none fun f hf => skip f hf (.inl (by omega))⟩, H5⟩
end
local macro_rules | `(tactic| walk_at "m") => `(tactic| first
  | ((with_reducible rename Ok _ _ _ _ => hO); ((with_reducible refine' m_subP hO ?P ?_)); (case P => assumption); skip))
/-! text R5 -/
section
theorem first_hit (P : Nat → Prop) (n : Nat) : ∀ d p : Nat, d = n - p → (∃ q, p ≤ q ∧ q < n ∧ P q ∧ ∀ j, p ≤ j → j < q → ¬ P j) ∨ ∀ j, p ≤ j → j < n → ¬ P j
  | 0, p, h => .inr fun j a b => by omega
  | d + 1, p, h => by
    by_cases hp : P p
    · exact .inl ⟨p, Nat.le_refl _, by omega, hp, fun j a b => by omega⟩
    · rcases first_hit P n d (p + 1) (by omega) with ⟨q, a, b, c, e⟩ | e
      · exact .inl ⟨q, by omega, b, c, fun j x y => by
          by_cases z : j = p
          · subst z; exact hp
          · exact e j (by omega) y⟩
      · exact .inr fun j x y => by
          by_cases z : j = p
          · subst z; exact hp
          · exact e j (by omega) y
def norm : List Nat → List Nat
  | [] => []
  | 13 :: 10 :: r => 13 :: 10 :: norm r
  | 13 :: r => 13 :: 10 :: norm r
  | 10 :: r => 13 :: 10 :: norm r
  | c :: r => c :: norm r
def dots : Bool → List Nat → List Nat
  | _, [] => []
  | b, c :: r => if b = true ∧ c = 46 then 46 :: 46 :: dots false r else c :: dots (c == 10) r
theorem norm_crlf (r : List Nat) : norm (13 :: 10 :: r) = 13 :: 10 :: norm r := by rw [norm]
theorem norm_cr (r : List Nat) (h : ∀ r', r ≠ 10 :: r') : norm (13 :: r) = 13 :: 10 :: norm r := by
  rw [norm]
  intro r' e
  exact h r' e
theorem norm_lf (r : List Nat) : norm (10 :: r) = 13 :: 10 :: norm r := by rw [norm]
theorem norm_other (c : Nat) (r : List Nat) (h1 : c ≠ 10) (h2 : c ≠ 13) : norm (c :: r) = c :: norm r := by
  rw [norm]
  · intro r' e; exact absurd e h2
  · intro e; exact absurd e h2
  · intro e; exact absurd e h1
section
variable {l : List Nat} {p q : Nat}
theorem drop_at (h : p < l.length) : l.drop p = l.toArray.getD p 0 :: l.drop (p + 1) := by
  rw [List.drop_eq_getElem_cons h]
  congr 1
  simp [h]
theorem take_at (hpq : p < q) (h : p < l.length) : (l.drop p).take (q - p) = l.toArray.getD p 0 :: (l.drop (p + 1)).take (q - (p + 1)) := by
  rw [drop_at h, show q - p = (q - (p + 1)) + 1 by omega, List.take_succ_cons]
theorem norm_run : ∀ (d p : Nat), d = q - p → p ≤ q → q ≤ l.length → (∀ j, p ≤ j → j < q → ¬ hit2 l.toArray j) → norm (l.drop p) = (l.drop p).take (q - p) ++ norm (l.drop q)
  | 0, p, h, a, b, _ => by
    obtain rfl : p = q := by omega
    simp
  | d + 1, p, h, a, b, hno => by
    have hp := hno p (Nat.le_refl _) (by omega)
    rw [take_at (by omega) (by omega), drop_at (by omega), norm_other _ _ (fun e => hp (.inl e)) (fun e => hp (.inr e)), norm_run d (p + 1) (by omega) (by omega) b (fun j x y => hno j (by omega) y), List.cons_append]
theorem norm_none (h : p ≤ l.length) (hno : ∀ j, p ≤ j → j < l.length → ¬ hit2 l.toArray j) : norm (l.drop p) = l.drop p := by
  rw [norm_run (q := l.length) _ p rfl h (Nat.le_refl _) hno, List.drop_length, norm, List.append_nil, List.take_of_length_le (by rw [List.length_drop]; omega)]
theorem dots_run : ∀ (d p : Nat), d = q - p → p ≤ q → q ≤ l.length → (∀ j, p ≤ j → j < q → ¬ hit1 l.toArray j) → dots (bol l.toArray p) (l.drop p) = (l.drop p).take (q - p) ++ dots (bol l.toArray q) (l.drop q)
  | 0, p, h, a, b, _ => by
    obtain rfl : p = q := by omega
    simp
  | d + 1, p, h, a, b, hno => by
    have hp := hno p (Nat.le_refl _) (by omega)
    have hb : bol l.toArray (p + 1) = (l.toArray.getD p 0 == 10) := by
      unfold bol
      rw [show (p + 1 == 0) = false by simp, Bool.false_or]; rfl
    rw [take_at (by omega) (by omega), drop_at (by omega), dots, if_neg (show ¬ (bol l.toArray p = true ∧ l.toArray.getD p 0 = 46) from hp), ← hb, dots_run d (p + 1) (by omega) (by omega) b (fun j x y => hno j (by omega) y), List.cons_append]
theorem dots_none (h : p ≤ l.length) (hno : ∀ j, p ≤ j → j < l.length → ¬ hit1 l.toArray j) : dots (bol l.toArray p) (l.drop p) = l.drop p := by
  rw [dots_run (q := l.length) _ p rfl h (Nat.le_refl _) hno, List.drop_length, dots, List.append_nil, List.take_of_length_le (by rw [List.length_drop]; omega)]
theorem subst2 : Subst C2 l [13, 10] fun p => norm (l.drop p) := fun p hp => by
  rcases first_hit (hit2 l.toArray) l.length _ p rfl with ⟨q, a, b, c, e⟩ | e
  · refine .inl ⟨q, _, a, ?_, ?_, (f2_hit a b c e).mono (by omega), ?_⟩
    · split <;> omega
    · split <;> omega
    · dsimp only
      rw [norm_run _ p rfl a (by omega) e]
      congr 1
      rw [drop_at b]
      have hd : ∀ h : q + 1 < l.length, l.drop (q + 1) = l.toArray.getD (q + 1) 0 :: l.drop (q + 2) := fun h => drop_at h
      by_cases h : l.toArray.getD q 0 = 13 ∧ q + 1 < l.length ∧ l.toArray.getD (q + 1) 0 = 10
      · rw [if_pos h, h.1, hd h.2.1, h.2.2, norm_crlf]; rfl
      · rw [if_neg h]
        rcases c with c | c
        · rw [c, norm_lf]; rfl
        · rw [c, norm_cr]
          · rfl
          · intro r' e'
            by_cases hq : q + 1 < l.length
            · rw [hd hq] at e'
              exact h ⟨c, hq, (List.cons.inj e').1⟩
            · rw [List.drop_eq_nil_of_le (by omega)] at e'; cases e'
  · exact .inr ⟨p, p, (f2_none e).mono (by omega), norm_none hp e⟩
theorem subst1 : Subst C1 l [46, 46] fun p => dots (bol l.toArray p) (l.drop p) := fun p hp => by
  rcases first_hit (hit1 l.toArray) l.length _ p rfl with ⟨q, a, b, c, e⟩ | e
  · refine .inl ⟨q, q + 1, a, by omega, by omega, (f1_some a b c e).mono (by omega), ?_⟩
    dsimp only
    rw [dots_run _ p rfl a (by omega) e]
    congr 1
    have hb : bol l.toArray (q + 1) = false := by
      unfold bol
      rw [show (q + 1 == 0) = false by simp, Bool.false_or, show q + 1 - 1 = q by omega, c.2]; rfl
    rw [drop_at b, c.2, dots, if_pos ⟨c.1, rfl⟩, hb]; rfl
  · obtain ⟨x, y, h⟩ := f1_none e
    exact .inr ⟨x, y, h.mono (by omega), dots_none hp e⟩
end
theorem norm_len : ∀ l : List Nat, (norm l).length ≤ 2 * l.length := by
  intro l
  induction l using norm.induct with
  | case1 => simp [norm]
  | case2 r ih => rw [norm]; simp; omega
  | case3 r h ih => rw [norm_cr r h]; simp; omega
  | case4 r ih => rw [norm]; simp; omega
  | case5 c r h1 h2 h3 ih => rw [norm]; simp; omega; all_goals assumption
theorem dots_len : ∀ (l : List Nat) (b : Bool), (dots b l).length ≤ 2 * l.length
  | [], b => by simp [dots]
  | c :: r, b => by
    rw [dots]
    have h1 := dots_len r false
    have h2 := dots_len r (c == 10)
    split <;> simp <;> omega
def quote (l : List Nat) : List Nat := dots true (norm l)
-- Q
theorem quote_call {w : World} {A : Around} {s : Shared} {R : Result → Shared → Prop} {l : List Nat} {t : Tok} (G : Gd w s.heap) (hh : A.handled = none) (hroom : A.depth < recursionLimit) (hl : l.length < 1000)
    (hR : ∀ s' t', Sub s.heap s'.heap → s'.gens = s.gens → s'.os = s.os → s.toks ≤ s'.toks → R (.ok (.ret (.str (tx (quote l)) t'))) s') : codeAny (model PW w) A (.call (.ref 48) ⟨[.str (tx l) t], []⟩) R s := by
  refine fn_call (binds := [("data", .str (tx l) t)]) G hh hroom (G.X 48 _ rfl) rfl rfl rfl (locs rfl) rfl rfl rfl (by decide) fun A' L s1 hA hd hu' H => ?_
  dsimp only [List.reverse, List.reverseAux] at H
  have P1 := pat1 G
  have P2 := pat2 G
  repeat walk_at "m"
  refine b_sub (C := C2) (repl := [13, 10]) (res := fun p => norm (l.drop p)) P2 subst2 (by omega) (by decide) (by have := norm_len l; simp only [List.drop_zero]; omega) (by assumption) fun s2 t2 H2 => ?_
  rw [List.drop_zero]
  have hn := norm_len l
  have hq := dots_len (norm l) true
  repeat walk_at "m"
  refine b_sub (C := C1) (repl := [46, 46]) (res := fun p => dots (bol (norm l).toArray p) ((norm l).drop p)) P1 subst1 (by omega) (by decide) (by simp only [List.drop_zero]; show (dots true (norm l)).length < _; omega) (by assumption) fun s3 t3 H3 => ?_
  exact hR s3 t3 H3.keep H3.gens H3.os H3.tm
end
/-! text V1 -/
section
section
variable {w : World} {A : Around} {E : Value → Shared → Prop} {g : Heap} {ms : List Ent} {s₀ s : Shared} {env : Env} {pos : Pos} {L : Addr} {m : Str → Option Value} {a b : Int} {t u : Tok}
theorem b_next {it l : Addr} {i : Nat} {vs : List Value} {v : Value} {Q : Value → Shared → Prop} (j : Nat) (H : Ok g ms s₀ s) (hj : ms[j]? = some (it, oLit l i)) (r : Rd g ms l (oList vs)) (hv : vs[i]? = some v)
    (k : ∀ s', Ok g (ms.set j (it, oLit l (i + 1))) s₀ s' → Q v s') : wpAny (model PW w) A (call (.builtin "next") [.ref it]) Q E s := by
  have hit := (H.at_ _ (List.mem_of_getElem? hj)).lit
  obtain ⟨ol, hol, n, rfl⟩ := H.rd r
  obtain ⟨o, ho, hc, hd⟩ := id hit
  refine call_function_entry (by decide +kernel) (by decide +kernel) kdk_entry_next (kdk_args_next _) ?_
  unfold Builtin.«next»
  refine wpAny_bind (m := someArgs "next" 1 2 _) (wpAny_of_eq (a := [Value.ref it]) (by first | rfl | kernel_rfl!) ?_)
  dsimp only
  refine wpAny_bind (wpAny_specialOf (name := Str.ofString "__next__") hit.typeIs slot_listiter_next.lookup ?_)
  refine wpAny_ite_split (fun hab => absurd hab (by decide)) (fun _ => ?_)
  refine wpAny_bind (wpAny_callSpecial?_slot (name := Str.ofString "__next__") hit.typeIs slot_listiter_next
    (wpAny_call_entry slot_listiter_next hit.typeIs entry_listiter_next ?_ (args_listiter_next _)))
  show wpAny _ _ (field (.ref it) 0 >>= _) _ _ s
  refine wpAny_bind (wpAny_field ho hd (x := .ref l) rfl ?_)
  show wpAny _ _ (if (Value.ref l == Value.none) = true then _ else _) _ _ s
  rw [if_neg (show ¬ ((Value.ref l == Value.none) = true) from Bool.false_ne_true)]
  show wpAny _ _ (field (.ref it) 1 >>= _) _ _ s
  refine wpAny_bind (wpAny_field ho hd (x := .int i 0) rfl ?_)
  show wpAny _ _ (seqItems? (.ref l) >>= _) _ _ s
  refine wpAny_bind (wpAny_seqItems hol rfl ?_)
  have hx : vs.toArray[i]? = some v := by simpa using hv
  simp only [Int.toNat_natCast, hx]
  refine wpAny_bind (wpAny_setField ho hd (by simp) (wpAny_pure ⟨v, rfl, wpAny_pure ⟨_, rfl, k _ (H.upd (t := s.toks) j hj (Heap.SameBut.update ..) (HasAt.ofLit ⟨_, Heap.get?_update_self _ ho (Obj.isFreed_of_fields (Obj.data_mapFields hd _)), (Obj.cls_mapFields ..).trans hc, ?_⟩))⟩⟩))
  rw [Obj.data_mapFields hd]; simp [rawInt]
theorem b_iter {l : Addr} {vs : List Value} {Q : Value → Shared → Prop} (H : Ok g ms s₀ s) (r : Rd g ms l (oList vs)) (k : ∀ it s', Ok g ((it, oLit l 0) :: ms) s₀ s' → Q (.ref it) s') : wpAny (model PW w) A (call (.builtin "iter") [.ref l]) Q E s := by
  refine call_function_entry (by decide +kernel) (by decide +kernel) kdk_entry_iter (kdk_args_iter _) ?_
  unfold Builtin.«iter»
  refine wpAny_bind (m := someArgs "iter" 1 2 _) (wpAny_of_eq (a := [Value.ref l]) (by first | rfl | kernel_rfl!) ?_)
  show wpAny _ _ (pyIter (.ref l) >>= _) _ _ _
  exact wpAny_bind (p_list H r fun it s' H' => wpAny_pure ⟨_, rfl, k it s' H'⟩)
theorem i_and {Q : Value → Shared → Prop} (H : Ok g ms s₀ s) (k : ∀ t' s', Ok g ms s₀ s' → Q (.int (Builtin.bitAnd a b) t') s') : wpAny (model PW w) A (binaryOp .BitAnd (.int a t) (.int b u)) Q E s := and_int (k _ _ H.tk)
theorem i_ior {Q : Value → Shared → Prop} (H : Ok g ms s₀ s) (k : ∀ t' s', Ok g ms s₀ s' → Q (.int (Builtin.bitOr a b) t') s') : wpAny (model PW w) A (inplaceOp .BitOr (.int a t) (.int b u)) Q E s := ior_int (k _ _ H.tk)
theorem i_ishl {Q : Value → Shared → Prop} (H : Ok g ms s₀ s) (h0 : 0 ≤ b) (hb : b ≤ 1000) (ha : a.natAbs < 18446744073709551616) (k : ∀ t' s', Ok g ms s₀ s' → Q (.int (a * 2 ^ b.toNat) t') s') : wpAny (model PW w) A (inplaceOp .LShift (.int a t) (.int b u)) Q E s :=
  ilshift_int_small h0 (by omega) (by omega) (k _ _ H.tk)
theorem t_bin {x y : Expr} {op : Operator} {whole : Sem Value} {Q : Bool → Shared → Prop} (h : wpAny (model PW w) A whole (fun v s₁ => wpAny (model PW w) A (truthy v) Q E s₁) E s) : wpAny (model PW w) A (isTrue (.BinOp x op y pos) env whole) Q E s := isTrue_plain h
theorem t_int {Q : Bool → Shared → Prop} (h : Q (decide (a ≠ 0)) s) : wpAny (model PW w) A (truthy (.int a t)) Q E s := by
  refine PyProof.Rows.truthy_int ?_
  rw [show (a != 0) = decide (a ≠ 0) from by by_cases q : a = 0 <;> simp [q]]; exact h
theorem fn_callM {R : Result → Shared → Prop} {name : Str} {params : Arguments} {body : List Stmt} {scope : Scope} {pm cd doc : Value} {f : Addr} {o : Obj} {args : List Value} {binds : List (Str × Value)}
    (H : Ok g ms s₀ s) (G : Gd w g) (hh : A.handled = none) (hroom : A.depth < recursionLimit) (ho : g.get? f = some o) (hdata : o.data = .func (Calls.docDef name params body scope pm cd doc))
    (hcd : codeIn (hd.heap_39 w.params) cd name = true) (hbind : bindArgs (Calls.docDef name params body scope pm cd doc) ⟨args, []⟩ = pure binds) (hloc : ∀ x ∈ binds, scope.names.lookup x.1 = some .local)
    (hco : scope.isCoroutine = false) (hgen : scope.isGenerator = false) (hk : scope.kind = .function) (hcell : ∀ x ∈ scope.names, x.2 ≠ .cell)
    (h : ∀ (A' : Around) (L : Addr) (s' : Shared), A'.handled = none → A'.depth = A.depth + 1 → A'.units = A.units + 3 → Ok g ((L, oNs fun x => binds.reverse.lookup x) :: ms) s₀ s' →
      wpAny (model PW w) A' (execs body (envOf name scope L f cd)) (fun fl s' => R (.ok (.ret (retV fl))) s') (fun _ _ => False) s') :
    codeAny (model PW w) A (.call (.ref f) ⟨args, []⟩) R s := by
  have hlim : s.heap.NoLimit := let ⟨_, _, _, _, c, _⟩ := (G.sub H.keep).T; c
  refine call_plain_ret hroom (H.keep _ _ ho) hdata hlim (codeRec_of (G.sub H.keep).X hcd) hbind hloc (fun h₁ F => ?_) hco hgen hk hcell
  refine wpAny_mono (h _ s.heap.objs.size { s with heap := h₁, toks := s.toks + binds.length } hh rfl rfl ?_) (fun fl s' q => by cases fl <;> exact q) fun _ _ e => e
  refine ⟨H.keep.trans F.keep, fun p hp => ?_, ?_, fun p hp => ?_, H.gens, H.os, Nat.le_trans H.tm (Nat.le_add_right _ _)⟩
  · rcases List.mem_cons.mp hp with rfl | hp
    · exact HasAt.ofNs F.ns
    · exact (H.at_ p hp).sub F.keep
  · rw [List.map_cons]
    refine List.nodup_cons.mpr ⟨fun hm => ?_, H.nd⟩
    obtain ⟨p, hp, e⟩ := List.mem_map.mp hm
    have := (H.at_ p hp).lt
    rw [e] at this
    exact Nat.lt_irrefl _ this
  · rcases List.mem_cons.mp hp with rfl | hp
    · show g.get? s.heap.objs.size = none
      cases q : g.get? s.heap.objs.size with
      | none => rfl
      | some o' => exact absurd (Heap.lt_size (H.keep _ _ q)) (Nat.lt_irrefl _)
    · exact H.new p hp
end
theorem and_nat (a b : Nat) : Builtin.bitAnd (a : Int) (b : Int) = ((a &&& b : Nat) : Int) := by
  unfold Builtin.bitAnd
  simp
theorem or_nat (a b : Nat) : Builtin.bitOr (a : Int) (b : Int) = ((a ||| b : Nat) : Int) := by
  rw [bitOr_and, and_nat]
  have := nat_or_add_and a b
  omega
theorem and63 (n : Nat) : n &&& 63 = n % 64 := Nat.and_two_pow_sub_one_eq_mod n 6
theorem and64F : ∀ (x : _root_.Fin 64) (b : _root_.Fin 2) (c : Bool), (((x.val + 64 * c.toNat + 128 * b.val) &&& 64 ≠ 0) ↔ c = true) := by decide +kernel
theorem and64 {d b : Nat} {c : Bool} (hd : d < 64) (hb : b < 2) : ((d + 64 * c.toNat + 128 * b) &&& 64 ≠ 0) ↔ c = true := and64F ⟨d, hd⟩ ⟨b, hb⟩ c
theorem or_low {v d : Nat} (hd : d < 64) : (v * 64) ||| d = v * 64 + d := by
  have := Nat.shiftLeft_add_eq_or_of_lt (b := d) (i := 6) hd v
  rw [Nat.shiftLeft_eq] at this
  exact this.symm
end
local macro_rules | `(tactic| walk_at "tr") => `(tactic| first
  | with_reducible refine t_bin ?_)
local macro_rules | `(tactic| walk_at "bi") => `(tactic| first
  | ((with_reducible rename Ok _ _ _ _ => hO); ((with_reducible refine' i_and hO ?_)); intro _ _ _; clear hO))
local macro_rules | `(tactic| walk_at "ca") => `(tactic| first
  | ((with_reducible rename Ok _ _ _ _ => hO); ((with_reducible refine' b_iter hO ?r ?_)); (case r => walk_at "rd"); intro _ _ _; clear hO))
local macro_rules | `(tactic| walk_at "m") => `(tactic| first
  | with_reducible refine t_int ?_
  | ((with_reducible rename Ok _ _ _ _ => hO); ((with_reducible refine' i_ior hO ?_)); intro _ _ _; clear hO)
  | ((with_reducible rename Ok _ _ _ _ => hO); ((with_reducible refine' i_ishl hO ?h0 ?hb ?ha ?_)); (case h0 => omega); (case hb => omega); (case ha => omega); intro _ _ _; clear hO))
/-! text FParse -/
section
def num (d : Nat → Nat) : Nat → Nat
  | 0 => 0
  | r + 1 => num d r * 64 + d r
theorem num_lt {d : Nat → Nat} {len : Nat} (h : ∀ r, r < len → d r < 64) : ∀ r, r ≤ len → num d r < 64 ^ r
  | 0, _ => by simp [num]
  | r + 1, hr => by
    have h1 := num_lt h r (by omega)
    have h2 := h r (by omega)
    rw [num, Nat.pow_succ]
    omega
theorem parse_call {w : World} {A : Around} {g : Heap} {ms : List Ent} {s₀ s : Shared} {R : Result → Shared → Prop} {it tl : Addr} {i len : Nat} {vs : List Value} {d : Nat → Nat} (j : Nat) (H : Ok g ms s₀ s) (G : Gd w g) (hh : A.handled = none) (hroom : A.depth < recursionLimit)
    (hj : ms[j]? = some (it, oLit tl i)) (r : HasAt g tl (oList vs)) (hl1 : 1 ≤ len) (hl2 : len ≤ 10) (hd : ∀ r, r < len → d r < 64)
    (hb : ∀ r, r < len → ∃ b t, b < 2 ∧ vs[i + r]? = some (.int ((d r + 64 * (decide (r + 1 < len)).toNat + 128 * b : Nat) : Int) t))
    (hR : ∀ s' t', Ok g (ms.set j (it, oLit tl (i + len))) s₀ s' → R (.ok (.ret (.int ((num d len : Nat) : Int) t'))) s') : codeAny (model PW w) A (.call (.ref 55) ⟨[.ref it], []⟩) R s := by
  refine fn_callM (binds := [("iterator", .ref it)]) H G hh hroom (G.X 55 _ rfl) rfl rfl rfl (locs rfl) rfl rfl rfl (by decide) fun A' L s1 hA hd' hu' H => ?_
  dsimp only [List.reverse, List.reverseAux] at H
  have hjl : j < ms.length := (List.getElem?_eq_some_iff.mp hj).1
  have hset : ∀ x : Ent, (ms.set j x)[j]? = some x := fun x => by simp [hjl]
  have hB : ∀ r, r < len → ∃ (B : Nat) (t : Tok), vs[i + r]? = some (.int (B : Int) t) ∧ B &&& 63 = d r ∧ (B &&& 64 ≠ 0 ↔ r + 1 < len) := fun r hr => by
    obtain ⟨b, t, h1, h2⟩ := hb r hr
    refine ⟨_, t, h2, ?_, ?_⟩
    · have := hd r hr
      rw [and63]; omega
    · rw [and64 (hd r hr) h1, decide_eq_true_eq]
  obtain ⟨B0, t0, hv0, e0, c0⟩ := hB 0 (by omega)
  repeat walk_at "m"
  rename Ok _ _ _ _ => H2
  refine b_next (j + 1) H2 (by simpa using hj) (.inr r) (by rw [Nat.add_zero] at hv0; exact hv0) fun s3 H3 => ?_
  clear H2
  rw [List.set_cons_succ] at H3
  repeat walk_at "m"
  rename_i H4
  rw [show (63 : Int) = ((63 : Nat) : Int) from rfl, and_nat, e0] at H4
  refine x_while (fun n s => ∃ (q : Nat) (m : PySem.Str → Option Value) (B : Nat), q + 1 ≤ len ∧ n = len - q ∧ m "iterator" = some (.ref it) ∧ (∃ t, m "b" = some (.int (B : Int) t)) ∧ (B &&& 64 ≠ 0 ↔ q + 1 < len) ∧ (∃ t, m "val" = some (.int ((num d (q + 1) : Nat) : Int) t)) ∧ Ok g ((L, oNs m) :: ms.set j (it, oLit tl (i + (q + 1)))) s₀ s) ?turn len ⟨0, _, B0, hl1, rfl, by walk_at "lk", ⟨_, by walk_at "lk"⟩, c0, ⟨_, by rw [show num d (0 + 1) = d 0 by simp [num]]; walk_at "lk"⟩, H4⟩
  clear H4
  rintro n s' ⟨q, m, B, hq, rfl, m1, ⟨t1, m2⟩, hc, ⟨t2, m3⟩, H5⟩
  repeat walk_at "m"
  rw [show (64 : Int) = ((64 : Nat) : Int) from rfl, and_nat]
  refine if_dec (fun y => ?_) (fun y => ?_)
  · have hq2 : q + 1 < len := hc.mp (by omega)
    obtain ⟨B1, t3, hv1, e1, c1⟩ := hB (q + 1) hq2
    have hnum := num_lt hd (q + 1) (by omega)
    have hpow : 64 ^ (q + 1) ≤ 64 ^ 10 := Nat.pow_le_pow_right (by omega) (by omega)
    have hnum2 : num d (q + 1) < 1152921504606846976 := Nat.lt_of_lt_of_le hnum hpow
    repeat walk_at "m"
    rename Ok _ _ _ _ => H6
    refine b_next (j + 1) H6 (by rw [List.getElem?_cons_succ]; exact hset _) (.inr r) hv1 fun s7 H7 => ?_
    clear H6
    rw [List.set_cons_succ, List.set_set] at H7
    repeat walk_at "m"
    rename_i H8
    rw [show (63 : Int) = ((63 : Nat) : Int) from rfl, and_nat, e1, show (6 : Int).toNat = 6 from rfl, show ((num d (q + 1) : Nat) : Int) * 2 ^ 6 = ((num d (q + 1) * 64 : Nat) : Int) by rw [Int.natCast_mul]; rfl, or_nat, or_low (hd _ hq2)] at H8
    refine ⟨rfl, len - (q + 1), by omega, q + 1, _, B1, hq2, rfl, by walk_at "lk", ⟨_, by walk_at "lk"⟩, c1, ⟨_, by walk_at "lk"⟩, H8⟩
  · have hq2 : q + 1 = len := by
      have := mt hc.mpr (by omega)
      omega
    refine nx_next ?_
    repeat walk_at "m"
    rename Ok _ _ _ _ => H6
    rw [hq2] at H6 ⊢
    exact hR _ _ H6.drop1
end
/-! text S1 -/
section
/-- every c becomes r -/
def rep (c : Nat) (r : List Nat) (l : List Nat) : List Nat := l.flatMap fun x => if x = c then r else [x]
theorem rep_free (c : Nat) (r : List Nat) : ∀ l : List Nat, c ∉ l → rep c r l = l
  | [], _ => rfl
  | k :: l, h => by
    have h1 : ¬ k = c := fun e => h (e ▸ List.mem_cons_self ..)
    have h2 : c ∉ l := fun m => h (List.mem_cons_of_mem _ m)
    have := rep_free c r l h2
    unfold rep at *
    rw [List.flatMap_cons, if_neg h1, this]; rfl
theorem rep_append (c : Nat) (r a b : List Nat) : rep c r (a ++ b) = rep c r a ++ rep c r b := by unfold rep; rw [List.flatMap_append]
theorem rep_one (c : Nat) (r : List Nat) : rep c r [c] = r := by simp [rep]
theorem rep_join (c : Nat) (r : List Nat) : ∀ parts : List PySem.Str, (∀ p ∈ parts, c ∉ p.cps.toList) → rep c r (PySem.Str.join (tx [c]) parts).cps.toList = (PySem.Str.join (tx r) parts).cps.toList
  | [], _ => rfl
  | [p], h => rep_free c r _ (h p (List.mem_singleton.mpr rfl))
  | p :: q :: ps, h => by
    have ih := rep_join c r (q :: ps) fun a ha => h a (List.mem_cons_of_mem _ ha)
    show rep c r (p ++ tx [c] ++ PySem.Str.join (tx [c]) (q :: ps)).cps.toList = (p ++ tx r ++ PySem.Str.join (tx r) (q :: ps)).cps.toList
    simp only [Str.cps_append, Array.toList_append]
    rw [rep_append, rep_append, ih, rep_free c r _ (h p (List.mem_cons_self ..)), tx_list, tx_list, rep_one]
theorem replace_tx (l : List Nat) (c : Nat) (r : List Nat) : Txt.replace (tx l) (tx [c]) (tx r) = tx (rep c r l) := by
  have h : (Txt.replace (tx l) (tx [c]) (tx r)).cps.toList = rep c r l := by
    have e1 : Txt.replace (tx l) (tx [c]) (tx r) = PySem.Str.join (tx r) (Txt.split (tx l) (tx [c])) := StrLaws.replace_one (tx l) (tx r) c
    have e2 := rep_join c r (Txt.split (tx l) (tx [c])) (StrLaws.split_free (tx l) c)
    rw [e1, ← e2, StrLaws.join_split, tx_list]
  rw [tx_of (Txt.replace _ _ _), h]
section
variable {w : World} {A : Around} {E : Value → Shared → Prop} {g : Heap} {ms : List Ent} {s₀ s : Shared} {env : Env} {pos : Pos} {L : Addr} {m : Str → Option Value} {t u v : Tok} {l : List Nat} {Q : Value → Shared → Prop}
theorem e_strT {y : Str} {kd : Nat} (H : Ok g ms s₀ s) (k : ∀ t s', s₀.toks ≤ t → (∀ t', t' < s.toks → t' < t) → t < s'.toks → Ok g ms s₀ s' → Q (.str y t) s') : wpAny (model PW w) A (eval (.Constant (.str y) kd pos) env) Q E s :=
  wpAny_Constant_str (k _ _ H.tm (fun _ h => h) (Nat.lt_succ_self _) H.tk)
theorem x_in {y : Str} {c : Nat} (hy : y = tx [c]) (h : Q (.bool (decide (c ∈ l))) s) : wpAny (model PW w) A (compareOp .In (.str y u) (.str (tx l) t)) Q E s := by
  subst hy
  refine PySem.P.in_str ?_
  have := StrLaws.found_one (tx l) c
  rw [tx_list] at this
  rw [show (!(Builtin.Str.occurrences (tx l) (tx [c]) 0 (tx l).length 1).isEmpty) = decide (c ∈ l) from this]
  exact h
theorem m_repl {x : Str} {pl : Sem Bool} {Q : Value × List Value → Shared → Prop} (h : Q (.builtin "str.replace", [.str x t]) s) : wpAny (model PW w) A (getMethod (.str x t) "replace" pl) Q E s := GM.replace h
theorem m_join {x : Str} {pl : Sem Bool} {Q : Value × List Value → Shared → Prop} (h : Q (.builtin "str.join", [.str x t]) s) : wpAny (model PW w) A (getMethod (.str x t) "join" pl) Q E s := GM.join h
theorem m_split {x : Str} {pl : Sem Bool} {Q : Value × List Value → Shared → Prop} (h : Q (.builtin "str.split", [.str x t]) s) : wpAny (model PW w) A (getMethod (.str x t) "split" pl) Q E s := GM.split h
theorem c_repl {y z : Str} {c : Nat} {r : List Nat} (H : Ok g ms s₀ s) (hy : y = tx [c]) (hz : z = tx r) (hu : u ≠ 0) (huv : u < v) (hne : r ≠ [c]) (hl : l.length < 1000) (hr : r.length < 100)
    (k : ∀ t' s', Ok g ms s₀ s' → Q (.str (tx (rep c r l)) t') s') : wpAny (model PW w) A (call (.builtin "str.replace") [.str (tx l) t, .str y u, .str z v]) Q E s := by
  subst hy; subst hz
  have hyz : (tx [c] == tx r) = false := by
    rw [beq_eq_false_iff_ne]
    exact fun e => hne (tx_inj e).symm
  have hb : (tx l).length + ((tx l).length + 1) * (tx r).length ≤ 16777216 := by
    rw [tx_len, tx_len]
    have : (l.length + 1) * r.length ≤ 1000 * 100 := Nat.mul_le_mul (by omega) (by omega)
    omega
  have hlg : Builtin.Str.tooLong ((tx l).length + (Builtin.Str.occurrences (tx l) (tx [c]) 0 (tx l).length ((tx l).length + 1)).length * (tx r).length) = false := by
    have h1 := StrLaws.occ_length_le (tx l) (tx [c]) 0 (tx l).length ((tx l).length + 1)
    have h2 : (Builtin.Str.occurrences (tx l) (tx [c]) 0 (tx l).length ((tx l).length + 1)).length * (tx r).length ≤ ((tx l).length + 1) * (tx r).length := Nat.mul_le_mul_right _ h1
    unfold Builtin.Str.tooLong
    rw [sizeLine_eq]
    exact decide_eq_false (by omega)
  have hrt := replace_tx l c r
  have hv : v ≠ 0 := Nat.ne_of_gt (Nat.lt_of_le_of_lt (Nat.zero_le _) huv)
  have huv' : u ≠ v := Nat.ne_of_lt huv
  refine call_gives F.slot_str_replace (typeIs_str _ _ _) F.entry_str_replace (F.args_str_replace_3 _ _ _)
    (gives_str_replace (tx l) (tx [c]) (tx r) t u v fun _ => ⟨by simp [hu, hv], by simp [huv'], hyz, hlg⟩) ?_
  unfold Txt.replace at hrt
  cases hc : ((Builtin.Str.occurrences (tx l) (tx [c]) 0 (tx l).length ((tx l).length + 1)).isEmpty || ((tx [c]).length == 0 && (tx r).length == 0))
  · rw [hc] at hrt
    simp only [Bool.false_eq_true, if_false] at hrt ⊢
    rw [hrt]
    exact ⟨by rw [← hrt]; exact fits_replaced (tx [c]) hb, k _ _ H.tk⟩
  · rw [hc] at hrt
    simp only [if_true] at hrt ⊢
    rw [hrt]
    exact k _ _ H
theorem x_try {body orelse : List Stmt} {h₀ : ExceptHandler} {hs : List ExceptHandler} {Q : Flow → Shared → Prop} (h : wpAny (model PW w) A (execs body env) (fun f s₁ => match f with | .next => wpAny (model PW w) A (execs orelse env) Q E s₁ | f => Q f s₁) (fun _ _ => False) s) :
    wpAny (model PW w) A (exec (.Try body (h₀ :: hs) orelse [] pos) env) Q E s := wpAny_Try_except (wpAny_mono h (fun _ _ q => q) fun _ _ e => e.elim)
theorem x_add {a b : List Nat} (H : Ok g ms s₀ s) (hz : a.length + b.length < 100000) (k : ∀ t' s', Ok g ms s₀ s' → Q (.str (tx (a ++ b)) t') s') : wpAny (model PW w) A (binaryOp .Add (.str (tx a) t) (.str (tx b) u)) Q E s := by
  refine binaryOp_concat (typeIs_str s _ t) (typeIs_str s _ u) PyProof.Rows.noFill_str_add PyProof.Rows.seq_str_add ?_
  refine wpAny_call_entry slot_str_add (typeIs_str s _ t) entry_str_add ?_ (args_str_add _ _)
  show wpAny _ _ (do
    if (true && (tx a).length == 0) = true then (do rule "str.__add__.left-empty"; ret (.str (tx b) u)) else
    if (true && (tx b).length == 0) = true then (do rule "str.__add__.right-empty"; ret (.str (tx a) t)) else
    retStr (tx a ++ tx b)) _ _ s
  rw [tx_len, tx_len, tx_add]
  cases ha : a.length == 0
  · cases hb : b.length == 0
    · exact wpAny_bind (wpAny_mkStr (wpAny_pure ⟨_, rfl, k _ _ H.tk⟩) (by rw [tx_len, List.length_append, sizeLine_eq]; omega))
    · refine wpAny_bind (wpAny_rule (wpAny_pure ⟨_, rfl, ?_⟩))
      have hb0 : b = [] := List.eq_nil_of_length_eq_zero (by simpa using hb)
      subst hb0
      have := k t s H
      rw [List.append_nil] at this
      exact this
  · refine wpAny_bind (wpAny_rule (wpAny_pure ⟨_, rfl, ?_⟩))
    have ha0 : a = [] := List.eq_nil_of_length_eq_zero (by simpa using ha)
    subst ha0
    exact k u s H
def times (n : Int) (l : List Nat) : List Nat := (List.replicate n.toNat l).flatten
theorem times_cps (l : List Nat) (n : Nat) : (⟨(List.replicate n (tx l).cps).foldl (· ++ ·) #[]⟩ : PySem.Str) = tx (List.replicate n l).flatten := by
  have : ∀ (n : Nat) (acc : List Nat), (List.replicate n (tx l).cps).foldl (· ++ ·) acc.toArray = (acc ++ (List.replicate n l).flatten).toArray := by
    intro n
    induction n with
    | zero => intro acc; simp
    | succ n ih =>
      intro acc
      have e : acc.toArray ++ (tx l).cps = (acc ++ l).toArray := by rw [tx_cps, List.append_toArray]
      rw [List.replicate_succ, List.foldl_cons, e, ih, List.replicate_succ, List.flatten_cons, List.append_assoc]
  have h := this n []
  unfold tx
  rw [List.nil_append] at h
  rw [← h]; rfl
theorem x_mul {n : Int} (H : Ok g ms s₀ s) (h0 : 0 ≤ n) (hn : n < 1000) (hz : l.length < 1000) (k : ∀ t' s', Ok g ms s₀ s' → Q (.str (tx (times n l)) t') s') : wpAny (model PW w) A (binaryOp .Mult (.str (tx l) t) (.int n u)) Q E s := by
  have hmul : l.length * n.toNat ≤ 1000 * 1000 := Nat.mul_le_mul (by omega) (by omega)
  refine PySem.P.mul_str ?_ ?_ ?_ ?_
  · simp; omega
  · intro h1 _
    rw [tx_len]
    have : ((2 : Int) ^ 63 - 1) / n ≥ 1000 := by
      apply (Int.le_ediv_iff_mul_le (by omega)).mpr
      omega
    omega
  · intro _ _
    unfold Builtin.Str.tooLong
    rw [tx_len, sizeLine_eq]
    exact decide_eq_false (by omega)
  · by_cases h1 : n < 1
    · rw [if_pos h1]
      have : n = 0 := by omega
      subst this
      exact ⟨by decide, k _ _ H.tk⟩
    · rw [if_neg h1]
      by_cases h2 : (n == 1 || (tx l).length == 0) = true
      · rw [if_pos h2]
        have e : times n l = l := by
          unfold times
          rw [tx_len] at h2
          simp only [Bool.or_eq_true, beq_iff_eq] at h2
          rcases h2 with rfl | h2
          · simp
          · have := List.eq_nil_of_length_eq_zero h2
            subst this; simp
        have := k t s H
        rw [e] at this
        exact this
      · rw [if_neg h2, times_cps]
        refine ⟨?_, k _ _ H.tk⟩
        rw [tx_len, List.length_flatten, List.map_replicate, List.sum_replicate_nat, sizeLine_eq]
        rw [Nat.mul_comm]; omega
theorem x_item {value slice : Expr} {i : Int} {c : Nat} (H : Ok g ms s₀ s) (h0 : 0 ≤ i) (hz : l.length < 1000) (hx : l[i.toNat]? = some c)
    (hs : subscripted slice false (.str (tx l) t) (.int i u) = operate [.str (tx l) t, .int i u] (getItem (.str (tx l) t) (.int i u))) (k : ∀ t' s', Ok g ms s₀ s' → Q (.str (tx [c]) t') s') : wpAny (model PW w) A (subscriptTail value slice (.str (tx l) t) (.int i u)) Q E s := by
  have hi : i.toNat < l.length := (List.getElem?_eq_some_iff.mp hx).1
  refine tail_any (typeIs_str s _ _) F.slot_str_getitem.lookup (PySem.P.getItem_str (c := c) ?_ ?_ (k _ _ H.tk)) hs
  · simp; omega
  · have : seqIndex? i (tx l).length = some i.toNat := by
      rw [tx_len]
      unfold seqIndex?
      simp [show ¬ i < 0 by omega]; omega
    rw [this, Option.bind_some, tx_cps]
    simpa using hx
theorem x_upto1 {value slice : Expr} {sl : Addr} {ut : Tok} (H : Ok g ms s₀ s) (hs : s.heap.IsSliceOf sl .none (.int 1 ut) .none) (hz : l.length < 1000)
    (k : ∀ t' s', Ok g ms s₀ s' → Q (.str (tx (l.take 1)) t') s')
    (hsub : subscripted slice false (.str (tx l) t) (.ref sl) = operate [.ref sl, .str (tx l) t] (getItem (.str (tx l) t) (.ref sl)) := by with_unfolding_all rfl) : wpAny (model PW w) A (subscriptTail value slice (.str (tx l) t) (.ref sl)) Q E s := by
  refine tail_any (typeIs_str s _ _) F.slot_str_getitem.lookup (wpAny_getItem_str_slice (l := none) (u := some (1, ut)) (st := none) hs rfl ?_) hsub
  unfold sliceMade slicePicked
  show (if (true && (Builtin.Str.strSliceIndices none (some 1) 1 (tx l).length).length == (tx l).length) = true then _ else _ : Made).post Q s
  rw [tx_len]
  match l, hz with
  | [], _ =>
    exact k t s H
  | [c], _ => exact k t s H
  | c :: d :: r, hz =>
    have e : Builtin.Str.strSliceIndices none (some 1) 1 (c :: d :: r).length = [0] := by
      have := StrLaws.strSliceIndices_plain (a := 0) (b := 1) (len := (c :: d :: r).length) (by omega) (by simp)
      exact this
    rw [e, if_neg (by simp)]
    have e2 : (⟨(List.filterMap (fun x => (tx (c :: d :: r)).cps[x]?) [0]).toArray⟩ : PySem.Str) = tx [c] := rfl
    show (Made.str ⟨(List.filterMap (fun x => (tx (c :: d :: r)).cps[x]?) (Builtin.Str.strSliceIndices none (some 1) 1 (tx (c :: d :: r)).length)).toArray⟩).post Q s
    rw [tx_len, e, e2]
    exact ⟨by rw [tx_len, sizeLine_eq]; simp, k _ _ H.tk⟩
end
section
variable {P : Params}
theorem gl_e0 : nsIn (hd.heap_39 P) mainGlobals "_escape_attrib" = some (some (.ref 76)) := by rfl
theorem gl_e1 : nsIn (hd.heap_39 P) mainGlobals "_escape_attrib_c14n" = some (some (.ref 97)) := by rfl
theorem gl_e2 : nsIn (hd.heap_39 P) mainGlobals "_escape_attrib_html" = some (some (.ref 83)) := by rfl
theorem gl_e3 : nsIn (hd.heap_39 P) mainGlobals "_escape_cdata" = some (some (.ref 69)) := by rfl
theorem gl_e4 : nsIn (hd.heap_39 P) mainGlobals "_escape_cdata_c14n" = some (some (.ref 90)) := by rfl
end
theorem c_def {w : World} {A : Around} {E : Value → Shared → Prop} {g : Heap} {ms : List Ent} {s₀ s : Shared} {env : Env} {pos : Pos} {f : Addr} {o : Obj} {fd : FuncData} {e : Expr} {rest : List Expr} {Q : Value → Shared → Prop} (_H : Ok g ms s₀ s) (G : Gd w g)
    (ho : List.lookup f (hd.heap_39 w.params) = some o) (hdat : o.data = .func fd) (he : starEach (e :: rest) env = (false, eval e env) :: starEach rest env)
    (h : wpAny (model PW w) A (spliced (backTo pos (starEach (e :: rest) env))) (fun vs s₁ => Sub g s₁.heap ∧ wpAny (model PW w) A (call (.ref f) vs) Q E s₁) E s) :
    wpAny (model PW w) A (callWith pos (.ref f) [] (backTo pos (starEach (e :: rest) env)) []) Q E s :=
  callWith_def hdat (wpAny_mono h (fun _ _ q => ⟨q.1 _ _ (G.X _ _ ho), q.2⟩) fun _ _ e => e) he
theorem and_keep {g : Heap} {ms : List Ent} {s₀ s : Shared} {P : Prop} (H : Ok g ms s₀ s) (h : P) : Sub g s.heap ∧ P := ⟨H.keep, h⟩
theorem Ok.back {g : Heap} {ms : List Ent} {s₀ s s' : Shared} (H : Ok g ms s₀ s) (h1 : Sub s.heap s'.heap) (h2 : s'.gens = s.gens) (h3 : s'.os = s.os) (h4 : s.toks ≤ s'.toks) : Ok g ms s₀ s' := H.ext h1 h2 h3 h4
end
local macro_rules | `(tactic| walk_at "gl") => `(tactic| first
  | exact gl_e0
  | exact gl_e1
  | exact gl_e2
  | exact gl_e3
  | exact gl_e4)
local macro_rules | `(tactic| walk_at "cw") => `(tactic| first
  | ((with_reducible rename Ok _ _ _ _ => hO); ((with_reducible refine' c_def hO ?G ?ho ?hdat ?he ?_)); (case G => assumption); (case ho => rfl); (case hdat => rfl); (case he => rfl); skip))
local macro_rules | `(tactic| walk_at "m") => `(tactic| first
  | ((with_reducible rename Ok _ _ _ _ => hO); ((with_reducible refine' and_keep hO ?_)); skip)
  | with_reducible refine m_repl ?_
  | with_reducible refine m_join ?_
  | with_reducible refine m_split ?_)
/-! text FEsc -/
section
def reps : List (Nat × List Nat) → List Nat → List Nat
  | [], l => l
  | (c, r) :: ps, l => reps ps (rep c r l)
theorem reps_append : ∀ (ps : List (Nat × List Nat)) (a b : List Nat), reps ps (a ++ b) = reps ps a ++ reps ps b
  | [], a, b => rfl
  | (c, r) :: ps, a, b => by
    show reps ps (rep c r (a ++ b)) = reps ps (rep c r a) ++ reps ps (rep c r b)
    rw [rep_append, reps_append]
theorem reps_nil : ∀ ps : List (Nat × List Nat), reps ps [] = []
  | [] => rfl
  | (c, r) :: ps => reps_nil ps
theorem reps_flat (ps : List (Nat × List Nat)) : ∀ l : List Nat, reps ps l = l.flatMap fun x => reps ps [x]
  | [] => reps_nil ps
  | x :: l => by
    rw [List.flatMap_cons, ← reps_flat ps l, ← reps_append]; rfl
def Alpha (l : List Nat) : Prop := ∀ x ∈ l, x ∈ [38, 39, 13, 10, 9, 34, 60, 62]
theorem flat_len {f : Nat → List Nat} {n : Nat} : ∀ {l : List Nat}, (∀ x ∈ l, (f x).length ≤ n) → (l.flatMap f).length ≤ n * l.length
  | [], _ => by simp
  | x :: l, h => by
    have h1 := h x (List.mem_cons_self ..)
    have h2 := flat_len (l := l) fun y hy => h y (List.mem_cons_of_mem _ hy)
    rw [List.flatMap_cons, List.length_append, List.length_cons, Nat.mul_add]
    omega
/-- no stage grows past six signs for one -/
def Thin (ps : List (Nat × List Nat)) : Prop := ∀ k, k ≤ ps.length → ∀ x ∈ [38, 39, 13, 10, 9, 34, 60, 62], (reps (ps.take k) [x]).length ≤ 6
theorem Thin.len {ps : List (Nat × List Nat)} (h : Thin ps) {l : List Nat} (hl : Alpha l) {k : Nat} (hk : k ≤ ps.length) : (reps (ps.take k) l).length ≤ 6 * l.length := by
  rw [reps_flat]
  exact flat_len fun x hx => h k hk x (hl x hx)
inductive EscBody : List (Nat × List Nat) → List Stmt → Prop
  | nil {p p' : Pos} : EscBody [] [.Return (some (.Name "text" p)) p']
  | cons {c : Nat} {r : List Nat} {ps : List (Nat × List Nat)} {sts : List Stmt} {y z : PySem.Str} {k1 k2 k3 : Nat} {p1 p2 p3 p4 p5 p6 p7 p8 p9 p10 p11 : Pos} (hy : y = tx [c]) (hz : z = tx r) (hne : r ≠ [c]) (hr : r.length < 100)
    (he : ∀ env : Env, ∃ pl : Sem Bool, eval (.Call (.Attribute (.Name "text" p5) "replace" p6) [.Constant (.str y) k2 p7, .Constant (.str z) k3 p8] [] p9) env = (do
      let ov ← eval (.Name "text" p5) env
      standAt p6.atName
      let (f, first) ← holding [ov] (getMethod ov "replace" pl)
      callWith p9 f first (backTo p9 (starEach [.Constant (.str y) k2 p7, .Constant (.str z) k3 p8] env)) []))
    (h : EscBody ps sts) :
    EscBody ((c, r) :: ps) (.If (.Compare (.Constant (.str y) k1 p1) [.In] [.Name "text" p2] p3) [.Assign [.Name "text" p4] (.Call (.Attribute (.Name "text" p5) "replace" p6) [.Constant (.str y) k2 p7, .Constant (.str z) k3 p8] [] p9) p10] [] p11 :: sts)
theorem esc_walk {w : World} {A : Around} {g : Heap} {s₀ : Shared} {env : Env} {L : Addr} {ms : List Ent} {full : List (Nat × List Nat)} {l₀ : List Nat} (hk : env.scope.kind = .function) (hx : env.kindOf "text" = some .local) (hL : env.locals = L) (h0 : 0 < s₀.toks) (hT : Thin full) (hA : Alpha l₀) (hl₀ : l₀.length ≤ 100) {Q : Flow → Shared → Prop}
    (hQ : ∀ t s', (∃ m, Ok g ((L, oNs m) :: ms) s₀ s') → Q (.ret (.str (tx (reps full l₀)) t)) s') : ∀ {ps : List (Nat × List Nat)} {sts : List Stmt}, EscBody ps sts → ∀ (n : Nat) (m : PySem.Str → Option Value) (t : Tok) (s : Shared), full = full.take n ++ ps → n ≤ full.length → m "text" = some (.str (tx (reps (full.take n) l₀)) t) → Ok g ((L, oNs m) :: ms) s₀ s →
      wpAny (model PW w) A (execs sts env) Q (fun _ _ => False) s
  | _, _, .nil, n, m, t, s, hf, hn, hm, H => by
    refine x_cons (x_ret (e_loc H hk hx hL (by decide) hm ?_))
    rw [List.append_nil] at hf
    rw [← hf]
    exact nx_ret (hQ _ _ ⟨_, H⟩)
  | _, _, .cons (c := c) (r := r) (ps := ps) hy hz hne hr he h, n, m, t, s, hf, hn, hm, H => by
    obtain ⟨pl, he⟩ := he env
    have hn' : n + 1 ≤ full.length := by
      have := congrArg List.length hf
      rw [List.length_append, List.length_cons, List.length_take] at this
      omega
    have hat : full.take (n + 1) = full.take n ++ [(c, r)] := by
      have e : full.drop n = (c, r) :: ps := by
        have := congrArg (List.drop n) hf
        rw [List.drop_left' (by rw [List.length_take]; omega)] at this
        exact this
      rw [List.take_add_one]
      congr 1
      have := congrArg List.head? e
      rw [List.head?_drop] at this
      rw [this]; rfl
    have hrep : reps (full.take (n + 1)) l₀ = rep c r (reps (full.take n) l₀) := by
      rw [hat]
      have : ∀ (as : List (Nat × List Nat)) (l : List Nat), reps (as ++ [(c, r)]) l = rep c r (reps as l) := by
        intro as
        induction as with
        | nil => intro l; rfl
        | cons a as ih => intro l; obtain ⟨a1, a2⟩ := a; exact ih _
      exact this _ _
    have hf' : full = full.take (n + 1) ++ ps := by rw [hat, List.append_assoc]; exact hf
    have hlen := hT.len hA hn
    refine x_cons (x_if (t_cmp (by with_unfolding_all rfl) (e_strT H fun t1 s1 _ _ _ H1 => e_loc H1 hk hx hL (by decide) hm (x_in hy (t_bool (if_dec (fun q => ?_) (fun q => ?_)))))))
    · refine x_cons (x_assign (by rfl) (e_meth he (e_loc H1 hk hx hL (by decide) hm (m_repl (c_meth (by rfl) (by rfl) (a_cons (by rfl) (e_strT H1 fun t2 s2 q2 _ r2 H2 => a_cons (by rfl) (e_strT H2 fun t3 s3 q3 q3' r3 H3 => a_nil
        (c_repl H3 hy hz (Nat.ne_of_gt (Nat.lt_of_lt_of_le h0 q2)) (q3' _ r2) hne (by omega) hr fun t4 s4 H4 => s_loc H4 hk hx hL fun s5 H5 => nx_next (x_nil (nx_next ?_)))))))))))
      exact esc_walk hk hx hL h0 hT hA hl₀ hQ h (n + 1) _ t4 s5 hf' hn' (by rw [hrep]; exact upd_eq) H5
    · refine x_nil (nx_next ?_)
      exact esc_walk hk hx hL h0 hT hA hl₀ hQ h (n + 1) m t _ hf' hn' (by rw [hrep, rep_free c r _ q]; exact hm) H1
def P0 : List (Nat × List Nat) := [(38, [38, 97, 109, 112, 59]), (60, [38, 108, 116, 59]), (62, [38, 103, 116, 59]), (34, [38, 113, 117, 111, 116, 59]), (13, [38, 35, 49, 51, 59]), (10, [38, 35, 49, 48, 59]), (9, [38, 35, 48, 57, 59])]
def P1 : List (Nat × List Nat) := [(38, [38, 97, 109, 112, 59]), (60, [38, 108, 116, 59]), (34, [38, 113, 117, 111, 116, 59]), (9, [38, 35, 120, 57, 59]), (10, [38, 35, 120, 65, 59]), (13, [38, 35, 120, 68, 59])]
def P2 : List (Nat × List Nat) := [(38, [38, 97, 109, 112, 59]), (62, [38, 103, 116, 59]), (34, [38, 113, 117, 111, 116, 59])]
def P3 : List (Nat × List Nat) := [(38, [38, 97, 109, 112, 59]), (60, [38, 108, 116, 59]), (62, [38, 103, 116, 59])]
def P4 : List (Nat × List Nat) := [(38, [38, 97, 109, 112, 59]), (60, [38, 108, 116, 59]), (62, [38, 103, 116, 59]), (13, [38, 35, 120, 68, 59])]
theorem thin0 : Thin P0 := by unfold Thin; decide +kernel
theorem thin1 : Thin P1 := by unfold Thin; decide +kernel
theorem thin2 : Thin P2 := by unfold Thin; decide +kernel
theorem thin3 : Thin P3 := by unfold Thin; decide +kernel
theorem thin4 : Thin P4 := by unfold Thin; decide +kernel
theorem esc0_call {w : World} {A : Around} {s : Shared} {R : Result → Shared → Prop} {l : List Nat} {t : Tok} (G : Gd w s.heap) (hh : A.handled = none) (hroom : A.depth < recursionLimit) (h0 : 0 < s.toks) (hA : Alpha l) (hl : l.length ≤ 100)
    (hR : ∀ s' t', Sub s.heap s'.heap → s'.gens = s.gens → s'.os = s.os → s.toks ≤ s'.toks → R (.ok (.ret (.str (tx (reps P0 l)) t'))) s') : codeAny (model PW w) A (.call (.ref 76) ⟨[.str (tx l) t], []⟩) R s := by
  refine fn_call (binds := [("text", .str (tx l) t)]) G hh hroom (G.X 76 _ rfl) rfl rfl rfl (locs rfl) rfl rfl rfl (by decide) fun A' L s1 hA' hd hu' H => ?_
  dsimp only [List.reverse, List.reverseAux] at H
  refine x_cons (x_try ?_)
  refine esc_walk (full := P0) rfl rfl rfl h0 thin0 hA hl ?_ (ps := P0) ?_ 0 _ t s1 rfl (by decide) ?_ H
  · rintro t' s' ⟨m, H'⟩
    exact nx_ret (hR _ _ H'.keep H'.gens H'.os H'.tm)
  · repeat (first | exact .nil | refine .cons (by rfl) (by rfl) (by decide) (by decide) (fun _ => ⟨_, rfl⟩) ?_)
  · rfl
theorem esc1_call {w : World} {A : Around} {s : Shared} {R : Result → Shared → Prop} {l : List Nat} {t : Tok} (G : Gd w s.heap) (hh : A.handled = none) (hroom : A.depth < recursionLimit) (h0 : 0 < s.toks) (hA : Alpha l) (hl : l.length ≤ 100)
    (hR : ∀ s' t', Sub s.heap s'.heap → s'.gens = s.gens → s'.os = s.os → s.toks ≤ s'.toks → R (.ok (.ret (.str (tx (reps P1 l)) t'))) s') : codeAny (model PW w) A (.call (.ref 97) ⟨[.str (tx l) t], []⟩) R s := by
  refine fn_call (binds := [("text", .str (tx l) t)]) G hh hroom (G.X 97 _ rfl) rfl rfl rfl (locs rfl) rfl rfl rfl (by decide) fun A' L s1 hA' hd hu' H => ?_
  dsimp only [List.reverse, List.reverseAux] at H
  refine x_cons (x_try ?_)
  refine esc_walk (full := P1) rfl rfl rfl h0 thin1 hA hl ?_ (ps := P1) ?_ 0 _ t s1 rfl (by decide) ?_ H
  · rintro t' s' ⟨m, H'⟩
    exact nx_ret (hR _ _ H'.keep H'.gens H'.os H'.tm)
  · repeat (first | exact .nil | refine .cons (by rfl) (by rfl) (by decide) (by decide) (fun _ => ⟨_, rfl⟩) ?_)
  · rfl
theorem esc2_call {w : World} {A : Around} {s : Shared} {R : Result → Shared → Prop} {l : List Nat} {t : Tok} (G : Gd w s.heap) (hh : A.handled = none) (hroom : A.depth < recursionLimit) (h0 : 0 < s.toks) (hA : Alpha l) (hl : l.length ≤ 100)
    (hR : ∀ s' t', Sub s.heap s'.heap → s'.gens = s.gens → s'.os = s.os → s.toks ≤ s'.toks → R (.ok (.ret (.str (tx (reps P2 l)) t'))) s') : codeAny (model PW w) A (.call (.ref 83) ⟨[.str (tx l) t], []⟩) R s := by
  refine fn_call (binds := [("text", .str (tx l) t)]) G hh hroom (G.X 83 _ rfl) rfl rfl rfl (locs rfl) rfl rfl rfl (by decide) fun A' L s1 hA' hd hu' H => ?_
  dsimp only [List.reverse, List.reverseAux] at H
  refine x_cons (x_try ?_)
  refine esc_walk (full := P2) rfl rfl rfl h0 thin2 hA hl ?_ (ps := P2) ?_ 0 _ t s1 rfl (by decide) ?_ H
  · rintro t' s' ⟨m, H'⟩
    exact nx_ret (hR _ _ H'.keep H'.gens H'.os H'.tm)
  · repeat (first | exact .nil | refine .cons (by rfl) (by rfl) (by decide) (by decide) (fun _ => ⟨_, rfl⟩) ?_)
  · rfl
theorem esc3_call {w : World} {A : Around} {s : Shared} {R : Result → Shared → Prop} {l : List Nat} {t : Tok} (G : Gd w s.heap) (hh : A.handled = none) (hroom : A.depth < recursionLimit) (h0 : 0 < s.toks) (hA : Alpha l) (hl : l.length ≤ 100)
    (hR : ∀ s' t', Sub s.heap s'.heap → s'.gens = s.gens → s'.os = s.os → s.toks ≤ s'.toks → R (.ok (.ret (.str (tx (reps P3 l)) t'))) s') : codeAny (model PW w) A (.call (.ref 69) ⟨[.str (tx l) t], []⟩) R s := by
  refine fn_call (binds := [("text", .str (tx l) t)]) G hh hroom (G.X 69 _ rfl) rfl rfl rfl (locs rfl) rfl rfl rfl (by decide) fun A' L s1 hA' hd hu' H => ?_
  dsimp only [List.reverse, List.reverseAux] at H
  refine x_cons (x_try ?_)
  refine esc_walk (full := P3) rfl rfl rfl h0 thin3 hA hl ?_ (ps := P3) ?_ 0 _ t s1 rfl (by decide) ?_ H
  · rintro t' s' ⟨m, H'⟩
    exact nx_ret (hR _ _ H'.keep H'.gens H'.os H'.tm)
  · repeat (first | exact .nil | refine .cons (by rfl) (by rfl) (by decide) (by decide) (fun _ => ⟨_, rfl⟩) ?_)
  · rfl
theorem esc4_call {w : World} {A : Around} {s : Shared} {R : Result → Shared → Prop} {l : List Nat} {t : Tok} (G : Gd w s.heap) (hh : A.handled = none) (hroom : A.depth < recursionLimit) (h0 : 0 < s.toks) (hA : Alpha l) (hl : l.length ≤ 100)
    (hR : ∀ s' t', Sub s.heap s'.heap → s'.gens = s.gens → s'.os = s.os → s.toks ≤ s'.toks → R (.ok (.ret (.str (tx (reps P4 l)) t'))) s') : codeAny (model PW w) A (.call (.ref 90) ⟨[.str (tx l) t], []⟩) R s := by
  refine fn_call (binds := [("text", .str (tx l) t)]) G hh hroom (G.X 90 _ rfl) rfl rfl rfl (locs rfl) rfl rfl rfl (by decide) fun A' L s1 hA' hd hu' H => ?_
  dsimp only [List.reverse, List.reverseAux] at H
  refine x_cons (x_try ?_)
  refine esc_walk (full := P4) rfl rfl rfl h0 thin4 hA hl ?_ (ps := P4) ?_ 0 _ t s1 rfl (by decide) ?_ H
  · rintro t' s' ⟨m, H'⟩
    exact nx_ret (hR _ _ H'.keep H'.gens H'.os H'.tm)
  · repeat (first | exact .nil | refine .cons (by rfl) (by rfl) (by decide) (by decide) (fun _ => ⟨_, rfl⟩) ?_)
  · rfl
def PH (h : Nat) : List (Nat × List Nat) := match h with
  | 0 => P0 | 1 => P1 | 2 => P2 | 3 => P3 | _ => P4
set_option maxHeartbeats 4000000 in
theorem written_call {w : World} {A : Around} {s : Shared} {R : Result → Shared → Prop} {h : Nat} {u : Tok} {l : List Nat} {t : Tok} (G : Gd w s.heap) (hh : A.handled = none) (hroom : A.depth + 1 < recursionLimit) (h0 : 0 < s.toks) (hA : Alpha l) (hl : l.length ≤ 100) (h5 : h < 5)
    (hR : ∀ s' t', Sub s.heap s'.heap → s'.gens = s.gens → s'.os = s.os → s.toks ≤ s'.toks → R (.ok (.ret (.str (tx (reps (PH h) l)) t'))) s') : codeAny (model PW w) A (.call (.ref 104) ⟨[.int (h : Int) u, .str (tx l) t], []⟩) R s := by
  refine fn_call (binds := [("hand", .int (h : Int) u), ("text", .str (tx l) t)]) G hh (by omega) (G.X 104 _ rfl) rfl rfl rfl (locs rfl) rfl rfl rfl (by decide) fun A' L s1 hA' hd hu' H => ?_
  dsimp only [List.reverse, List.reverseAux] at H
  have ht : 0 < s1.toks := Nat.lt_of_lt_of_le h0 H.tm
  repeat walk_at "m"
  refine if_dec (fun q => ?_) (fun q => ?_)
  · obtain rfl : h = 0 := by omega
    repeat walk_at "m"
    rename Ok _ _ _ _ => H2
    have hd2 : A'.depth < recursionLimit := by omega
    refine wpAny_call ?_
    refine esc0_call (G.sub H2.keep) hA' hd2 (Nat.lt_of_lt_of_le h0 H2.tm) hA hl ?_
    intro s' t' a b c d
    exact hR s' t' (H2.keep.trans a) (b.trans H2.gens) (c.trans H2.os) (Nat.le_trans H2.tm d)
  repeat walk_at "m"
  refine if_dec (fun q => ?_) (fun q => ?_)
  · obtain rfl : h = 1 := by omega
    repeat walk_at "m"
    rename Ok _ _ _ _ => H2
    have hd2 : A'.depth < recursionLimit := by omega
    refine wpAny_call ?_
    refine esc1_call (G.sub H2.keep) hA' hd2 (Nat.lt_of_lt_of_le h0 H2.tm) hA hl ?_
    intro s' t' a b c d
    exact hR s' t' (H2.keep.trans a) (b.trans H2.gens) (c.trans H2.os) (Nat.le_trans H2.tm d)
  repeat walk_at "m"
  refine if_dec (fun q => ?_) (fun q => ?_)
  · obtain rfl : h = 2 := by omega
    repeat walk_at "m"
    rename Ok _ _ _ _ => H2
    have hd2 : A'.depth < recursionLimit := by omega
    refine wpAny_call ?_
    refine esc2_call (G.sub H2.keep) hA' hd2 (Nat.lt_of_lt_of_le h0 H2.tm) hA hl ?_
    intro s' t' a b c d
    exact hR s' t' (H2.keep.trans a) (b.trans H2.gens) (c.trans H2.os) (Nat.le_trans H2.tm d)
  repeat walk_at "m"
  refine if_dec (fun q => ?_) (fun q => ?_)
  · obtain rfl : h = 3 := by omega
    repeat walk_at "m"
    rename Ok _ _ _ _ => H2
    have hd2 : A'.depth < recursionLimit := by omega
    refine wpAny_call ?_
    refine esc3_call (G.sub H2.keep) hA' hd2 (Nat.lt_of_lt_of_le h0 H2.tm) hA hl ?_
    intro s' t' a b c d
    exact hR s' t' (H2.keep.trans a) (b.trans H2.gens) (c.trans H2.os) (Nat.le_trans H2.tm d)
  obtain rfl : h = 4 := by omega
  repeat walk_at "m"
  rename Ok _ _ _ _ => H2
  have hd2 : A'.depth < recursionLimit := by omega
  refine wpAny_call ?_
  refine esc4_call (G.sub H2.keep) hA' hd2 (Nat.lt_of_lt_of_le h0 H2.tm) hA hl ?_
  intro s' t' a b c d
  exact hR s' t' (H2.keep.trans a) (b.trans H2.gens) (c.trans H2.os) (Nat.le_trans H2.tm d)
end
end
/-! text E2 -/
section
noncomputable def lawFd (P : Params) : Option FuncData := match List.lookup 121 (hd.heap_39 P) with
  | some o => (match o.data with | .func fd => some fd | _ => none)
  | none => none
noncomputable def lawBody (P : Params) : List Stmt := match lawFd P with
  | some fd => (match fd.body with | .stmts b => b | _ => [])
  | none => []
noncomputable def lawScope (P : Params) : Scope := match lawFd P with
  | some fd => fd.scope
  | none => default
noncomputable def lawCd (P : Params) : Value := match lawFd P with
  | some fd => fd.code
  | none => default
noncomputable def lawStmt (P : Params) (i : Nat) : Stmt := match (lawBody P)[i]? with
  | some s => s
  | none => .Pass default
noncomputable def lawEnv (P : Params) (L : Addr) : Env := envOfC "law" (lawScope P) L 121 (lawCd P)
theorem law_len (P : Params) : (lawBody P).length = 23 := by rfl
/-- the cells, by their names' order -/
def Cl11 (L : Addr) (word total lead low high ends dress hand signs octets names : Option Value) : List Ent :=
  [(L + 1, oCell word), (L + 2, oCell total), (L + 3, oCell lead), (L + 4, oCell low), (L + 5, oCell high), (L + 6, oCell ends), (L + 7, oCell dress), (L + 8, oCell hand), (L + 9, oCell signs), (L + 10, oCell octets), (L + 11, oCell names)]
theorem cell_at {h₀ h : Heap} {L : Addr} {cm : PySem.Str → Option Value} : ∀ {cs : List (PySem.Str × Addr)} {cells : List (Addr × Obj)}, CellsAre cm cs cells → News h₀ L h cells → ∀ n c, (n, c) ∈ cs → HasAt h c (oCell (cm n)) ∧ h₀.get? c = none ∧ c ≠ L
  | _, _, .nil, _, n, c, hm => (nomatch hm)
  | _, _, .cons (n := n') (c := c') (o := o) hd r, N, n, c, hm => by
    rcases List.mem_cons.mp hm with e | hm
    · cases e
      obtain ⟨h1, h2, h3⟩ := N _ (.head _)
      exact ⟨⟨o, h1, hd⟩, h3, h2⟩
    · exact cell_at r (fun p hp => N p (.tail _ hp)) n c hm

noncomputable def lawPm (P : Params) : Value := match lawFd P with
  | some fd => fd.pyModule
  | none => default
noncomputable def lawDoc (P : Params) : Value := match lawFd P with
  | some fd => fd.doc
  | none => default
noncomputable def lawPar (P : Params) : Arguments := match lawFd P with
  | some fd => fd.params
  | none => default
theorem law_obj (P : Params) : ∃ o, List.lookup 121 (hd.heap_39 P) = some o ∧ o.data = .func (Calls.docDef "law" (lawPar P) (lawBody P) (lawScope P) (lawPm P) (lawCd P) (lawDoc P)) := by
  refine ⟨_, rfl, ?_⟩
  rfl
theorem law_cd (P : Params) : codeIn (hd.heap_39 P) (lawCd P) "law" = true := by rfl
theorem law_bind (P : Params) (a : Addr) : bindArgs (Calls.docDef "law" (lawPar P) (lawBody P) (lawScope P) (lawPm P) (lawCd P) (lawDoc P)) ⟨[.ref a], []⟩ = pure [(Str.ofString "script", Value.ref a)] := by rfl
theorem law_script (P : Params) : (lawScope P).names.lookup (Str.ofString "script") = some .local := by rfl
theorem law_nd (P : Params) : ((cellsFrom 0 (lawScope P).names []).map (·.1)).Nodup := by
  have : (cellsFrom 0 (lawScope P).names []).map (·.1) = ([Str.ofString "names", Str.ofString "octets", Str.ofString "signs", Str.ofString "hand", Str.ofString "dress", Str.ofString "ends", Str.ofString "high", Str.ofString "low", Str.ofString "lead", Str.ofString "total", Str.ofString "word"] : List PySem.Str) := by rfl
  rw [this]; decide
theorem law_co (P : Params) : (lawScope P).isCoroutine = false := by rfl
theorem law_gen (P : Params) : (lawScope P).isGenerator = false := by rfl
theorem law_kind (P : Params) : (lawScope P).kind = .function := by rfl
theorem law_cells (P : Params) (n : Addr) : cellsFrom n (lawScope P).names [] = [(Str.ofString "names", n + 10), (Str.ofString "octets", n + 9), (Str.ofString "signs", n + 8), (Str.ofString "hand", n + 7), (Str.ofString "dress", n + 6), (Str.ofString "ends", n + 5), (Str.ofString "high", n + 4), (Str.ofString "low", n + 3), (Str.ofString "lead", n + 2), (Str.ofString "total", n + 1), (Str.ofString "word", n)] := by rfl
theorem all_cons {α : Type} {P : α → Prop} {a : α} {l : List α} (h : P a) (t : ∀ x ∈ l, P x) : ∀ x ∈ a :: l, P x := fun x hx => by
  rcases List.mem_cons.mp hx with rfl | hx
  · exact h
  · exact t x hx
theorem nodup_add (L : Nat) {l : List Nat} (h : l.Nodup) : (l.map (L + ·)).Nodup := List.pairwise_map.mpr (h.imp fun h e => h (Nat.add_left_cancel e))
theorem law_enter {w : World} {A : Around} {s : Shared} {R : Result → Shared → Prop} {a : Addr} {o : Obj} {par : Arguments} {body : List Stmt} {scope : Scope} {pm cd doc : Value} (G : Gd w s.heap) (hh : A.handled = none) (hroom : A.depth < recursionLimit)
    (ho : List.lookup 121 (hd.heap_39 w.params) = some o) (hdata : o.data = .func (Calls.docDef "law" par body scope pm cd doc)) (hcd : codeIn (hd.heap_39 w.params) cd "law" = true)
    (hbind : bindArgs (Calls.docDef "law" par body scope pm cd doc) ⟨[.ref a], []⟩ = pure [(Str.ofString "script", Value.ref a)]) (hscr : scope.names.lookup (Str.ofString "script") = some .local) (hnd : ((cellsFrom 0 scope.names []).map (·.1)).Nodup)
    (hco : scope.isCoroutine = false) (hgen : scope.isGenerator = false) (hkind : scope.kind = .function)
    (hcells : ∀ n, cellsFrom n scope.names [] = [(Str.ofString "names", n + 10), (Str.ofString "octets", n + 9), (Str.ofString "signs", n + 8), (Str.ofString "hand", n + 7), (Str.ofString "dress", n + 6), (Str.ofString "ends", n + 5), (Str.ofString "high", n + 4), (Str.ofString "low", n + 3), (Str.ofString "lead", n + 2), (Str.ofString "total", n + 1), (Str.ofString "word", n)])
    (h : ∀ (A' : Around) (L : Addr) (s' : Shared), A'.handled = none → A'.depth = A.depth + 1 → A'.units = A.units + 3 →
      Ok s.heap ((L, oNs fun x => if x = Str.ofString "script" then some (.ref a) else none) :: Cl11 L none none none none none none none none none none none) { s with toks := 0 } s' →
      wpAny (model PW w) A' (execs body (envOfC "law" scope L 121 cd)) (fun fl s' => R (.ok (.ret (retV fl))) s') (fun _ _ => False) s') :
    codeAny (model PW w) A (.call (.ref 121) ⟨[.ref a], []⟩) R s := by
  have hlim : s.heap.NoLimit := let ⟨_, _, _, _, c, _⟩ := G.T; c
  refine call_cellsN_ret (binds := [(Str.ofString "script", Value.ref a)]) hroom (G.X 121 _ ho) hdata hlim (codeRec_of G.X hcd) hbind (by intro x hx; rcases List.mem_singleton.mp hx with rfl; exact .inl hscr) hnd (fun h₁ tk cells F N Y => ?_) hco hgen hkind
  have key := h (A.deeper (envOfC "law" scope s.heap.objs.size 121 cd)) s.heap.objs.size { s with heap := h₁, toks := tk } hh rfl rfl
  refine wpAny_mono (key ?_) (fun fl s' q => by cases fl <;> exact q) fun _ _ e => e
  clear key h
  rw [hcells] at Y
  have Y' := cell_at Y N
  generalize hL : s.heap.objs.size = L at *
  have kd : (envOfC "law" scope L 121 cd).kindOf (Str.ofString "script") = some .local := hscr
  have eC : ∀ n, bindC (envOfC "law" scope L 121 cd).kindOf [(Str.ofString "script", Value.ref a)] (fun _ => none) n = none := fun n => by
    unfold bindC
    rw [kd, if_pos rfl]; rfl
  have eL : (bindL (envOfC "law" scope L 121 cd).kindOf [(Str.ofString "script", Value.ref a)] fun _ => none) = fun x => if x = Str.ofString "script" then some (.ref a) else none := by
    unfold bindL
    rw [kd, if_pos rfl]; rfl
  have hc : ∀ c, (∃ n, (n, c) ∈ [(Str.ofString "names", L + 1 + 10), (Str.ofString "octets", L + 1 + 9), (Str.ofString "signs", L + 1 + 8), (Str.ofString "hand", L + 1 + 7), (Str.ofString "dress", L + 1 + 6), (Str.ofString "ends", L + 1 + 5), (Str.ofString "high", L + 1 + 4), (Str.ofString "low", L + 1 + 3), (Str.ofString "lead", L + 1 + 2), (Str.ofString "total", L + 1 + 1), (Str.ofString "word", L + 1)]) → HasAt h₁ c (oCell none) ∧ s.heap.get? c = none := fun c ⟨n, hm⟩ => by
    have := Y' n c hm
    rw [eC] at this
    exact ⟨this.1, this.2.1⟩
  have hfr := F.ns
  rw [eL] at hfr
  have hA : ∀ p ∈ Cl11 L none none none none none none none none none none none, HasAt h₁ p.1 p.2 := all_cons (hc _ ⟨_, .tail _ (.tail _ (.tail _ (.tail _ (.tail _ (.tail _ (.tail _ (.tail _ (.tail _ (.tail _ (.head _))))))))))⟩).1 (all_cons (hc _ ⟨_, .tail _ (.tail _ (.tail _ (.tail _ (.tail _ (.tail _ (.tail _ (.tail _ (.tail _ (.head _)))))))))⟩).1 (all_cons (hc _ ⟨_, .tail _ (.tail _ (.tail _ (.tail _ (.tail _ (.tail _ (.tail _ (.tail _ (.head _))))))))⟩).1 (all_cons (hc _ ⟨_, .tail _ (.tail _ (.tail _ (.tail _ (.tail _ (.tail _ (.tail _ (.head _)))))))⟩).1 (all_cons (hc _ ⟨_, .tail _ (.tail _ (.tail _ (.tail _ (.tail _ (.tail _ (.head _))))))⟩).1 (all_cons (hc _ ⟨_, .tail _ (.tail _ (.tail _ (.tail _ (.tail _ (.head _)))))⟩).1 (all_cons (hc _ ⟨_, .tail _ (.tail _ (.tail _ (.tail _ (.head _))))⟩).1 (all_cons (hc _ ⟨_, .tail _ (.tail _ (.tail _ (.head _)))⟩).1 (all_cons (hc _ ⟨_, .tail _ (.tail _ (.head _))⟩).1 (all_cons (hc _ ⟨_, .tail _ (.head _)⟩).1 (all_cons (hc _ ⟨_, .head _⟩).1 (fun p hp => (nomatch hp))))))))))))
  have hN : ∀ p ∈ Cl11 L none none none none none none none none none none none, s.heap.get? p.1 = none := all_cons (hc _ ⟨_, .tail _ (.tail _ (.tail _ (.tail _ (.tail _ (.tail _ (.tail _ (.tail _ (.tail _ (.tail _ (.head _))))))))))⟩).2 (all_cons (hc _ ⟨_, .tail _ (.tail _ (.tail _ (.tail _ (.tail _ (.tail _ (.tail _ (.tail _ (.tail _ (.head _)))))))))⟩).2 (all_cons (hc _ ⟨_, .tail _ (.tail _ (.tail _ (.tail _ (.tail _ (.tail _ (.tail _ (.tail _ (.head _))))))))⟩).2 (all_cons (hc _ ⟨_, .tail _ (.tail _ (.tail _ (.tail _ (.tail _ (.tail _ (.tail _ (.head _)))))))⟩).2 (all_cons (hc _ ⟨_, .tail _ (.tail _ (.tail _ (.tail _ (.tail _ (.tail _ (.head _))))))⟩).2 (all_cons (hc _ ⟨_, .tail _ (.tail _ (.tail _ (.tail _ (.tail _ (.head _)))))⟩).2 (all_cons (hc _ ⟨_, .tail _ (.tail _ (.tail _ (.tail _ (.head _))))⟩).2 (all_cons (hc _ ⟨_, .tail _ (.tail _ (.tail _ (.head _)))⟩).2 (all_cons (hc _ ⟨_, .tail _ (.tail _ (.head _))⟩).2 (all_cons (hc _ ⟨_, .tail _ (.head _)⟩).2 (all_cons (hc _ ⟨_, .head _⟩).2 (fun p hp => (nomatch hp))))))))))))
  refine ⟨F.keep, all_cons (HasAt.ofNs hfr) hA, ?_, all_cons (by rw [← hL]; exact Heap.get?_none_of_le (Nat.le_refl _)) hN, rfl, rfl, Nat.zero_le _⟩
  show (([0, 1, 2, 3, 4, 5, 6, 7, 8, 9, 10, 11] : List Nat).map (L + ·)).Nodup
  exact nodup_add L (by decide)
end
/-! text E3 -/
section
section
variable {w : World} {A : Around} {E : Value → Shared → Prop} {g : Heap} {rest : List Ent} {s₀ s : Shared} {env : Env} {L : Addr} {m : Str → Option Value} {v : Value} {c1 c2 c3 c4 c5 c6 c7 c8 c9 c10 c11 : Option Value} {p : Ent}
theorem mem_word : (L + 1, oCell c1) ∈ p :: (Cl11 L c1 c2 c3 c4 c5 c6 c7 c8 c9 c10 c11 ++ rest) := by unfold Cl11; simp
theorem s_word {c : Addr} {Q : Unit → Shared → Prop} (H : Ok g ((L, oNs m) :: (Cl11 L c1 c2 c3 c4 c5 c6 c7 c8 c9 c10 c11 ++ rest)) s₀ s) (hk : env.scope.kind = .function) (hx : env.kindOf (Str.ofString "word") = some .cell) (hc : env.cells.lookup (Str.ofString "word") = some c) (hL : c = L + 1)
    (k : ∀ s', Ok g ((L, oNs m) :: (Cl11 L (some v) c2 c3 c4 c5 c6 c7 c8 c9 c10 c11 ++ rest)) s₀ s' → Q () s') : wpAny (model PW w) A (storeName env (Str.ofString "word") v) Q E s := by
  subst hL
  exact s_cell 1 H hk hx hc rfl fun s' H' => k s' H'
theorem mem_total : (L + 2, oCell c2) ∈ p :: (Cl11 L c1 c2 c3 c4 c5 c6 c7 c8 c9 c10 c11 ++ rest) := by unfold Cl11; simp
theorem s_total {c : Addr} {Q : Unit → Shared → Prop} (H : Ok g ((L, oNs m) :: (Cl11 L c1 c2 c3 c4 c5 c6 c7 c8 c9 c10 c11 ++ rest)) s₀ s) (hk : env.scope.kind = .function) (hx : env.kindOf (Str.ofString "total") = some .cell) (hc : env.cells.lookup (Str.ofString "total") = some c) (hL : c = L + 2)
    (k : ∀ s', Ok g ((L, oNs m) :: (Cl11 L c1 (some v) c3 c4 c5 c6 c7 c8 c9 c10 c11 ++ rest)) s₀ s' → Q () s') : wpAny (model PW w) A (storeName env (Str.ofString "total") v) Q E s := by
  subst hL
  exact s_cell 2 H hk hx hc rfl fun s' H' => k s' H'
theorem mem_lead : (L + 3, oCell c3) ∈ p :: (Cl11 L c1 c2 c3 c4 c5 c6 c7 c8 c9 c10 c11 ++ rest) := by unfold Cl11; simp
theorem s_lead {c : Addr} {Q : Unit → Shared → Prop} (H : Ok g ((L, oNs m) :: (Cl11 L c1 c2 c3 c4 c5 c6 c7 c8 c9 c10 c11 ++ rest)) s₀ s) (hk : env.scope.kind = .function) (hx : env.kindOf (Str.ofString "lead") = some .cell) (hc : env.cells.lookup (Str.ofString "lead") = some c) (hL : c = L + 3)
    (k : ∀ s', Ok g ((L, oNs m) :: (Cl11 L c1 c2 (some v) c4 c5 c6 c7 c8 c9 c10 c11 ++ rest)) s₀ s' → Q () s') : wpAny (model PW w) A (storeName env (Str.ofString "lead") v) Q E s := by
  subst hL
  exact s_cell 3 H hk hx hc rfl fun s' H' => k s' H'
theorem mem_low : (L + 4, oCell c4) ∈ p :: (Cl11 L c1 c2 c3 c4 c5 c6 c7 c8 c9 c10 c11 ++ rest) := by unfold Cl11; simp
theorem s_low {c : Addr} {Q : Unit → Shared → Prop} (H : Ok g ((L, oNs m) :: (Cl11 L c1 c2 c3 c4 c5 c6 c7 c8 c9 c10 c11 ++ rest)) s₀ s) (hk : env.scope.kind = .function) (hx : env.kindOf (Str.ofString "low") = some .cell) (hc : env.cells.lookup (Str.ofString "low") = some c) (hL : c = L + 4)
    (k : ∀ s', Ok g ((L, oNs m) :: (Cl11 L c1 c2 c3 (some v) c5 c6 c7 c8 c9 c10 c11 ++ rest)) s₀ s' → Q () s') : wpAny (model PW w) A (storeName env (Str.ofString "low") v) Q E s := by
  subst hL
  exact s_cell 4 H hk hx hc rfl fun s' H' => k s' H'
theorem mem_high : (L + 5, oCell c5) ∈ p :: (Cl11 L c1 c2 c3 c4 c5 c6 c7 c8 c9 c10 c11 ++ rest) := by unfold Cl11; simp
theorem s_high {c : Addr} {Q : Unit → Shared → Prop} (H : Ok g ((L, oNs m) :: (Cl11 L c1 c2 c3 c4 c5 c6 c7 c8 c9 c10 c11 ++ rest)) s₀ s) (hk : env.scope.kind = .function) (hx : env.kindOf (Str.ofString "high") = some .cell) (hc : env.cells.lookup (Str.ofString "high") = some c) (hL : c = L + 5)
    (k : ∀ s', Ok g ((L, oNs m) :: (Cl11 L c1 c2 c3 c4 (some v) c6 c7 c8 c9 c10 c11 ++ rest)) s₀ s' → Q () s') : wpAny (model PW w) A (storeName env (Str.ofString "high") v) Q E s := by
  subst hL
  exact s_cell 5 H hk hx hc rfl fun s' H' => k s' H'
theorem mem_ends : (L + 6, oCell c6) ∈ p :: (Cl11 L c1 c2 c3 c4 c5 c6 c7 c8 c9 c10 c11 ++ rest) := by unfold Cl11; simp
theorem s_ends {c : Addr} {Q : Unit → Shared → Prop} (H : Ok g ((L, oNs m) :: (Cl11 L c1 c2 c3 c4 c5 c6 c7 c8 c9 c10 c11 ++ rest)) s₀ s) (hk : env.scope.kind = .function) (hx : env.kindOf (Str.ofString "ends") = some .cell) (hc : env.cells.lookup (Str.ofString "ends") = some c) (hL : c = L + 6)
    (k : ∀ s', Ok g ((L, oNs m) :: (Cl11 L c1 c2 c3 c4 c5 (some v) c7 c8 c9 c10 c11 ++ rest)) s₀ s' → Q () s') : wpAny (model PW w) A (storeName env (Str.ofString "ends") v) Q E s := by
  subst hL
  exact s_cell 6 H hk hx hc rfl fun s' H' => k s' H'
theorem mem_dress : (L + 7, oCell c7) ∈ p :: (Cl11 L c1 c2 c3 c4 c5 c6 c7 c8 c9 c10 c11 ++ rest) := by unfold Cl11; simp
theorem s_dress {c : Addr} {Q : Unit → Shared → Prop} (H : Ok g ((L, oNs m) :: (Cl11 L c1 c2 c3 c4 c5 c6 c7 c8 c9 c10 c11 ++ rest)) s₀ s) (hk : env.scope.kind = .function) (hx : env.kindOf (Str.ofString "dress") = some .cell) (hc : env.cells.lookup (Str.ofString "dress") = some c) (hL : c = L + 7)
    (k : ∀ s', Ok g ((L, oNs m) :: (Cl11 L c1 c2 c3 c4 c5 c6 (some v) c8 c9 c10 c11 ++ rest)) s₀ s' → Q () s') : wpAny (model PW w) A (storeName env (Str.ofString "dress") v) Q E s := by
  subst hL
  exact s_cell 7 H hk hx hc rfl fun s' H' => k s' H'
theorem mem_hand : (L + 8, oCell c8) ∈ p :: (Cl11 L c1 c2 c3 c4 c5 c6 c7 c8 c9 c10 c11 ++ rest) := by unfold Cl11; simp
theorem s_hand {c : Addr} {Q : Unit → Shared → Prop} (H : Ok g ((L, oNs m) :: (Cl11 L c1 c2 c3 c4 c5 c6 c7 c8 c9 c10 c11 ++ rest)) s₀ s) (hk : env.scope.kind = .function) (hx : env.kindOf (Str.ofString "hand") = some .cell) (hc : env.cells.lookup (Str.ofString "hand") = some c) (hL : c = L + 8)
    (k : ∀ s', Ok g ((L, oNs m) :: (Cl11 L c1 c2 c3 c4 c5 c6 c7 (some v) c9 c10 c11 ++ rest)) s₀ s' → Q () s') : wpAny (model PW w) A (storeName env (Str.ofString "hand") v) Q E s := by
  subst hL
  exact s_cell 8 H hk hx hc rfl fun s' H' => k s' H'
theorem mem_signs : (L + 9, oCell c9) ∈ p :: (Cl11 L c1 c2 c3 c4 c5 c6 c7 c8 c9 c10 c11 ++ rest) := by unfold Cl11; simp
theorem s_signs {c : Addr} {Q : Unit → Shared → Prop} (H : Ok g ((L, oNs m) :: (Cl11 L c1 c2 c3 c4 c5 c6 c7 c8 c9 c10 c11 ++ rest)) s₀ s) (hk : env.scope.kind = .function) (hx : env.kindOf (Str.ofString "signs") = some .cell) (hc : env.cells.lookup (Str.ofString "signs") = some c) (hL : c = L + 9)
    (k : ∀ s', Ok g ((L, oNs m) :: (Cl11 L c1 c2 c3 c4 c5 c6 c7 c8 (some v) c10 c11 ++ rest)) s₀ s' → Q () s') : wpAny (model PW w) A (storeName env (Str.ofString "signs") v) Q E s := by
  subst hL
  exact s_cell 9 H hk hx hc rfl fun s' H' => k s' H'
theorem mem_octets : (L + 10, oCell c10) ∈ p :: (Cl11 L c1 c2 c3 c4 c5 c6 c7 c8 c9 c10 c11 ++ rest) := by unfold Cl11; simp
theorem s_octets {c : Addr} {Q : Unit → Shared → Prop} (H : Ok g ((L, oNs m) :: (Cl11 L c1 c2 c3 c4 c5 c6 c7 c8 c9 c10 c11 ++ rest)) s₀ s) (hk : env.scope.kind = .function) (hx : env.kindOf (Str.ofString "octets") = some .cell) (hc : env.cells.lookup (Str.ofString "octets") = some c) (hL : c = L + 10)
    (k : ∀ s', Ok g ((L, oNs m) :: (Cl11 L c1 c2 c3 c4 c5 c6 c7 c8 c9 (some v) c11 ++ rest)) s₀ s' → Q () s') : wpAny (model PW w) A (storeName env (Str.ofString "octets") v) Q E s := by
  subst hL
  exact s_cell 10 H hk hx hc rfl fun s' H' => k s' H'
theorem mem_names : (L + 11, oCell c11) ∈ p :: (Cl11 L c1 c2 c3 c4 c5 c6 c7 c8 c9 c10 c11 ++ rest) := by unfold Cl11; simp
theorem s_names {c : Addr} {Q : Unit → Shared → Prop} (H : Ok g ((L, oNs m) :: (Cl11 L c1 c2 c3 c4 c5 c6 c7 c8 c9 c10 c11 ++ rest)) s₀ s) (hk : env.scope.kind = .function) (hx : env.kindOf (Str.ofString "names") = some .cell) (hc : env.cells.lookup (Str.ofString "names") = some c) (hL : c = L + 11)
    (k : ∀ s', Ok g ((L, oNs m) :: (Cl11 L c1 c2 c3 c4 c5 c6 c7 c8 c9 c10 (some v) ++ rest)) s₀ s' → Q () s') : wpAny (model PW w) A (storeName env (Str.ofString "names") v) Q E s := by
  subst hL
  exact s_cell 11 H hk hx hc rfl fun s' H' => k s' H'
theorem mem_rest {x : Ent} (h : x ∈ rest) : x ∈ p :: (Cl11 L c1 c2 c3 c4 c5 c6 c7 c8 c9 c10 c11 ++ rest) := List.Mem.tail _ (List.mem_append_right _ h)
end
section
variable {w : World} {A : Around} {E : Value → Shared → Prop} {g : Heap} {ms : List Ent} {s₀ s : Shared} {env : Env} {pos : Pos} {L : Addr} {m : Str → Option Value}
theorem n_listE {vs : List Value} {Q : Value → Shared → Prop} (H : Ok g ms s₀ s) (hz : vs.length ≤ 1000000) (k : ∀ a s', Ok g (ms ++ [(a, oList vs)]) s₀ s' → Q (.ref a) s') : wpAny (model PW w) A (newList vs) Q E s :=
  wpAny_newObj_type (k _ _ ((H.push (o := { cls := .type "list", data := .seq vs.toArray }) (P := oList vs) (t := s.toks) ⟨0, rfl⟩ rfl).perm (List.perm_append_singleton _ _).symm)) (by show vs.toArray.size ≤ sizeLine; rw [List.size_toArray, sizeLine_eq]; omega)
theorem e_intT {i : Int} {kd : Nat} {Q : Value → Shared → Prop} (H : Ok g ms s₀ s) (k : ∀ t s', s.toks < s'.toks → Ok g ms s₀ s' → Q (.int i t) s') : wpAny (model PW w) A (eval (.Constant (.int i) kd pos) env) Q E s := wpAny_Constant_int (k _ _ (Nat.lt_succ_self _) H.tk)
theorem Ok.rebase (H : Ok g ms s₀ s) : Ok g ms { s₀ with toks := s.toks } s := ⟨H.keep, H.at_, H.nd, H.new, H.gens, H.os, Nat.le_refl _⟩
/-- the last entry is not changed any more -/
theorem Ok.settle {p : Ent} (H : Ok g (ms ++ [p]) s₀ s) : ∃ g', Sub g g' ∧ HasAt g' p.1 p.2 ∧ Ok g' ms s₀ s := by
  have H₁ : Ok g (p :: ms) s₀ s := H.perm (List.perm_append_singleton _ _)
  have H₂ := H₁.drop1
  exact ⟨_, H₂.gsub, gnd_has (H₁.at_ _ (.head _)) (by have := H₁.nd; rw [List.map_cons] at this; exact (List.nodup_cons.mp this).1), H₂.freeze⟩
end
end
/-! text E4 -/
section
theorem lt2c {a : Nat} (h : a < 2) : a = 0 ∨ a = 1 := by omega
theorem lt3c {a : Nat} (h : a < 3) : a = 0 ∨ a = 1 ∨ a = 2 := by omega
theorem lt4c {a : Nat} (h : a < 4) : a = 0 ∨ a = 1 ∨ a = 2 ∨ a = 3 := by omega
theorem lt5c {a : Nat} (h : a < 5) : a = 0 ∨ a = 1 ∨ a = 2 ∨ a = 3 ∨ a = 4 := by omega
theorem i_itemN {w : World} {A : Around} {E : Value → Shared → Prop} {g : Heap} {ms : List Ent} {s₀ s : Shared} {v : Value} {a : Addr} {vs : List Value} {value slice : Expr} {i : Nat} {u : Tok} {Q : Value → Shared → Prop} (H : Ok g ms s₀ s) (r : Rd g ms a (oList vs)) (hi : i < 1000) (hx : vs[i]? = some v)
    (hs : subscripted slice false (.ref a) (.int (i : Int) u) = operate [.ref a, .int (i : Int) u] (getItem (.ref a) (.int (i : Int) u))) (h : Q v s) : wpAny (model PW w) A (subscriptTail value slice (.ref a) (.int (i : Int) u)) Q E s :=
  i_item H r (Int.natCast_nonneg _) (by omega) (by rw [Int.toNat_natCast]; exact hx) hs h
def oEnum (it : Addr) (i : Int) : Obj → Prop := fun o => ∃ old, o = { cls := .type "enumerate", dict := none, data := .fields #[.none, .bool false, .ref it, rawInt i, .none, old], slots := #[] }
theorem intL_ex {vs : List Value} (h : ∀ v ∈ vs, ∃ i t, v = .int i t) : ∃ k0, IntL vs vs.length k0 := by
  refine ⟨fun i => match vs[i]? with | some (.int n _) => n | _ => 0, rfl, fun i hi => ?_⟩
  obtain ⟨n, t, e⟩ := h vs[i] (List.getElem_mem hi)
  refine ⟨t, ?_⟩
  simp [List.getElem?_eq_getElem hi, e]
section
variable {w : World} {A : Around} {E : Value → Shared → Prop} {g : Heap} {ms : List Ent} {s₀ s : Shared} {env : Env} {pos : Pos} {L : Addr} {m : Str → Option Value}
theorem as_two {x y : Str} {p1 p2 p : Pos} {kd : Nat} {t : Addr} {a b : Value} {Q : Unit → Shared → Prop} (hh : A.handled = none) (hk : env.scope.kind = .function) (hx : env.kindOf x = some .local) (hy : env.kindOf y = some .local) (hL : env.locals = L)
    (H : Ok g ((L, oNs m) :: ms) s₀ s) (ht : HasAt s.heap t (oTup [a, b])) (k : ∀ s', Ok g ((L, oNs (upd (upd m x a) y b)) :: ms) s₀ s' → Q () s') : wpAny (model PW w) A (assign (.Tuple [.Name x p1, .Name y p2] kd p) env (.ref t)) Q E s := by
  have htu := ht.tup
  refine wpAny_assign_Tuple hh htu rfl rfl fun h' hx' => ?_
  have H1 : Ok g ((L, oNs m) :: ms) s₀ { s with heap := h' } := H.ext (fun b o e => hx' b o (Nat.ne_of_lt (Heap.lt_size e)) e) rfl rfl
  show wpAny _ A (do holding [b] (assign (.Name x p1) env a); do holding [] (assign (.Name y p2) env b); pure ()) _ _ _
  refine wpAny_bind (wpAny_holding (wpAny_assign_Name (s_loc H1 hk hx hL fun s2 H2 => ?_)))
  exact wpAny_bind (wpAny_holding (wpAny_assign_Name (s_loc H2 hk hy hL fun s3 H3 => wpAny_pure (k s3 H3))))
theorem as_three {x y z : Str} {p1 p2 p3 p : Pos} {kd : Nat} {t : Addr} {a b c : Value} {Q : Unit → Shared → Prop} (hh : A.handled = none) (hk : env.scope.kind = .function) (hx : env.kindOf x = some .local) (hy : env.kindOf y = some .local) (hz : env.kindOf z = some .local) (hL : env.locals = L)
    (H : Ok g ((L, oNs m) :: ms) s₀ s) (ht : HasAt s.heap t (oTup [a, b, c])) (k : ∀ s', Ok g ((L, oNs (upd (upd (upd m x a) y b) z c)) :: ms) s₀ s' → Q () s') : wpAny (model PW w) A (assign (.Tuple [.Name x p1, .Name y p2, .Name z p3] kd p) env (.ref t)) Q E s := by
  have htu := ht.tup
  refine wpAny_assign_Tuple hh htu rfl rfl fun h' hx' => ?_
  have H1 : Ok g ((L, oNs m) :: ms) s₀ { s with heap := h' } := H.ext (fun b o e => hx' b o (Nat.ne_of_lt (Heap.lt_size e)) e) rfl rfl
  show wpAny _ A (do holding [b, c] (assign (.Name x p1) env a); do holding [c] (assign (.Name y p2) env b); do holding [] (assign (.Name z p3) env c); pure ()) _ _ _
  refine wpAny_bind (wpAny_holding (wpAny_assign_Name (s_loc H1 hk hx hL fun s2 H2 => ?_)))
  refine wpAny_bind (wpAny_holding (wpAny_assign_Name (s_loc H2 hk hy hL fun s3 H3 => ?_)))
  exact wpAny_bind (wpAny_holding (wpAny_assign_Name (s_loc H3 hk hz hL fun s4 H4 => wpAny_pure (k s4 H4))))
theorem b_enum {l : Addr} {vs : List Value} {Q : Value → Shared → Prop} (H : Ok g ms s₀ s) (hl : g.IsList l vs.toArray)
    (k : ∀ e it s', Ok g ((e, oEnum it 0) :: (it, oLit l 0) :: ms) s₀ s' → Q (.ref e) s') : wpAny (model PW w) A (call (.type "enumerate") [.ref l]) Q E s := by
  obtain ⟨o, ho, hc, n, hd⟩ := hl
  refine call_enumerate_list ⟨o, H.keep _ _ ho, hc, n, hd⟩ fun h' he hit hz hk => k (s.heap.objs.size + 1) s.heap.objs.size { s with heap := h' } ?_
  have hlt := fun p hp => H.lt (p := p) hp
  refine ⟨fun b o e => hk _ _ (H.keep _ _ e), fun p hp => ?_, ?_, fun p hp => ?_, H.gens, H.os, H.tm⟩
  · rcases List.mem_cons.mp hp with rfl | hp
    · exact ⟨_, he, _, rfl⟩
    · rcases List.mem_cons.mp hp with rfl | hp
      · exact HasAt.ofLit hit
      · exact (H.at_ p hp).sub hk
  · rw [List.map_cons, List.map_cons]
    refine List.nodup_cons.mpr ⟨fun hm => ?_, List.nodup_cons.mpr ⟨fun hm => ?_, H.nd⟩⟩
    · rcases List.mem_cons.mp hm with e | hm
      · exact absurd e (Nat.succ_ne_self _)
      · obtain ⟨p, hp, e⟩ := List.mem_map.mp hm
        have := hlt p hp
        dsimp only at e
        rw [e] at this
        exact absurd this (Nat.not_lt.mpr (Nat.le_succ _))
    · obtain ⟨p, hp, e⟩ := List.mem_map.mp hm
      have := hlt p hp
      dsimp only at e
      rw [e] at this
      exact absurd this (Nat.lt_irrefl _)
  · have fresh : ∀ a, s.heap.objs.size ≤ a → g.get? a = none := fun a ha => by
      cases q : g.get? a with
      | none => rfl
      | some o' => exact absurd (Heap.lt_size (H.keep _ _ q)) (Nat.not_lt.mpr ha)
    rcases List.mem_cons.mp hp with rfl | hp
    · exact fresh _ (Nat.le_succ _)
    · rcases List.mem_cons.mp hp with rfl | hp
      · exact fresh _ (Nat.le_refl _)
      · exact H.new p hp
theorem for_enum {body : List Stmt} {R : Result → Shared → Prop} {x y : Str} {p1 p2 p : Pos} {kd : Nat} (hh : A.handled = none) (hk : env.scope.kind = .function) (hx : env.kindOf x = some .local) (hy : env.kindOf y = some .local) (hL : env.locals = L) {e it l : Addr} {vs : List Value} (J : Inv)
    (hJ : ∀ i g m ms, J i g m ms → g.IsList l vs.toArray)
    (turn : ∀ (i : Nat) g m ms s v t, vs[i]? = some v → J i g m ms → Ok g ((L, oNs (upd (upd m x (.int (i : Int) t)) y v)) :: (ms ++ [(e, oEnum it ((i : Int) + 1)), (it, oLit l (i + 1))])) s₀ s →
      wpAny (model PW w) A (execs body env) (fun f s' => f = .next ∧ ∃ g' m' ms', J (i + 1) g' m' ms' ∧ Ok g' ((L, oNs m') :: (ms' ++ [(e, oEnum it ((i : Int) + 1)), (it, oLit l (i + 1))])) s₀ s') (fun _ _ => False) s)
    (fin : ∀ g m ms s, J vs.length g m ms → Ok g ((L, oNs m) :: ms) s₀ s → R (.ok .next) s)
    (h : J 0 g m ms) (H : Ok g ((e, oEnum it 0) :: (it, oLit l 0) :: (L, oNs m) :: ms) s₀ s) : codeAny (model PW w) A (.forLoop (.Tuple [.Name x p1, .Name y p2] kd p) (.ref e) body [] env) R s := by
  have hper : ∀ (a b c : Ent) (ms : List Ent), (a :: b :: c :: ms).Perm (c :: (ms ++ [a, b])) := fun a b c ms => by
    have h1 : (a :: b :: c :: ms).Perm (c :: a :: b :: ms) := by
      refine ((List.Perm.swap b c ms).symm.cons a |>.symm |>.symm).trans ?_
      exact List.Perm.swap c a _
    exact h1.trans (List.Perm.cons _ (List.perm_append_comm (l₁ := [a, b]) (l₂ := ms)))
  refine codeAny_forLoop_any (fun k s' => ∃ i g m ms, i ≤ vs.length ∧ k = vs.length + 1 - i ∧ J i g m ms ∧ Ok g ((e, oEnum it (i : Int)) :: (it, oLit l i) :: (L, oNs m) :: ms) s₀ s') ?_ (vs.length + 1) ⟨0, g, m, ms, Nat.zero_le _, rfl, h, H⟩
  rintro k s' ⟨i, g, m, ms, hi, rfl, hj, H⟩
  have hl : s'.heap.IsList l vs.toArray := by
    obtain ⟨o, ho, r⟩ := hJ _ _ _ _ hj
    exact ⟨o, H.keep _ _ ho, r⟩
  obtain ⟨old, he⟩ : ∃ old, IsEnum s'.heap e it (i : Int) old := by
    obtain ⟨o, ho, old, rfl⟩ := H.at_ _ (.head _)
    exact ⟨old, ho⟩
  have hit := (H.at_ (it, oLit l i) (.tail _ (.head _))).lit
  have hne : e ≠ it := by
    have := H.nd
    rw [List.map_cons, List.map_cons] at this
    exact fun q => (List.nodup_cons.mp this).1 (q ▸ .head _)
  have hge : g.get? e = none := H.new _ (.head _)
  have hgi : g.get? it = none := H.new (it, oLit l i) (.tail _ (.head _))
  cases hv : vs[i]? with
  | none =>
    have hsz : i = vs.length := Nat.le_antisymm hi (by simpa using hv)
    subst hsz
    refine wpAny_pyNext_enum_end hh he hit hl (by simpa using hv) fun h₁ he₁ => wpAny_execs_nil ?_
    have H1 := H.eraseX (t := s'.toks) 1 rfl he₁
    exact fin g m ms _ hj H1.drop1
  | some v =>
    have hlt : i < vs.length := (List.getElem?_eq_some_iff.mp hv).1
    refine wpAny_pyNext_enum_item he hit hl (x := v) (by simpa using hv) hne fun h₁ heo hit₁ ht₁ hz₁ hk₁ => ?_
    refine wpAny_letOwnedTupleGo_enum heo fun h₂ he₂ hs₂ => ?_
    have ht₂ : HasAt h₂ s'.heap.objs.size (oTup [.int (i : Int) s'.toks, v]) := ⟨_, (hs₂.2 _ (Nat.ne_of_gt (Heap.lt_size he))).trans ht₁, rfl, _, rfl⟩
    have H2 : Ok g ((e, oEnum it ((i : Int) + 1)) :: (it, oLit l (i + 1)) :: (L, oNs m) :: ms) s₀ { s' with heap := h₂, toks := s'.toks + 1 } := by
      refine ⟨fun b o q => ?_, fun p hp => ?_, H.nd, fun p hp => ?_, H.gens, H.os, Nat.le_trans H.tm (Nat.le_succ _)⟩
      · have hbe : b ≠ e := fun r => by subst r; rw [hge] at q; cases q
        have hbi : b ≠ it := fun r => by subst r; rw [hgi] at q; cases q
        exact (hs₂.2 b hbe).trans (hk₁ b o hbe hbi (H.keep _ _ q))
      · rcases List.mem_cons.mp hp with rfl | hp
        · exact ⟨_, he₂, _, rfl⟩
        · rcases List.mem_cons.mp hp with rfl | hp
          · obtain ⟨o, ho, r⟩ := hit₁
            exact HasAt.ofLit ⟨o, (hs₂.2 it (Ne.symm hne)).trans ho, r⟩
          · obtain ⟨o, ho, r⟩ := H.at_ p (.tail _ (.tail _ hp))
            have nd := H.nd
            rw [List.map_cons, List.map_cons] at nd
            have hm : p.1 ∈ ((L, oNs m) :: ms).map (·.1) := List.mem_map_of_mem hp
            have hpe : p.1 ≠ e := fun q => (List.nodup_cons.mp nd).1 (List.mem_cons_of_mem _ (q ▸ hm))
            have hpi : p.1 ≠ it := fun q => (List.nodup_cons.mp (List.nodup_cons.mp nd).2).1 (q ▸ hm)
            exact ⟨o, (hs₂.2 _ hpe).trans (hk₁ _ _ hpe hpi ho), r⟩
      · rcases List.mem_cons.mp hp with rfl | hp
        · exact hge
        · rcases List.mem_cons.mp hp with rfl | hp
          · exact hgi
          · exact H.new p (.tail _ (.tail _ hp))
    have H3 := H2.perm (hper _ _ _ _)
    refine as_two hh hk hx hy hL H3 ht₂ fun s4 H4 => ?_
    refine wpAny_mono (turn i g m ms s4 v _ hv hj H4) (fun f s5 q => ?_) fun _ _ q => q.elim
    obtain ⟨rfl, g', m', ms', hj', H5⟩ := q
    have e1 : ((i + 1 : Nat) : Int) = (i : Int) + 1 := by push_cast; rfl
    refine ⟨vs.length + 1 - (i + 1), by omega, i + 1, g', m', ms', hlt, rfl, hj', ?_⟩
    rw [e1]
    exact H5.perm (hper _ _ _ _).symm
end
end
/-! text P1 -/
section
/-! ## runs of a word: the plain law -/
structure Run (w : Nat → Nat) (n f e st : Nat) : Prop where
  one : 1 ≤ st
  two : f + 2 * st ≤ e
  le : e ≤ n
  per : ∀ j, f ≤ j → j + st < e → w j = w (j + st)
  left : ∀ q, q + 1 = f → w q ≠ w (q + st)
  right : ∀ c, c + st = e → e < n → w e ≠ w c
def RunMin (w : Nat → Nat) (n f e st : Nat) : Prop := Run w n f e st ∧ ∀ s, s < st → ¬ Run w n f e s
/-- the tail at j is greater than the tail at p, both proper: the end is least -/
def SufGt (lt : Nat → Nat → Prop) (w : Nat → Nat) (n p j : Nat) : Prop := ∃ d, j + d < n ∧ (∀ i, i < d → w (p + i) = w (j + i)) ∧ lt (w (p + d)) (w (j + d))
structure LedW (lt : Nat → Nat → Prop) (w : Nat → Nat) (n p f e st : Nat) : Prop where
  hn : p + st ≤ n
  gt : ∀ j, p < j → j < p + st → SufGt lt w n p j
  stop : p + st = n ∨ ¬ SufGt lt w n p (p + st)
  e1 : p + st ≤ e
  f1 : f ≤ p
  run : Run w n f e st
theorem first_diff (x y : Nat → Nat) (d : Nat) : (∀ i, i < d → x i = y i) ∨ ∃ d', d' < d ∧ (∀ i, i < d' → x i = y i) ∧ x d' ≠ y d' := by
  induction d with
  | zero => exact .inl fun i hi => absurd hi (Nat.not_lt_zero _)
  | succ d ih =>
    rcases ih with q | ⟨d', a, b, c⟩
    · by_cases e : x d = y d
      · refine .inl fun i hi => ?_
        rcases Nat.lt_succ_iff_lt_or_eq.mp hi with h1 | rfl
        · exact q i h1
        · exact e
      · exact .inr ⟨d, Nat.lt_succ_self d, q, e⟩
    · exact .inr ⟨d', Nat.lt_succ_of_lt a, b, c⟩
section
variable {lt : Nat → Nat → Prop} {w : Nat → Nat} {n p f e st : Nat}
theorem suf_not (tot : ∀ a b, a ≠ b → lt a b ∨ lt b a) {p j : Nat} (hj : j ≤ n) (hn : ¬ SufGt lt w n p j) : ∃ d, j + d ≤ n ∧ (∀ i, i < d → w (p + i) = w (j + i)) ∧ (j + d = n ∨ lt (w (j + d)) (w (p + d))) := by
  obtain ⟨m, rfl⟩ := Nat.le.dest hj
  rcases first_diff (fun i => w (p + i)) (fun i => w (j + i)) m with q | ⟨d', a, b, c⟩
  · exact ⟨m, Nat.le_refl _, q, .inl rfl⟩
  · refine ⟨d', Nat.add_le_add_left (Nat.le_of_lt a) _, b, .inr ?_⟩
    rcases tot _ _ c with x | x
    · exact absurd ⟨d', Nat.add_lt_add_left a _, b, x⟩ hn
    · exact x
theorem add3 (a b c : Nat) : a + b + c = a + c + b := Nat.add_right_comm a b c
variable (irr : ∀ a, ¬ lt a a) (tr : ∀ a b c, lt a b → lt b c → lt a c) (tot : ∀ a b, a ≠ b → lt a b ∨ lt b a)
include irr tot
theorem LedW.letter (h : LedW lt w n p f e st) : e = n ∨ ∀ c, c + st = e → lt (w e) (w c) := by
  by_cases hen : e = n
  · exact .inl hen
  have hlt : e < n := Nat.lt_of_le_of_ne h.run.le hen
  have q := h.stop.resolve_left fun q => absurd (Nat.lt_of_le_of_lt h.e1 hlt) (by rw [q]; exact Nat.lt_irrefl _)
  obtain ⟨a, rfl⟩ := Nat.le.dest h.e1
  obtain ⟨d, d1, d2, d3⟩ := suf_not tot h.hn q
  refine .inr fun c hc => ?_
  have hc' : c = p + a := Nat.add_right_cancel (hc.trans (add3 p st a))
  subst hc'
  rcases Nat.lt_trichotomy d a with x | x | x
  · have hd : p + st + d < p + st + a := Nat.add_lt_add_left x _
    have := h.run.per (p + d) (Nat.le_trans h.f1 (Nat.le_add_right _ _)) (by rw [add3]; exact hd)
    rcases d3 with y | y
    · exact absurd (Nat.lt_trans hd hlt) (by rw [y]; exact Nat.lt_irrefl _)
    · rw [this, add3] at y
      exact absurd y (irr _)
  · subst x
    rcases d3 with y | y
    · exact absurd y hen
    · exact y
  · exact absurd (d2 a x).symm (h.run.right (p + a) hc hlt)
include tr
theorem LedW.min (h : LedW lt w n p f e st) : ∀ s, s < st → ¬ Run w n f e s := by
  intro s hs r
  have R := h.run
  have hL := h.letter irr tot
  have h1 : p + s < p + st := Nat.add_lt_add_left hs _
  obtain ⟨d, d1, d2, d3⟩ := h.gt (p + s) (Nat.lt_add_of_pos_right r.one) h1
  have he1 := h.e1
  have hf1 := h.f1
  obtain ⟨a, rfl⟩ := Nat.le.dest (Nat.le_trans (Nat.le_of_lt h1) h.e1)
  rcases Nat.lt_trichotomy d a with x | x | x
  · have hd : p + s + d < p + s + a := Nat.add_lt_add_left x _
    have := r.per (p + d) (Nat.le_trans hf1 (Nat.le_add_right _ _)) (by rw [add3]; exact hd)
    rw [this, add3] at d3
    exact irr _ d3
  · subst x
    rcases hL with y | y
    · exact absurd d1 (by rw [y]; exact Nat.lt_irrefl _)
    · have hs1 := r.one
      have hR2 := R.two
      obtain ⟨x, hx⟩ : ∃ x, x + s + st = p + s + d := ⟨p + d - st, by omega⟩
      have hfx : f ≤ x := by omega
      have e1 : x + st = p + d := by omega
      have a1 := R.per x hfx (by omega)
      have a2 := r.per x hfx (by omega)
      have c := tr _ _ _ d3 (y (x + s) hx)
      rw [← e1, ← a1, a2] at c
      exact irr _ c
  · exact r.right (p + a) (add3 p a s) (Nat.lt_trans (Nat.add_lt_add_left x _) d1) (d2 a x).symm
omit irr tr tot
theorem arg_min {R : Nat → Nat → Prop} (irr : ∀ a, ¬ R a a) (tr : ∀ a b c, R a b → R b c → R a c) : ∀ n, 0 < n → ∃ p, p < n ∧ ∀ j, j < n → ¬ R j p
  | 0, h => absurd h (Nat.lt_irrefl _)
  | 1, _ => ⟨0, Nat.zero_lt_one, fun j hj => by rw [Nat.lt_one_iff.mp hj]; exact irr 0⟩
  | n + 2, _ => by
    obtain ⟨p, hp, h⟩ := arg_min irr tr (n + 1) (Nat.succ_pos _)
    by_cases q : R (n + 1) p
    · refine ⟨n + 1, Nat.lt_succ_self _, fun j hj r => ?_⟩
      rcases Nat.lt_succ_iff_lt_or_eq.mp hj with e | e
      · exact h j e (tr _ _ _ r q)
      · subst e; exact irr _ r
    · refine ⟨p, Nat.lt_succ_of_lt hp, fun j hj r => ?_⟩
      rcases Nat.lt_succ_iff_lt_or_eq.mp hj with e | e
      · exact h j e r
      · subst e; exact q r
theorem per_mul {v : Nat → Nat} {a : Nat} (ha : ∀ i, v (i + a) = v i) : ∀ k i, v (i + a * k) = v i
  | 0, i => rfl
  | k + 1, i => by rw [Nat.mul_succ, ← Nat.add_assoc, ha, per_mul ha k i]
theorem per_gcd {v : Nat → Nat} (a b : Nat) (ha : ∀ i, v (i + a) = v i) (hb : ∀ i, v (i + b) = v i) : ∀ i, v (i + Nat.gcd a b) = v i := by
  induction a, b using Nat.gcd.induction with
  | H0 b => rw [Nat.gcd_zero_left]; exact hb
  | H1 a b h ih =>
    rw [Nat.gcd_rec]
    refine ih (fun i => ?_) ha
    have := per_mul ha (b / a) (i + b % a)
    rw [Nat.add_assoc, Nat.mod_add_div] at this
    rw [← this]; exact hb i
def Less (lt : Nat → Nat → Prop) (v : Nat → Nat) (j p : Nat) : Prop := ∃ d, (∀ i, i < d → v (j + i) = v (p + i)) ∧ lt (v (j + d)) (v (p + d))
/-- the word of the run, without end -/
def inf (w : Nat → Nat) (f st : Nat) (i : Nat) : Nat := w (f + i % st)
theorem inf_st (i : Nat) : inf w f st (i + st) = inf w f st i := by unfold inf; rw [Nat.add_mod_right]
theorem Run.inf (r : Run w n f e st) : ∀ i, f + i < e → w (f + i) = inf w f st i := by
  have key : ∀ k i, i = i % st + st * k → f + i < e → w (f + i) = Mine.inf w f st i := by
    intro k
    induction k with
    | zero => intro i hi _; unfold Mine.inf; rw [Nat.mul_zero, Nat.add_zero] at hi; rw [← hi]
    | succ k ih =>
      intro i hi he
      rw [Nat.mul_succ, ← Nat.add_assoc] at hi
      obtain ⟨i', rfl⟩ : ∃ i', i = i' + st := ⟨_, hi⟩
      rw [Nat.add_mod_right] at hi
      rw [inf_st, ← ih i' (Nat.add_right_cancel hi) (Nat.lt_of_le_of_lt (by rw [← Nat.add_assoc]; exact Nat.le_add_right _ _) he), ← Nat.add_assoc]
      exact (r.per (f + i') (Nat.le_add_right _ _) (by rw [Nat.add_assoc]; exact he)).symm
  exact fun i he => key (i / st) i (Nat.mod_add_div _ _).symm he
/-- no lesser period -/
theorem Run.prim (r : Run w n f e st) (hmin : ∀ s, s < st → ¬ Run w n f e s) {c : Nat} (hc : 0 < c) (hcs : c < st) : ¬ ∀ i, Mine.inf w f st (i + c) = Mine.inf w f st i := by
  intro hv
  have h2 := r.two
  have vw := r.inf
  have hg := per_gcd c st hv inf_st
  have hg0 : 0 < Nat.gcd c st := Nat.gcd_pos_of_pos_left _ hc
  have hgc : Nat.gcd c st < st := Nat.lt_of_le_of_lt (Nat.gcd_le_left _ hc) hcs
  obtain ⟨k, hk⟩ := Nat.gcd_dvd_right c st
  generalize Nat.gcd c st = q at *
  clear hc hcs hv
  obtain ⟨k1, rfl⟩ : ∃ k1, k = k1 + 1 := by
    cases k with
    | zero => exact absurd hk (by omega)
    | succ k => exact ⟨k, rfl⟩
  rw [Nat.mul_succ] at hk
  obtain ⟨q1, rfl⟩ : ∃ q1, q = q1 + 1 := ⟨q - 1, by omega⟩
  refine hmin (q1 + 1) hgc ⟨hg0, by omega, r.le, fun j hj hje => ?_, fun x hx => ?_, fun x hx hen => ?_⟩
  · obtain ⟨i, rfl⟩ := Nat.le.dest hj
    rw [Nat.add_assoc f, vw i (by omega), vw (i + (q1 + 1)) (by omega), hg]
  · refine fun y => r.left x hx (y.trans ?_)
    have e2 : x + st = f + (q1 + (q1 + 1) * k1) := by omega
    rw [e2, vw _ (by omega), show x + (q1 + 1) = f + q1 by omega, vw _ (by omega)]
    exact (per_mul hg k1 q1).symm
  · obtain ⟨i, hi⟩ : ∃ i, f + i + st = e := ⟨e - f - st, by omega⟩
    refine fun y => r.right (f + i) hi hen (y.trans ?_)
    have e2 : x = f + (i + (q1 + 1) * k1) := by omega
    rw [e2, vw _ (by omega), vw _ (by omega)]
    exact per_mul hg k1 i
include irr tr tot
theorem Run.led (r : Run w n f e st) (hmin : ∀ s, s < st → ¬ Run w n f e s) (hl : e = n ∨ ∀ c, c + st = e → lt (w e) (w c)) : ∃ p, p < n ∧ LedW lt w n p f e st := by
  have h1 := r.one
  have h2 := r.two
  have h3 := r.le
  have vst : ∀ i, Mine.inf w f st (i + st) = Mine.inf w f st i := inf_st
  have vw := r.inf
  have prim := fun c hc hcs => r.prim hmin (c := c) hc hcs
  have vmod : ∀ i, Mine.inf w f st (i % st) = Mine.inf w f st i := fun i => by unfold Mine.inf; rw [Nat.mod_mod]
  have vadd : ∀ j i, Mine.inf w f st (j % st + i) = Mine.inf w f st (j + i) := fun j i => by unfold Mine.inf; rw [Nat.mod_add_mod]
  generalize Mine.inf w f st = v at vst vw prim vmod vadd
  obtain ⟨p, hp, hpm⟩ := arg_min (R := Less lt v) (fun a ⟨d, _, h⟩ => irr _ h) (fun a b c ⟨d, x1, x2⟩ ⟨d', y1, y2⟩ => by
    rcases Nat.lt_trichotomy d d' with q | q | q
    · exact ⟨d, fun i hi => (x1 i hi).trans (y1 i (Nat.lt_trans hi q)), by rw [← y1 d q]; exact x2⟩
    · subst q
      exact ⟨d, fun i hi => (x1 i hi).trans (y1 i hi), tr _ _ _ x2 y2⟩
    · exact ⟨d', fun i hi => (x1 i (Nat.lt_trans hi q)).trans (y1 i hi), by rw [x1 d' q]; exact y2⟩) st h1
  have hpm' : ∀ j, ¬ Less lt v j p := fun j ⟨d, x1, x2⟩ =>
    hpm (j % st) (Nat.mod_lt _ h1) ⟨d, fun i hi => by rw [vadd]; exact x1 i hi, by rw [vadd]; exact x2⟩
  clear hpm
  have hpe : f + p + st < e := by omega
  refine ⟨f + p, by omega, Nat.le_trans (Nat.le_of_lt hpe) h3, ?_, .inr ?_, Nat.le_of_lt hpe, Nat.le_add_right _ _, r⟩
  · intro j hj1 hj2
    obtain ⟨c, rfl⟩ := Nat.le.dest (Nat.le_of_lt hj1)
    have hc : 0 < c := Nat.pos_of_ne_zero fun q => by subst q; exact Nat.lt_irrefl _ hj1
    have hcs : c < st := Nat.lt_of_add_lt_add_left hj2
    clear hj1 hj2
    rcases first_diff (fun i => v (p + i)) (fun i => v (p + c + i)) st with x | ⟨d, dl, d1, d2⟩
    · refine absurd (fun i => ?_) (prim c hc hcs)
      have all : ∀ i, v (p + i) = v (p + c + i) := fun i => by
        have := x (i % st) (Nat.mod_lt _ h1)
        rw [Nat.add_comm p, vadd, Nat.add_comm (p + c), vadd] at this
        rw [Nat.add_comm p, this, Nat.add_comm (p + c)]
      obtain ⟨z, hz⟩ := Nat.le.dest (Nat.le_mul_of_pos_left p h1)
      have e1 := per_mul vst p i
      have e2 := per_mul vst p (i + c)
      have := all (i + z)
      rw [show p + (i + z) = i + st * p by omega, show p + c + (i + z) = i + c + st * p by omega, e1, e2] at this
      exact this.symm
    · have hlt : lt (v (p + d)) (v (p + c + d)) := by
        rcases tot _ _ d2 with y | y
        · exact y
        · exact absurd ⟨d, fun i hi => (d1 i hi).symm, y⟩ (hpm' (p + c))
      by_cases he : f + p + c + d < e
      · have vx : ∀ x i, f + x + i < e → w (f + x + i) = v (x + i) := fun x i hi => by rw [Nat.add_assoc]; exact vw _ (by rw [← Nat.add_assoc]; exact hi)
        have vy : ∀ i, f + p + c + i < e → w (f + p + c + i) = v (p + c + i) := fun i hi => by rw [Nat.add_assoc f, vx _ _ (by rw [← Nat.add_assoc]; exact hi)]
        refine ⟨d, Nat.lt_of_lt_of_le he h3, fun i hi => ?_, ?_⟩
        · rw [vx p i (by omega), vy i (by omega)]; exact d1 i hi
        · rw [vx p d (by omega), vy d he]; exact hlt
      · exfalso
        -- a border: the shift behind it is less
        obtain ⟨b, hb⟩ := Nat.le.dest (Nat.le_of_lt hcs)
        obtain ⟨z, rfl⟩ : ∃ z, d = b + z := ⟨d - b, by omega⟩
        have hsh : ∀ i, v (p + c + (b + i)) = v (p + i) := fun i => by rw [show p + c + (b + i) = p + i + st by omega, vst]
        refine hpm' (p + b) ⟨z, fun i hi => ?_, ?_⟩
        · have := d1 (b + i) (Nat.add_lt_add_left hi _)
          rw [hsh, ← Nat.add_assoc] at this
          exact this
        · rw [hsh, ← Nat.add_assoc] at hlt
          exact hlt
  · rintro ⟨d, x0, x1, x2⟩
    obtain ⟨a, ha⟩ := Nat.le.dest (Nat.le_of_lt hpe)
    have hca : f + p + a + st = e := (add3 _ _ _).trans ha
    rcases Nat.lt_trichotomy d a with x | x | x
    · have hd : f + p + st + d < e := by rw [← ha]; exact Nat.add_lt_add_left x _
      have := r.per (f + p + d) (by rw [Nat.add_assoc]; exact Nat.le_add_right _ _) (by rw [add3]; exact hd)
      rw [this, add3] at x2
      exact irr _ x2
    · subst x
      rcases hl with y | y
      · exact absurd x0 (by rw [ha, y]; exact Nat.lt_irrefl _)
      · rw [ha] at x2
        exact irr _ (tr _ _ _ x2 (y _ hca))
    · have := x1 a x
      rw [ha] at this
      exact r.right _ hca (by rw [← ha]; exact Nat.lt_trans (Nat.add_lt_add_left x _) x0) this.symm
end
end
/-! text P2 -/
section
theorem mod_step {x y a b : Int} {M : Int} (ha : 0 ≤ a) (ha' : a < 64) (hb : 0 ≤ b) (hb' : b < 64) : (x * 64 + a - (y * 64 + b)) % (M * 64) = 0 ↔ a = b ∧ (x - y) % M = 0 := by
  rw [← Int.dvd_iff_emod_eq_zero, ← Int.dvd_iff_emod_eq_zero]
  constructor
  · intro h
    have h64 : (64 : Int) ∣ x * 64 + a - (y * 64 + b) := Int.dvd_trans (Int.dvd_mul_left M 64) h
    have e : a = b := by clear h; omega
    subst e
    refine ⟨rfl, ?_⟩
    obtain ⟨k, hk⟩ := h
    refine ⟨k, ?_⟩
    have : M * 64 * k = (M * k) * 64 := by rw [Int.mul_assoc, Int.mul_comm 64 k, ← Int.mul_assoc]
    clear h64 ha ha' hb hb'
    omega
  · rintro ⟨rfl, k, hk⟩
    refine ⟨k, ?_⟩
    have : M * 64 * k = (M * k) * 64 := by rw [Int.mul_assoc, Int.mul_comm 64 k, ← Int.mul_assoc]
    clear ha ha' hb hb'
    omega
theorem num_mod {d : Nat → Nat} {n st : Nat} (hd : ∀ r, r < n → d r < 64) : ∀ (j c : Nat), c + st ≤ n → j ≤ c →
    ((((num d (c + st) : Nat) : Int) - (num d c : Nat)) % (64 : Int) ^ j = 0 ↔ ∀ p, c ≤ p + j → p < c → d (p + st) = d p)
  | 0, c, hc, _ => by
    rw [Int.pow_zero]
    exact ⟨fun _ p h1 h2 => absurd h1 (Nat.not_le.mpr h2), fun _ => Int.emod_one _⟩
  | j + 1, 0, _, h => absurd h (Nat.not_succ_le_zero _)
  | j + 1, c + 1, hc, hj => by
    rw [Nat.add_right_comm] at hc
    have h1 := hd (c + st) hc
    have h2 := hd c (Nat.lt_of_le_of_lt (Nat.le_add_right c st) hc)
    rw [Nat.add_right_comm, num, num, Int.natCast_add, Int.natCast_add, Int.natCast_mul, Int.natCast_mul, Int.pow_succ, show ((64 : Nat) : Int) = 64 from rfl,
      mod_step (Int.natCast_nonneg _) (by exact_mod_cast h1) (Int.natCast_nonneg _) (by exact_mod_cast h2), num_mod hd j c (Nat.le_of_lt hc) (Nat.le_of_succ_le_succ hj)]
    clear h1 h2
    constructor
    · rintro ⟨e, h⟩ p hp1 hp2
      rcases Nat.lt_succ_iff_lt_or_eq.mp hp2 with q | q
      · exact h p (Nat.le_of_succ_le_succ hp1) q
      · subst q; exact Int.ofNat.inj e
    · intro h
      exact ⟨congrArg Int.ofNat (h c (by rw [← Nat.add_assoc]; exact Nat.succ_le_succ (Nat.le_add_right _ _)) (Nat.lt_succ_self _)), fun p hp1 hp2 => h p (Nat.succ_le_succ hp1) (Nat.lt_succ_of_lt hp2)⟩
section
variable {h : Nat → Int} {d W : Nat → Nat} {n : Nat} (hd : ∀ r, r < n → d r < 64) (hh : ∀ j, j ≤ n → h j = ((num d j : Nat) : Int)) (hdW : ∀ i j, i < n → j < n → (d i < d j ↔ W i < W j))
include hd hh hdW
theorem dW_eq {i j : Nat} (hi : i < n) (hj : j < n) : d i = d j ↔ W i = W j := by
  have a := hdW i j hi hj
  have b := hdW j i hj hi
  clear hdW hi hj hd hh
  omega
theorem mod_iff {st c : Nat} (hn : c + st ≤ n) : ∀ j, j ≤ c → ((h (c + st) - h c) % (64 : Int) ^ j = 0 ↔ ∀ p, c ≤ p + j → p < c → W (p + st) = W p) := fun j hj => by
  have hc : c ≤ n := Nat.le_trans (Nat.le_add_right _ _) hn
  rw [hh _ hn, hh _ hc, num_mod hd j c hn hj]
  have key : ∀ p, p < c → (d (p + st) = d p ↔ W (p + st) = W p) := fun p hp => dW_eq hd hh hdW (Nat.lt_of_lt_of_le (Nat.add_lt_add_right hp _) hn) (Nat.lt_of_lt_of_le hp hc)
  exact ⟨fun q p h1 h2 => (key p h2).mp (q p h1 h2), fun q p h1 h2 => (key p h2).mpr (q p h1 h2)⟩
theorem like_iff {st c like : Nat} (hn : c + st ≤ n) : LikeE h st (c + st) like ↔ like ≤ c ∧ (∀ p, c ≤ p + like → p < c → W (p + st) = W p) ∧ (∀ p, p + like + 1 = c → W (p + st) ≠ W p) := by
  have key := mod_iff hd hh hdW hn
  unfold LikeE
  rw [Nat.add_sub_cancel]
  clear hd hh hdW
  constructor
  · rintro ⟨a, b, c3⟩
    have b' : ∀ p, c ≤ p + like → p < c → W (p + st) = W p := by
      cases like with
      | zero => exact fun p h1 h2 => absurd h1 (Nat.not_le.mpr h2)
      | succ l => exact (key (l + 1) a).mp (b l (Nat.lt_succ_self l))
    refine ⟨a, b', fun p hp x => ?_⟩
    have hlt : like + 1 ≤ c := by rw [← hp, Nat.add_assoc]; exact Nat.le_add_left _ _
    rcases c3 with c3 | c3
    · rw [c3] at hlt; exact Nat.not_succ_le_self _ hlt
    · refine c3 ((key (like + 1) hlt).mpr fun q hq1 hq2 => ?_)
      by_cases e : q = p
      · rw [e]; exact x
      · refine b' q ?_ hq2
        clear key b b' c3 x
        omega
  · rintro ⟨a, b, c3⟩
    refine ⟨a, fun j hj => (key (j + 1) (Nat.le_trans hj a)).mpr fun p h1 h2 => b p (Nat.le_trans h1 (Nat.add_le_add_left hj _)) h2, ?_⟩
    by_cases q : like = c
    · exact .inl q
    · refine .inr fun x => ?_
      have hlt : like + 1 ≤ c := Nat.lt_of_le_of_ne a q
      obtain ⟨p, hp⟩ := Nat.le.dest hlt
      have hp' : p + like + 1 = c := by rw [Nat.add_assoc, Nat.add_comm]; exact hp
      exact c3 p hp' ((key (like + 1) hlt).mp x p (by rw [← hp', Nat.add_assoc]; exact Nat.le_refl _) (by rw [← hp']; exact Nat.lt_succ_of_le (Nat.le_add_right _ _)))
theorem on_iff {st c : Nat} : OnE h n st (c + st) ↔ c + st < n ∧ W (c + st) = W c := by
  unfold OnE
  have e : c + st + 1 - st = c + 1 := by rw [Nat.add_right_comm, Nat.add_sub_cancel]
  rw [e]
  have key : c + st < n → ((h (c + st + 1) - h (c + 1)) % 64 = 0 ↔ W (c + st) = W c) := fun hn => by
    have := mod_iff hd hh hdW (c := c + 1) (st := st) (by rw [Nat.add_right_comm]; exact hn) 1 (Nat.le_add_left _ _)
    rw [Nat.add_right_comm, show (64 : Int) ^ 1 = 64 from rfl] at this
    rw [this]
    exact ⟨fun q => q c (Nat.le_refl _) (Nat.lt_succ_self _), fun q p h1 h2 => by rw [Nat.le_antisymm (Nat.le_of_lt_succ h2) (Nat.le_of_succ_le_succ h1)]; exact q⟩
  exact ⟨fun ⟨a, b⟩ => ⟨a, (key a).mp b⟩, fun ⟨a, b⟩ => ⟨a, (key a).mpr b⟩⟩
theorem rep_iff {f e st : Nat} : Rep h n (f, e, st) ↔ Run W n f e st := by
  unfold Rep
  dsimp only
  constructor
  · rintro ⟨a, b, hn, like, l, l2, l3, on⟩
    obtain ⟨c, rfl⟩ : ∃ c, e = c + st := ⟨e - st, by clear l l2 l3 on hn hd hh hdW; omega⟩
    rw [like_iff hd hh hdW hn] at l
    rw [on_iff hd hh hdW] at on
    clear hd hh hdW
    obtain ⟨x1, x2, x3⟩ := l
    rw [Nat.add_sub_cancel] at l3
    obtain ⟨f', rfl⟩ : ∃ f', c = f' + like := ⟨c - like, (Nat.sub_add_cancel x1).symm⟩
    rw [Nat.add_sub_cancel] at l3
    subst l3
    refine ⟨a, ?_, hn, fun j hj hje => ?_, fun q hq y => ?_, fun c hc hen y => ?_⟩
    · rw [Nat.two_mul, ← Nat.add_assoc]; exact Nat.add_le_add_right (Nat.add_le_add_left l2 _) _
    · exact (x2 j (Nat.add_le_add_right hj _) (Nat.lt_of_add_lt_add_right hje)).symm
    · exact x3 q (by rw [← hq, Nat.add_right_comm]) y.symm
    · rw [Nat.add_right_cancel hc] at y
      exact on ⟨hen, y⟩
  · intro r
    have r1 := r.one
    have r2 := r.two
    have r3 := r.le
    obtain ⟨z, hz⟩ := Nat.le.dest r2
    obtain ⟨c, rfl⟩ : ∃ c, e = c + st := ⟨f + (st + z), by rw [← hz]; clear hd hh hdW; omega⟩
    have hc : c = f + (st + z) := by clear hd hh hdW r r1 r2 r3; omega
    refine ⟨r1, Nat.le_trans (Nat.le_add_left _ _) r2, r3, st + z, ?_, Nat.le_add_right _ _, ?_, ?_⟩
    · rw [like_iff hd hh hdW r3]
      clear hd hh hdW
      subst hc
      refine ⟨Nat.le_add_left _ _, fun p h1 h2 => ?_, fun p hp y => ?_⟩
      · exact (r.per p (Nat.le_of_add_le_add_right h1) (Nat.add_lt_add_right h2 _)).symm
      · exact r.left p (by rw [Nat.add_right_comm] at hp; exact Nat.add_right_cancel hp) y.symm
    · rw [Nat.add_sub_cancel, hc, Nat.add_sub_cancel]
    · rw [on_iff hd hh hdW]
      rintro ⟨x, y⟩
      exact r.right c rfl x y
theorem repMin_iff {f e st : Nat} : RepMin h n (f, e, st) ↔ RunMin W n f e st := by
  unfold RepMin RunMin
  dsimp only
  rw [rep_iff hd hh hdW]
  exact ⟨fun ⟨a, b⟩ => ⟨a, fun s hs r => b s hs ((rep_iff hd hh hdW).mpr r)⟩, fun ⟨a, b⟩ => ⟨a, fun s hs r => b s hs ((rep_iff hd hh hdW).mp r)⟩⟩
end
theorem extE_iff {k : Nat → Int} {n p s e : Nat} : ExtE k n (p + s) s e ↔ p + s ≤ e ∧ e ≤ n ∧ (∀ j, p ≤ j → j + s < e → k j = k (j + s)) ∧ (∀ c, c + s = e → e < n → k e ≠ k c) := by
  unfold ExtE
  constructor
  · rintro ⟨a, b, c, d⟩
    refine ⟨a, b, fun j h1 h2 => ?_, fun c' hc hen => ?_⟩
    · have := c (j + s) (Nat.add_le_add_right h1 _) h2
      rw [Nat.add_sub_cancel] at this
      exact this.symm
    · subst hc
      have := d.resolve_left (Nat.ne_of_lt hen)
      rw [Nat.add_sub_cancel] at this
      exact this
  · rintro ⟨a, b, c, d⟩
    obtain ⟨x, hx⟩ := Nat.le.dest a
    have hx' : p + x + s = e := by rw [← hx, Nat.add_right_comm]
    refine ⟨a, b, fun j h1 h2 => ?_, ?_⟩
    · obtain ⟨y, rfl⟩ := Nat.le.dest h1
      rw [Nat.add_right_comm, Nat.add_sub_cancel]
      exact (c (p + y) (Nat.le_add_right _ _) (by rw [Nat.add_right_comm]; exact h2)).symm
    · by_cases q : e = n
      · exact .inl q
      · have := d _ hx' (Nat.lt_of_le_of_ne b q)
        refine .inr ?_
        rw [← hx', Nat.add_sub_cancel, hx']
        exact this
theorem extF_iff {k : Nat → Int} {p s f : Nat} : ExtF k p s f ↔ f ≤ p ∧ (∀ j, f ≤ j → j < p → k j = k (j + s)) ∧ (∀ q, q + 1 = f → k q ≠ k (q + s)) := by
  unfold ExtF
  constructor
  · rintro ⟨a, b, c⟩
    refine ⟨a, b, fun q hq => ?_⟩
    subst hq
    exact c.resolve_left (Nat.succ_ne_zero q)
  · rintro ⟨a, b, c⟩
    refine ⟨a, b, ?_⟩
    cases f with
    | zero => exact .inl rfl
    | succ q => exact .inr (c q rfl)
section
variable {k : Nat → Int} {W : Nat → Nat} {n : Nat} {gt : Nat → Nat → Prop} {lt : Nat → Nat → Prop} (hk : ∀ j, j < n → k j = (W j : Int)) (hg : ∀ p j, p < j → j < n → (gt p j ↔ SufGt lt W n p j))
include hk hg
theorem led_iff {p f e st : Nat} (hp : p < n) : LedAt k gt n p (f, e, st) ↔ LedW lt W n p f e st := by
  have kW : ∀ i j, i < n → j < n → (k i = k j ↔ W i = W j) := fun i j hi hj => by
    rw [hk i hi, hk j hj]; exact Int.ofNat_inj
  clear hk
  constructor
  · rintro ⟨⟨e0, ⟨a1, a2, a3, a4⟩, hst, hE, hF⟩, l⟩
    dsimp only at *
    obtain ⟨s, rfl⟩ := Nat.le.dest (Nat.le_of_lt a1)
    rw [Nat.add_sub_cancel_left] at hst
    subst hst
    rw [extE_iff] at hE
    rw [extF_iff] at hF
    obtain ⟨b1, b2, b3, b4⟩ := hE
    obtain ⟨c1, c2, c3⟩ := hF
    have hs : 0 < st := Nat.pos_of_ne_zero fun q => by subst q; exact Nat.lt_irrefl _ a1
    have hfe : f ≤ e := Nat.le_trans c1 (Nat.le_trans (Nat.le_add_right _ _) b1)
    refine ⟨a2, fun j h1 h2 => (hg p j h1 (Nat.lt_of_lt_of_le h2 a2)).mp (a3 j h1 h2), ?_, b1, c1, hs, ?_, b2, fun j h1 h2 => ?_, fun q hq y => ?_, fun c hc hen y => ?_⟩
    · rcases Nat.lt_or_eq_of_le a2 with q | q
      · rcases a4 with x | x
        · exact .inl x
        · exact .inr fun y => x ((hg p _ a1 q).mpr y)
      · exact .inl q
    · rw [Nat.add_comm]; exact Nat.add_le_of_le_sub hfe l
    · have hjn : j + st < n := Nat.lt_of_lt_of_le h2 b2
      refine (kW _ _ (Nat.lt_of_le_of_lt (Nat.le_add_right _ _) hjn) hjn).mp ?_
      by_cases q : j < p
      · exact c2 j h1 q
      · exact b3 j (Nat.le_of_not_lt q) h2
    · have hqn : q + st < n := Nat.lt_of_lt_of_le (Nat.add_lt_add_right (Nat.lt_of_lt_of_le (Nat.lt_of_lt_of_eq (Nat.lt_succ_self q) hq) c1) st) a2
      exact c3 q hq ((kW _ _ (Nat.lt_of_le_of_lt (Nat.le_add_right _ _) hqn) hqn).mpr y)
    · exact b4 c hc hen ((kW _ _ hen (Nat.lt_of_le_of_lt (by rw [← hc]; exact Nat.le_add_right _ _) hen)).mpr y)
  · intro L
    have r := L.run
    have h1 := L.hn
    have h5 := L.f1
    have hs := r.one
    have hlt : p < p + st := Nat.lt_add_of_pos_right hs
    refine ⟨⟨p + st, ⟨hlt, h1, fun j x y => (hg p j x (Nat.lt_of_lt_of_le y h1)).mpr (L.gt j x y), ?_⟩, (Nat.add_sub_cancel_left p st).symm, extE_iff.mpr ⟨L.e1, r.le, fun j x y => ?_, fun c hc hen y => ?_⟩, extF_iff.mpr ⟨h5, fun j x y => ?_, fun q hq y => ?_⟩⟩, ?_⟩
    · rcases Nat.lt_or_eq_of_le h1 with q | q
      · rcases L.stop with x | x
        · exact .inl x
        · exact .inr fun y => x ((hg p _ hlt q).mp y)
      · exact .inl q
    · have hjn : j + st < n := Nat.lt_of_lt_of_le y r.le
      exact (kW _ _ (Nat.lt_of_le_of_lt (Nat.le_add_right _ _) hjn) hjn).mpr (r.per j (Nat.le_trans h5 x) y)
    · exact r.right c hc hen ((kW _ _ hen (Nat.lt_of_le_of_lt (by rw [← hc]; exact Nat.le_add_right _ _) hen)).mp y)
    · have hjn : j + st < n := Nat.lt_of_lt_of_le (Nat.add_lt_add_right y st) h1
      exact (kW _ _ (Nat.lt_of_le_of_lt (Nat.le_add_right _ _) hjn) hjn).mpr (r.per j x (Nat.lt_of_lt_of_le (Nat.add_lt_add_right y st) L.e1))
    · have hqn : q + st < n := Nat.lt_of_lt_of_le (Nat.add_lt_add_right (Nat.lt_of_lt_of_le (Nat.lt_of_lt_of_eq (Nat.lt_succ_self q) hq) h5) st) h1
      exact r.left q hq ((kW _ _ (Nat.lt_of_le_of_lt (Nat.le_add_right _ _) hqn) hqn).mp y)
    · exact Nat.le_sub_of_add_le (by rw [Nat.add_comm]; exact r.two)
end
/-- what leads is what repeats, and ends as it must -/
theorem plain {h k : Nat → Int} {d W : Nat → Nat} {n : Nat} {gt lt : Nat → Nat → Prop} (hd : ∀ r, r < n → d r < 64) (hh : ∀ j, j ≤ n → h j = ((num d j : Nat) : Int)) (hdW : ∀ i j, i < n → j < n → (d i < d j ↔ W i < W j))
    (hk : ∀ j, j < n → k j = (W j : Int)) (hg : ∀ p j, p < j → j < n → (gt p j ↔ SufGt lt W n p j)) (irr : ∀ a, ¬ lt a a) (tr : ∀ a b c, lt a b → lt b c → lt a c) (tot : ∀ a b, a ≠ b → lt a b ∨ lt b a) (t : T3) :
    (∃ p, p < n ∧ LedAt k gt n p t) ↔ RepMin h n t ∧ (t.2.1 = n ∨ lt (W t.2.1) (W (t.2.1 - t.2.2))) := by
  obtain ⟨f, e, st⟩ := t
  rw [repMin_iff hd hh hdW]
  dsimp only
  constructor
  · rintro ⟨p, hp, q⟩
    rw [led_iff hk hg hp] at q
    refine ⟨⟨q.run, q.min irr tr tot⟩, (q.letter irr tot).imp id fun z => z _ (Nat.sub_add_cancel ?_)⟩
    exact Nat.le_trans (Nat.le_add_left _ _) q.e1
  · rintro ⟨⟨r, m⟩, l⟩
    obtain ⟨p, hp, q⟩ := r.led irr tr tot m (l.imp id fun z c hc => by rw [← hc, Nat.add_sub_cancel] at z; rw [← hc]; exact z)
    exact ⟨p, hp, (led_iff hk hg hp).mpr q⟩
end
/-! text LawA, E5, E6, E7, E8: rules -/
def oLs (vs : List Value) : Obj → Prop := fun o => o.cls = .type "list" ∧ ∃ n, o.data = .seq vs.toArray n
theorem HasAt.ls {h : Heap} {a : Addr} {vs : List Value} (x : HasAt h a (oLs vs)) : h.IsList a vs.toArray := let ⟨o, e, c, n, d⟩ := x; ⟨o, e, c, n, d⟩
theorem HasAt.weak {h : Heap} {a : Addr} {P R : Obj → Prop} (x : HasAt h a P) (f : ∀ o, P o → R o) : HasAt h a R := let ⟨o, e, p⟩ := x; ⟨o, e, f o p⟩
theorem Ok.weak {g : Heap} {ms : List Ent} {s₀ s : Shared} {a : Addr} {P R : Obj → Prop} (H : Ok g (ms ++ [(a, P)]) s₀ s) (f : ∀ o, P o → R o) : Ok g (ms ++ [(a, R)]) s₀ s :=
  ⟨H.keep, fun p hp => by
    rcases List.mem_append.mp hp with hp | hp
    · exact H.at_ p (List.mem_append_left _ hp)
    · rw [List.mem_singleton] at hp
      subst hp
      exact (H.at_ (a, P) (by simp)).weak f, by have := H.nd; rw [List.map_append] at this ⊢; exact this, fun p hp => by
    rcases List.mem_append.mp hp with hp | hp
    · exact H.new p (List.mem_append_left _ hp)
    · rw [List.mem_singleton] at hp
      subst hp
      exact H.new (a, P) (by simp), H.gens, H.os, H.tm⟩
theorem IntL.set {vs : List Value} {n : Nat} {k : Nat → Int} (h : IntL vs n k) (i : Nat) (x : Int) (t : Tok) : IntL (vs.set i (.int x t)) n (fun j => if j = i then x else k j) := by
  refine ⟨by rw [List.length_set]; exact h.1, fun j hj => ?_⟩
  rw [List.getElem?_set]
  by_cases q : i = j
  · subst q
    rw [if_pos rfl, if_pos (by rw [h.1]; exact hj)]
    exact ⟨t, by dsimp only; rw [if_pos rfl]⟩
  · rw [if_neg q]
    dsimp only
    rw [if_neg (Ne.symm q)]
    exact h.2 j hj
theorem n_listI {w : World} {A : Around} {E : Value → Shared → Prop} {g : Heap} {ms : List Ent} {s₀ s : Shared} {vs : List Value} {Q : Value → Shared → Prop} (H : Ok g ms s₀ s) (hv : ∀ v ∈ vs, ∃ i t, v = .int i t) (hz : vs.length ≤ 1000000) (k : ∀ a k0 s', IntL vs vs.length k0 → Ok g (ms ++ [(a, oList vs)]) s₀ s' → Q (.ref a) s') : wpAny (model PW w) A (newList vs) Q E s := by
  obtain ⟨k0, h0⟩ := intL_ex hv
  exact n_listE H hz fun a s' H' => k a k0 s' h0 H'
theorem IntL.snoc {ys : List Value} {i : Nat} {k : Nat → Int} (h : IntL ys i k) (t : Tok) : IntL (ys ++ [.int (k i) t]) (i + 1) k := by
  refine ⟨by simp [h.1], fun j hj => ?_⟩
  by_cases q : j < i
  · rw [List.getElem?_append_left (by rw [h.1]; exact q)]
    exact h.2 j q
  · obtain rfl : j = i := by omega
    exact ⟨t, by rw [List.getElem?_append_right (by rw [h.1]; exact Nat.le_refl _), h.1]; simp⟩
theorem StrL.snoc {ys : List Value} {i : Nat} {k : Nat → PySem.Str} (h : StrL ys i k) (t : Tok) : StrL (ys ++ [.str (k i) t]) (i + 1) k := by
  refine ⟨by simp [h.1], fun j hj => ?_⟩
  by_cases q : j < i
  · rw [List.getElem?_append_left (by rw [h.1]; exact q)]
    exact h.2 j q
  · obtain rfl : j = i := by omega
    exact ⟨t, by rw [List.getElem?_append_right (by rw [h.1]; exact Nat.le_refl _), h.1]; simp⟩
theorem IntL.nil {k : Nat → Int} : IntL [] 0 k := ⟨rfl, fun _ h => absurd h (Nat.not_lt_zero _)⟩
theorem StrL.nil {k : Nat → PySem.Str} : StrL [] 0 k := ⟨rfl, fun _ h => absurd h (Nat.not_lt_zero _)⟩
theorem Ok.settle1 {g : Heap} {ms : List Ent} {s₀ s : Shared} {p : Ent} (H : Ok g (p :: ms) s₀ s) : ∃ g', Sub g g' ∧ HasAt g' p.1 p.2 ∧ Ok g' ms s₀ s := by
  have H₂ := H.drop1
  exact ⟨_, H₂.gsub, gnd_has (H.at_ _ (.head _)) (by have := H.nd; rw [List.map_cons] at this; exact (List.nodup_cons.mp this).1), H₂.freeze⟩
theorem itk_listX (it l : Addr) (vs : List Value) : ItK it vs.length (fun i => oLit l i) (fun i v => vs[i]? = some v) (fun g ms => Rd g ms l (oLs vs)) where
  up _ _ _ h := h.up
  next {w A E g ms s₀ s Q} i j hi H hr hj k := by
    have hit := (H.at_ _ (List.mem_of_getElem? hj)).lit
    exact wpAny_pyNext_list_item hit (H.rd hr).ls (x := vs[i]) (by simp [hi]) fun h₁ hit₁ hs₁ => k _ _ (by simp [hi]) (H.upd (t := s.toks) j hj hs₁ (HasAt.ofLit hit₁))
  fin {w A E g ms s₀ s Q} j hh H hr hj k := by
    have hit := (H.at_ _ (List.mem_of_getElem? hj)).lit
    exact wpAny_pyNext_list_end hh hit (H.rd hr).ls (by simp) fun h₁ he₁ => k _ (H.eraseX (t := s.toks) j hj he₁)
  self {w A E g ms s₀ s Q} i j H hj h := wpAny_pyIter_listiter (H.at_ _ (List.mem_of_getElem? hj)).lit h
section
variable {w : World} {A : Around} {E : Value → Shared → Prop} {g : Heap} {ms : List Ent} {s₀ s : Shared} {env : Env} {L : Addr} {m : Str → Option Value}
theorem p_listX {l : Addr} {vs : List Value} {Q : Value → Shared → Prop} (H : Ok g ms s₀ s) (hr : Rd g ms l (oLs vs)) (k : ∀ it s', Ok g ((it, oLit l 0) :: ms) s₀ s' → Q (.ref it) s') : wpAny (model PW w) A (pyIter (.ref l)) Q E s :=
  wpAny_pyIter_list (H.rd hr).ls (k _ _ (H.push (P := oLit l 0) (t := s.toks) ⟨rfl, rfl⟩ rfl))
/-- as a value, and nobody changes it any more -/
theorem compPost_valF {ys : List Value} {C acc : Addr} {mC : Str → Option Value} {Q : Value → Shared → Prop} (H : Ok g ((C, oNs mC) :: (acc, oList ys) :: ms) s₀ s) (k : ∀ g' s', Sub g g' → HasAt g' acc (oList ys) → Ok g' ms s₀ s' → Q (.ref acc) s') :
    compPost (model PW w) A E none Q (.ref acc) C (.ok .next) s := compPost_val H fun s' H' => by
  obtain ⟨g', a, b, c⟩ := H'.settle1
  exact k g' s' a b c
/-- a comprehension stored to a local name -/
theorem x_compU {elt iter : Expr} {x y : Str} {px py pos spos : Pos} {scope : Scope} {cl : List (Str × Addr)} {Q : Flow → Shared → Prop}
    (hsw : swapsWith (.ListComp elt [⟨.Name x px, iter, [], 0⟩] scope pos) (some (.Name y py)) spos.line env = pure true)
    (hs : ∀ x, foldedSetIterable iter env x = pure x) (hclos : closureFor scope env = pure cl) (hkind : scope.kind = .function) (hnames : ∀ x ∈ scope.names, x.2 = .local → scope.names.lookup x.1 = some .local)
    (h : wpAny (model PW w) A (eval iter env) (fun xv s₁ => wpAny (model PW w) A (pyIter xv) (fun it s₂ =>
      wpAny (model PW w) A (newList []) (fun acc s₃ => wpAny (model PW w) A (newFunctionEnv scope env.globals cl [] env.qual none .none (some env)) (fun cenv s₄ =>
      codeAny (model PW w) A (.compStart (.ListComp elt [⟨.Name x px, iter, [], 0⟩] scope pos) 0 it acc { cenv with scope := relabel scope env }) (compPost (model PW w) A E (some (assign (.Name y py) env)) (fun _ s' => Q .next s') acc cenv.locals) s₄) E s₃) E s₂) E s₁) E s) :
    wpAny (model PW w) A (exec (.Assign [.Name y py] (.ListComp elt [⟨.Name x px, iter, [], 0⟩] scope pos) spos) env) Q E s := by
  rw [exec_Assign_Name_used _ _ _ _ hsw]
  refine wpAny_bind (wpAny_standAt (wpAny_bind ?_))
  show wpAny _ A (do let _ ← comprehension (.ListComp elt [⟨.Name x px, iter, [], 0⟩] scope pos) scope env _ (newList []) false (eval iter env) (some (assign (.Name y py) env))) _ _ s
  exact wpAny_bind (wpAny_mono (wpAny_comprehension_free (use := some (assign (.Name y py) env)) (Q := fun _ s' => Q .next s') rfl hs hclos hkind hnames h) (fun _ s' hq => wpAny_pure (wpAny_pure hq)) fun _ _ e => e)
theorem compPost_locF {ys : List Value} {C acc : Addr} {mC : Str → Option Value} {y : Str} {py : Pos} {Q : Shared → Prop} (H : Ok g ((C, oNs mC) :: (acc, oList ys) :: (L, oNs m) :: ms) s₀ s) (hk : env.scope.kind = .function) (hy : env.kindOf y = some .local) (hL : env.locals = L)
    (k : ∀ g' s', Sub g g' → HasAt g' acc (oList ys) → Ok g' ((L, oNs (upd m y (.ref acc))) :: ms) s₀ s' → Q s') :
    compPost (model PW w) A E (some (assign (.Name y py) env)) (fun _ s' => Q s') (.ref acc) C (.ok .next) s := by
  show wpAny _ A (assign (.Name y py) env (.ref acc)) _ _ _
  have H1 : Ok g ((L, oNs m) :: (C, oNs mC) :: (acc, oList ys) :: ms) s₀ s := H.perm (by
    refine (List.Perm.trans ?_ (List.Perm.swap _ _ _))
    exact List.Perm.cons _ (List.Perm.swap _ _ _))
  refine wpAny_assign_Name (s_loc H1 hk hy hL fun s2 H2 => ⟨mC, (H2.at_ (C, oNs mC) (.tail _ (.head _))).ns, fun h' hs => ?_⟩)
  have H3 := (H2.eraseX (t := s2.toks) 1 rfl hs.extBut)
  have H4 : Ok g ((acc, oList ys) :: (L, oNs (upd m y (.ref acc))) :: ms) s₀ { s2 with heap := h' } := Ok.swap H3
  obtain ⟨g', a, b, c⟩ := H4.settle1
  exact k g' _ a b c
theorem x_tupA {elts : List Expr} {kd : Nat} {tpos pos : Pos} {value : Expr} {Q : Flow → Shared → Prop} (hs : swapsWithSole [.Tuple elts kd tpos] value pos.line env = pure false) (hw : swappedStores [.Tuple elts kd tpos] value env = pure none)
    (h : wpAny (model PW w) A (eval value env) (fun v s₁ => wpAny (model PW w) A (assign (.Tuple elts kd tpos) env v) (fun _ => Q .next) E s₁) E s) : wpAny (model PW w) A (exec (.Assign [.Tuple elts kd tpos] value pos) env) Q E s := Assign_Tuple h hs hw
theorem as_twoC {x y : Str} {p1 p2 p : Pos} {kd : Nat} {t : Addr} {a b : Value} {Q : Unit → Shared → Prop} (hh : A.handled = none) (H : Ok g ms s₀ s) (ht : HasAt s.heap t (oTup [a, b]))
    (h : ∀ s', Ok g ms s₀ s' → wpAny (model PW w) A (storeName env x a) (fun _ s2 => wpAny (model PW w) A (storeName env y b) Q E s2) E s') : wpAny (model PW w) A (assign (.Tuple [.Name x p1, .Name y p2] kd p) env (.ref t)) Q E s := by
  have htu := ht.tup
  refine wpAny_assign_Tuple hh htu rfl rfl fun h' hx' => ?_
  have H1 : Ok g ms s₀ { s with heap := h' } := H.ext (fun b o e => hx' b o (Nat.ne_of_lt (Heap.lt_size e)) e) rfl rfl
  show wpAny _ A (do holding [b] (assign (.Name x p1) env a); do holding [] (assign (.Name y p2) env b); pure ()) _ _ _
  refine wpAny_bind (wpAny_holding (wpAny_assign_Name (wpAny_mono (h _ H1) (fun _ s2 q => ?_) fun _ _ e => e)))
  exact wpAny_bind (wpAny_holding (wpAny_assign_Name (wpAny_mono q (fun _ s3 r => wpAny_pure r) fun _ _ e => e)))
end
section
variable {w : World} {A : Around} {E : Value → Shared → Prop} {g : Heap} {ms : List Ent} {s₀ s : Shared} {env : Env} {x : Str} {px : Pos} {L : Addr} {m : Str → Option Value}
theorem perm_back {p q : Ent} {ms : List Ent} : (p :: q :: ms).Perm (p :: (ms ++ [q])) := List.Perm.cons _ (List.perm_append_singleton q ms).symm
theorem for_rangeE {body : List Stmt} {R : Result → Shared → Prop} (hh : A.handled = none) (hk : env.scope.kind = .function) (hx : env.kindOf x = some .local) (hL : env.locals = L) (a : Int) (n : Nat) (J : Inv) (it : Addr)
    (turn : ∀ (i : Nat) g m ms s o t (c : Int), c = a + (i : Int) → i < n → J i g m ms → Ok g ((L, oNs (upd m x (.int c t))) :: (ms ++ [(it, oIs o)])) s₀ s →
      wpAny (model PW w) A (execs body env) (fun f s' => f = .next ∧ ∃ g' m' ms', J (i + 1) g' m' ms' ∧ Ok g' ((L, oNs m') :: (ms' ++ [(it, oIs o)])) s₀ s') (fun _ _ => False) s)
    (fin : ∀ g m ms s, J n g m ms → Ok g ((L, oNs m) :: ms) s₀ s → R (.ok .next) s)
    (h : J 0 g m ms) (H : Ok g ((L, oNs m) :: (it, oIs (itO a n)) :: ms) s₀ s) : codeAny (model PW w) A (.forLoop (.Name x px) (.ref it) body [] env) R s := by
  refine for_range hh hk hx hL a n J it (fun i g m ms s o t c hc hi hj H => ?_) fin h H
  refine wpAny_mono (turn i g m ms s o t c hc hi hj (H.perm perm_back)) (fun f s' q => ?_) fun _ _ e => e
  obtain ⟨e, g', m', ms', hj', H'⟩ := q
  exact ⟨e, g', m', ms', hj', H'.perm perm_back.symm⟩
theorem i_mulB {a : Int} {t : Tok} {b : Bool} {Q : Value → Shared → Prop} (H : Ok g ms s₀ s) (k : ∀ t' s', Ok g ms s₀ s' → Q (.int (a * (b.toNat : Int)) t') s') : wpAny (model PW w) A (binaryOp .Mult (.int a t) (.bool b)) Q E s := by
  refine PySem.IntBool.mul_int_bool ?_
  have := k s.toks { s with toks := s.toks + 1 } H.tk
  cases b <;> exact this
theorem p_rangeE {r : Addr} {a b : Int} {t u v : Tok} {n : Nat} {Q : Value → Shared → Prop} (H : Ok g ((L, oNs m) :: ms) s₀ s) (hr : IsRange s.heap r a b 1 t u v) (ha : -(2 ^ 62) ≤ a) (ha' : a < 2 ^ 62) (hb : -(2 ^ 62) ≤ b) (hb' : b < 2 ^ 62)
    (hn : Builtin.Range.rangeSize a b 1 = n) (k : ∀ it s', Ok g ((L, oNs m) :: (it, oIs (itO a n)) :: ms) s₀ s' → Q (.ref it) s') : wpAny (model PW w) A (pyIter (.ref r)) Q E s := p_range H hr ha ha' hb hb' hn k
end
def off : Nat → Nat
  | 0 => 0
  | i + 1 => off i + (i + 1)
theorem off_mono {i j : Nat} (h : i ≤ j) : off i ≤ off j := by
  induction h with
  | refl => exact Nat.le_refl _
  | step _ ih => exact Nat.le_trans ih (Nat.le_add_right _ _)
section
variable {w : World} {A : Around} {E : Value → Shared → Prop} {g : Heap} {ms : List Ent} {s₀ s : Shared} {env : Env} {x : Str} {px : Pos} {L : Addr} {m : Str → Option Value}
theorem Ok.toEnd {p : Ent} (H : Ok g (p :: ms) s₀ s) : Ok g (ms ++ [p]) s₀ s := H.perm (List.perm_append_singleton _ _).symm
/-- list + list: a new list that nobody changes -/
theorem l_add {a b : Addr} {vs ws : List Value} {Q : Value → Shared → Prop} (H : Ok g ms s₀ s) (ra : Rd g ms a (oList vs)) (rb : Rd g ms b (oList ws)) (hz : vs.length + ws.length ≤ 1000000)
    (k : ∀ c g' s', Sub g g' → HasAt g' c (oList (vs ++ ws)) → Ok g' ms s₀ s' → Q (.ref c) s') : wpAny (model PW w) A (binaryOp .Add (.ref a) (.ref b)) Q E s := by
  obtain ⟨n, e1⟩ := (H.rd ra).plist
  obtain ⟨n2, e2⟩ := (H.rd rb).plist
  refine PySem.P.add_list e1 e2 ?_ (by rw [sizeLine_eq]; simp; omega)
  have e : vs.toArray ++ ws.toArray = (vs ++ ws).toArray := by simp
  rw [e]
  have H1 := H.push (o := { cls := .type "list", data := .seq (vs ++ ws).toArray }) (P := oList (vs ++ ws)) (t := s.toks) ⟨0, rfl⟩ rfl
  obtain ⟨g', h1, h2, h3⟩ := H1.settle1
  exact k _ g' _ h1 h2 h3
theorem ne_tups {a b : Addr} {vs ws : List Value} {T U : List T3} {Q : Value → Shared → Prop} (H : Ok g ms s₀ s) (ra : HasAt s.heap a (oList vs)) (hT : TupsAt s.heap vs T) (rb : HasAt s.heap b (oList ws)) (hU : TupsAt s.heap ws U) (hu : A.units < 9000) (e : T = U) (h : Q (.bool false) s) :
    wpAny (model PW w) A (compareOp .NotEq (.ref a) (.ref b)) Q E s := by
  subst e
  obtain ⟨n, e1⟩ := ra.plist
  obtain ⟨n2, e2⟩ := rb.plist
  refine PySem.SeqAt.compareNe_reads (da := .list (T.map dat3)) (db := .list (T.map dat3)) (.list e1 rfl rfl (TupsAt.reads hT)) (.list e2 rfl rfl (TupsAt.reads hU)) (lay3 T) (lay3 T) ?_ ?_
  · have := depth3 T
    show A.units + min (PyData.depthAll (T.map dat3) + 1) (PyData.depthAll (T.map dat3) + 1) < 9900
    omega
  · have : PyData.eqv (.list (T.map dat3)) (.list (T.map dat3)) = true := by
      show PyData.eqvAll (T.map dat3) (T.map dat3) = true
      clear hT hU ra rb e1 e2
      induction T with
      | nil => rfl
      | cons t T ih =>
        show (PyData.eqv (dat3 t) (dat3 t) && PyData.eqvAll (T.map dat3) (T.map dat3)) = true
        rw [ih, eqv3]; simp
    rw [this]; exact h
theorem b_split {x y : Str} {t u : Tok} {Q : Value → Shared → Prop} (H : Ok g ms s₀ s) (h1 : (decide (x.length < y.length) || decide (Builtin.Str.strKind x < Builtin.Str.strKind y)) = false) (hy : (y.length == 0) = false)
    (hf : (Builtin.Str.occurrences x y 0 x.length (x.length + 1)).isEmpty = false) (hx : x.length ≤ 1000) (hn : (Builtin.Str.partsBetween x (Builtin.Str.occurrences x y 0 x.length (x.length + 1)) y.length).length ≤ 1000)
    (k : ∀ a g' s', Sub g g' → HasAt g' a (oList (strsFrom s.toks (Builtin.Str.partsBetween x (Builtin.Str.occurrences x y 0 x.length (x.length + 1)) y.length))) → Ok g' ms s₀ s' → Q (.ref a) s') : wpAny (model PW w) A (call (.builtin "str.split") [.str x t, .str y u]) Q E s := by
  refine call_meets PySem.F.slot_str_split (typeIs_str _ _ _) PySem.F.entry_str_split (PySem.F.args_str_split_2 _ _) (meets_str_split_sep x y t u h1 hy hf (by rw [sizeLine_eq]; omega) (by rw [sizeLine_eq]; omega)) ?_
  have H1 := H.push (o := { cls := .type "list", data := .seq (strsFrom s.toks (Builtin.Str.partsBetween x (Builtin.Str.occurrences x y 0 x.length (x.length + 1)) y.length)).toArray }) (P := oList (strsFrom s.toks (Builtin.Str.partsBetween x (Builtin.Str.occurrences x y 0 x.length (x.length + 1)) y.length))) (t := s.toks + (Builtin.Str.partsBetween x (Builtin.Str.occurrences x y 0 x.length (x.length + 1)) y.length).length) ⟨0, rfl⟩ rfl (Nat.le_add_right _ _)
  obtain ⟨g', h1, h2, h3⟩ := H1.settle1
  exact k _ g' _ h1 h2 h3
/-- what another made may be called ground, if it is none of ours -/
theorem Ok.adopt (H : Ok g ms s₀ s) : Sub g (gnd s ms) ∧ Ok (gnd s ms) ms s₀ s := ⟨H.gsub, H.freeze⟩
/-- no entry is a tuple's -/
def NoTups (ms : List Ent) : Prop := ∀ p ∈ ms, ∀ o, p.2 o → ∀ vs n, ¬ (o.cls = .type "tuple" ∧ o.data = .seq vs n)
theorem noTups_cons {p : Ent} (h : ∀ o, p.2 o → ∀ vs n, ¬ (o.cls = .type "tuple" ∧ o.data = .seq vs n)) (hm : NoTups ms) : NoTups (p :: ms) := fun q hq => by
  rcases List.mem_cons.mp hq with rfl | hq
  · exact h
  · exact hm q hq
theorem NoTups.app {ms' : List Ent} (h : NoTups ms) (h' : NoTups ms') : NoTups (ms ++ ms') := fun q hq => by
  rcases List.mem_append.mp hq with hq | hq
  · exact h q hq
  · exact h' q hq
theorem noTups_nil : NoTups [] := fun q hq => nomatch hq
theorem nt_cell {v : Option Value} : ∀ o, oCell v o → ∀ vs n, ¬ (o.cls = .type "tuple" ∧ o.data = .seq vs n) := fun o h vs n q => by
  have h : o.data = _ := h
  rw [h] at q; cases q.2
theorem nt_ns {m : Str → Option Value} : ∀ o, oNs m o → ∀ vs n, ¬ (o.cls = .type "tuple" ∧ o.data = .seq vs n) := fun o ⟨es, ep, h, _⟩ vs n q => by
  rw [h] at q; cases q.2
theorem nt_list {vs' : List Value} : ∀ o, oList vs' o → ∀ vs n, ¬ (o.cls = .type "tuple" ∧ o.data = .seq vs n) := fun o ⟨_, h⟩ vs n q => by
  subst h; exact absurd (Value.type.inj q.1) (by decide)
theorem nt_lit {l : Addr} {i : Nat} : ∀ o, oLit l i o → ∀ vs n, ¬ (o.cls = .type "tuple" ∧ o.data = .seq vs n) := fun o ⟨_, h⟩ vs n q => by
  rw [h] at q; exact nomatch q.2
theorem noTups_cl {c1 c2 c3 c4 c5 c6 c7 c8 c9 c10 c11 : Option Value} : NoTups (Cl11 L c1 c2 c3 c4 c5 c6 c7 c8 c9 c10 c11) :=
  noTups_cons nt_cell <| noTups_cons nt_cell <| noTups_cons nt_cell <| noTups_cons nt_cell <| noTups_cons nt_cell <| noTups_cons nt_cell <| noTups_cons nt_cell <| noTups_cons nt_cell <| noTups_cons nt_cell <| noTups_cons nt_cell <| noTups_cons nt_cell noTups_nil
theorem Ok.tups {vs : List Value} {T : List T3} (H : Ok g ms s₀ s) (hm : NoTups ms) (hT : TupsAt s.heap vs T) : TupsAt (gnd s ms) vs T := hT.mono fun v t ⟨a, x, y, z, e, q⟩ => by
  refine ⟨a, x, y, z, e, gnd_has q fun hm' => ?_⟩
  obtain ⟨p, hp, rfl⟩ := List.mem_map.mp hm'
  obtain ⟨o, e1, p1⟩ := H.at_ p hp
  obtain ⟨o', e2, c, n, d⟩ := q
  rw [e1] at e2
  cases e2
  exact hm p hp o p1 _ _ ⟨c, d⟩
end
section
variable {w : World} {A : Around} {E : Value → Shared → Prop} {g : Heap} {ms : List Ent} {s₀ s : Shared} {env : Env} {L : Addr} {m : Str → Option Value}
theorem for_tups {body : List Stmt} {R : Result → Shared → Prop} {x y z : Str} {p1 p2 p3 p : Pos} {kd : Nat} (hh : A.handled = none) (hk : env.scope.kind = .function) (hx : env.kindOf x = some .local) (hy : env.kindOf y = some .local) (hz : env.kindOf z = some .local) (hL : env.locals = L) {it l : Addr} {vs : List Value} {T : List T3} (J : Inv)
    (hJ : ∀ i g m ms, J i g m ms → HasAt g l (oList vs) ∧ TupsAt g vs T)
    (turn : ∀ (i : Nat) g m ms s (t : T3) tx ty tz, T[i]? = some t → J i g m ms → Ok g ((L, oNs (upd (upd (upd m x (.int (t.1 : Int) tx)) y (.int (t.2.1 : Int) ty)) z (.int (t.2.2 : Int) tz))) :: (ms ++ [(it, oLit l (i + 1))])) s₀ s →
      wpAny (model PW w) A (execs body env) (fun f s' => f = .next ∧ ∃ g' m' ms', J (i + 1) g' m' ms' ∧ Ok g' ((L, oNs m') :: (ms' ++ [(it, oLit l (i + 1))])) s₀ s') (fun _ _ => False) s)
    (fin : ∀ g m ms s, J T.length g m ms → Ok g ((L, oNs m) :: ms) s₀ s → R (.ok .next) s)
    (h : J 0 g m ms) (H : Ok g ((it, oLit l 0) :: (L, oNs m) :: ms) s₀ s) : codeAny (model PW w) A (.forLoop (.Tuple [.Name x p1, .Name y p2, .Name z p3] kd p) (.ref it) body [] env) R s := by
  have hlen := (hJ _ _ _ _ h).2.length
  refine codeAny_forLoop_any (fun k s' => ∃ i g m ms, i ≤ T.length ∧ k = T.length + 1 - i ∧ J i g m ms ∧ Ok g ((it, oLit l i) :: (L, oNs m) :: ms) s₀ s') ?_ (T.length + 1) ⟨0, g, m, ms, Nat.zero_le _, rfl, h, H⟩
  rintro k s' ⟨i, g, m, ms, hi, rfl, hj, H⟩
  obtain ⟨hl0, hT⟩ := hJ _ _ _ _ hj
  have hl := (H.rd (.inr hl0)).list
  have hit := (H.at_ (it, oLit l i) (.head _)).lit
  cases hv : T[i]? with
  | none =>
    have hsz : i = T.length := Nat.le_antisymm hi (by simpa using hv)
    subst hsz
    refine wpAny_pyNext_list_end hh hit hl (by rw [← hlen]; simp) fun h₁ he₁ => wpAny_execs_nil ?_
    exact fin g m ms _ hj (H.eraseX (t := s'.toks) 0 rfl he₁)
  | some t =>
    obtain ⟨v, hv', a, x1, y1, z1, rfl, htu⟩ := hT.at' i t hv
    refine wpAny_pyNext_list_item hit hl (x := .ref a) (by simpa using hv') fun h₁ hit₁ hs₁ => ?_
    refine wpAny_letOwnedTupleGo_listiter hit₁ ?_
    have H1 := H.upd (t := s'.toks) 0 rfl hs₁ (HasAt.ofLit hit₁)
    have H2 : Ok g ((L, oNs m) :: (ms ++ [(it, oLit l (i + 1))])) s₀ { s' with heap := h₁ } := H1.toEnd
    refine as_three hh hk hx hy hz hL H2 (H2.rd (.inr htu)) fun s4 H4 => ?_
    refine wpAny_mono (turn i g m ms s4 t x1 y1 z1 hv hj H4) (fun f s5 q => ?_) fun _ _ q => q.elim
    obtain ⟨rfl, g', m', ms', hj', H5⟩ := q
    have hlt : i < T.length := (List.getElem?_eq_some_iff.mp hv).1
    exact ⟨T.length + 1 - (i + 1), by omega, i + 1, g', m', ms', hlt, rfl, hj', H5.perm (List.perm_append_singleton (it, oLit l (i + 1)) ((L, oNs m') :: ms'))⟩
end
def gapOf (h : Nat → Int) (t : T3) : Int := if t.2.1 = 10 then 0 else h (t.2.1 + 1) % 64 - h (t.2.1 + 1 - t.2.2) % 64
local macro_rules | `(tactic| walk_at "mem") => `(tactic| first
  | with_reducible exact List.mem_cons_self
  | with_reducible exact mem_word
  | with_reducible exact mem_total
  | with_reducible exact mem_lead
  | with_reducible exact mem_low
  | with_reducible exact mem_high
  | with_reducible exact mem_ends
  | with_reducible exact mem_dress
  | with_reducible exact mem_hand
  | with_reducible exact mem_signs
  | with_reducible exact mem_octets
  | with_reducible exact mem_names
  | ((with_reducible refine mem_rest ?_); walk_at "mem")
  | ((with_reducible refine List.mem_cons_of_mem _ ?_); walk_at "mem"))
local macro_rules | `(tactic| walk_at "gl") => `(tactic| first
  | exact gl_len
  | exact gl_range
  | exact gl_sorted
  | exact gl_next
  | exact gl_iter
  | exact gl_enumerate
  | exact gl_quotedata
  | exact gl_parse
  | exact gl_written
  | exact gl_led
  | exact gl_repeats
  | exact gl_re1
  | exact gl_re2
  | exact gl_crlf
  | exact gl_e0
  | exact gl_e1
  | exact gl_e2
  | exact gl_e3
  | exact gl_e4)
local macro_rules | `(tactic| walk_at "lit") => `(tactic| first
  | ((conv in (occs := *) (lawStmt _ _) => whnf); unfold lawEnv; (conv in (occs := *) (lawScope _) => whnf); (conv in (occs := *) (lawCd _) => whnf)))
local macro_rules | `(tactic| walk_at "ev") => `(tactic| first
  | ((with_reducible refine g_name ?_); walk_at "name")
  | with_reducible refine e_bin ?_
  | ((with_reducible rename Ok _ _ _ _ => hO); ((with_reducible refine' e_int hO ?_)); intro _ _ _; clear hO)
  | with_reducible refine e_sub ?_
  | ((with_reducible refine' e_cmp ?hm ?_); (case hm => with_unfolding_all rfl))
  | with_reducible refine e_call ?_
  | with_reducible refine e_tup ?_
  | with_reducible refine e_list ?_
  | with_reducible refine e_if ?_
  | ((with_reducible refine' e_meth ?he ?_); (case he => rfl))
  | ((with_reducible rename Ok _ _ _ _ => hO); ((with_reducible refine' e_str hO ?_)); intro _ _ _; clear hO)
  | with_reducible refine e_bool ?_
  | with_reducible refine e_and2 ?_
  | with_reducible refine e_slice ?_)
local macro_rules | `(tactic| walk_at "ex") => `(tactic| first
  | ((with_reducible refine' x_tupA ?hs ?hw ?_); (case hs => rfl); (case hw => rfl))
  | ((with_reducible refine' x_two ?hs ?hw ?_); (case hs => rfl); (case hw => rfl))
  | ((with_reducible refine' x_expr ?hi ?hs ?_); (case hi => rfl); (case hs => rfl))
  | ((with_reducible refine' x_assign ?hs ?_); (case hs => rfl))
  | with_reducible refine x_aug ?_
  | with_reducible refine x_if ?_
  | with_reducible refine x_ret ?_
  | ((with_reducible refine' x_for ?hs ?_); (case hs => intro _; with_unfolding_all rfl)))
local macro_rules | `(tactic| walk_at "tr") => `(tactic| first
  | ((with_reducible refine' t_cmp ?hm ?_); (case hm => with_unfolding_all rfl))
  | with_reducible refine t_and ?_
  | with_reducible refine t_and0 ?_
  | with_reducible refine t_or ?_
  | with_reducible refine t_or0 ?_
  | with_reducible refine t_not ?_
  | with_reducible refine t_name ?_
  | with_reducible refine t_bin ?_)
local macro_rules | `(tactic| walk_at "bi") => `(tactic| first
  | ((with_reducible rename Ok _ _ _ _ => hO); ((with_reducible refine' i_mulB hO ?_)); intro _ _ _; clear hO)
  | ((with_reducible rename Ok _ _ _ _ => hO); ((with_reducible refine' i_and hO ?_)); intro _ _ _; clear hO)
  | ((with_reducible rename Ok _ _ _ _ => hO); ((with_reducible refine' i_mod hO ?h0 ?_)); (case h0 => first | decide | omega); intro _ _ _; clear hO)
  | ((with_reducible rename Ok _ _ _ _ => hO); ((with_reducible refine' i_pow hO ?ha ?ha' ?h0 ?hb ?_)); (case ha => first | decide | omega); (case ha' => first | decide | omega); (case h0 => first | decide | omega); (case hb => first | decide | omega); intro _ _ _; clear hO)
  | ((with_reducible rename Ok _ _ _ _ => hO); ((with_reducible refine' i_divS hO ?h0 ?hb ?_)); (case h0 => first | decide | omega); (case hb => first | decide | omega); intro _ _ _; clear hO)
  | ((with_reducible rename Ok _ _ _ _ => hO); ((with_reducible refine' i_add hO ?_)); intro _ _ _; clear hO)
  | ((with_reducible rename Ok _ _ _ _ => hO); ((with_reducible refine' i_sub hO ?_)); intro _ _ _; clear hO)
  | ((with_reducible rename Ok _ _ _ _ => hO); ((with_reducible refine' i_mul hO ?hm ?_)); (case hm => mul_fits); intro _ _ _; clear hO))
local macro_rules | `(tactic| walk_at "cw") => `(tactic| first
  | ((with_reducible rename Ok _ _ _ _ => hO); ((with_reducible refine' c_def hO ?G ?ho ?hdat ?he ?_)); (case G => assumption); (case ho => rfl); (case hdat => rfl); (case he => rfl); skip)
  | ((with_reducible refine' c_bui ?he ?hp ?_); (case he => rfl); (case hp => rfl))
  | ((with_reducible refine' c_type ?he ?hp ?_); (case he => rfl); (case hp => rfl))
  | ((with_reducible refine' c_meth ?he ?hp ?_); (case he => rfl); (case hp => rfl)))
local macro_rules | `(tactic| walk_at "ca") => `(tactic| first
  | ((with_reducible rename Ok _ _ _ _ => hO); ((with_reducible refine' b_len hO ?r ?hz ?_)); (case r => walk_at "rd"); (case hz => omega); intro _ _ _; clear hO)
  | ((with_reducible rename Ok _ _ _ _ => hO); ((with_reducible refine' b_iter hO ?r ?_)); (case r => walk_at "rd"); intro _ _ _; clear hO)
  | ((with_reducible rename Ok _ _ _ _ => hO); ((with_reducible refine' b_enum hO ?hl ?_)); (case hl => assumption); intro _ _ _ _; clear hO)
  | ((with_reducible rename Ok _ _ _ _ => hO); ((with_reducible refine' b_range1 hO ?_)); intro _ _ _ _ _ _; clear hO)
  | ((with_reducible rename Ok _ _ _ _ => hO); ((with_reducible refine' b_range2 hO ?_)); intro _ _ _ _ _; clear hO))
local macro_rules | `(tactic| walk_at "m") => `(tactic| first
  | with_reducible refine nx_next ?_
  | with_reducible refine x_cons ?_
  | ((with_reducible refine g_eval ?_); walk_at "ev")
  | ((with_reducible refine g_exec ?_); walk_at "ex")
  | ((with_reducible refine g_true ?_); walk_at "tr")
  | ((with_reducible refine g_bin ?_); walk_at "bi")
  | ((with_reducible refine g_cmp ?_); walk_at "cm")
  | with_reducible refine t_bool ?_
  | ((with_reducible rename Ok _ _ _ _ => hO); ((with_reducible refine' and_keep hO ?_)); skip)
  | with_reducible refine m_repl ?_
  | with_reducible refine m_join ?_
  | with_reducible refine m_split ?_
  | with_reducible refine t_int ?_
  | ((with_reducible rename Ok _ _ _ _ => hO); ((with_reducible refine' i_ior hO ?_)); intro _ _ _; clear hO)
  | ((with_reducible rename Ok _ _ _ _ => hO); ((with_reducible refine' i_ishl hO ?h0 ?hb ?ha ?_)); (case h0 => omega); (case hb => omega); (case ha => omega); intro _ _ _; clear hO)
  | with_reducible refine v_none ?_
  | with_reducible refine v_some ?_
  | ((with_reducible rename Ok _ _ _ _ => hO); ((with_reducible refine' s_loc hO ?hk ?hx ?hL ?_)); (case hk => rfl); (case hx => rfl); (case hL => rfl); intro _ _; clear hO)
  | ((with_reducible refine' a_cons ?he ?_); (case he => rfl))
  | with_reducible refine a_nil ?_
  | ((with_reducible refine g_cw ?_); walk_at "cw")
  | ((with_reducible refine g_call ?_); walk_at "ca")
  | ((with_reducible rename Ok _ _ _ _ => hO); ((with_reducible refine' s_word hO ?hk ?hx ?hc ?hL ?_)); (case hk => rfl); (case hx => rfl); (case hc => rfl); (case hL => rfl); intro _ _; clear hO)
  | ((with_reducible rename Ok _ _ _ _ => hO); ((with_reducible refine' s_total hO ?hk ?hx ?hc ?hL ?_)); (case hk => rfl); (case hx => rfl); (case hc => rfl); (case hL => rfl); intro _ _; clear hO)
  | ((with_reducible rename Ok _ _ _ _ => hO); ((with_reducible refine' s_lead hO ?hk ?hx ?hc ?hL ?_)); (case hk => rfl); (case hx => rfl); (case hc => rfl); (case hL => rfl); intro _ _; clear hO)
  | ((with_reducible rename Ok _ _ _ _ => hO); ((with_reducible refine' s_low hO ?hk ?hx ?hc ?hL ?_)); (case hk => rfl); (case hx => rfl); (case hc => rfl); (case hL => rfl); intro _ _; clear hO)
  | ((with_reducible rename Ok _ _ _ _ => hO); ((with_reducible refine' s_high hO ?hk ?hx ?hc ?hL ?_)); (case hk => rfl); (case hx => rfl); (case hc => rfl); (case hL => rfl); intro _ _; clear hO)
  | ((with_reducible rename Ok _ _ _ _ => hO); ((with_reducible refine' s_ends hO ?hk ?hx ?hc ?hL ?_)); (case hk => rfl); (case hx => rfl); (case hc => rfl); (case hL => rfl); intro _ _; clear hO)
  | ((with_reducible rename Ok _ _ _ _ => hO); ((with_reducible refine' s_dress hO ?hk ?hx ?hc ?hL ?_)); (case hk => rfl); (case hx => rfl); (case hc => rfl); (case hL => rfl); intro _ _; clear hO)
  | ((with_reducible rename Ok _ _ _ _ => hO); ((with_reducible refine' s_hand hO ?hk ?hx ?hc ?hL ?_)); (case hk => rfl); (case hx => rfl); (case hc => rfl); (case hL => rfl); intro _ _; clear hO)
  | ((with_reducible rename Ok _ _ _ _ => hO); ((with_reducible refine' s_signs hO ?hk ?hx ?hc ?hL ?_)); (case hk => rfl); (case hx => rfl); (case hc => rfl); (case hL => rfl); intro _ _; clear hO)
  | ((with_reducible rename Ok _ _ _ _ => hO); ((with_reducible refine' s_octets hO ?hk ?hx ?hc ?hL ?_)); (case hk => rfl); (case hx => rfl); (case hc => rfl); (case hL => rfl); intro _ _; clear hO)
  | ((with_reducible rename Ok _ _ _ _ => hO); ((with_reducible refine' s_names hO ?hk ?hx ?hc ?hL ?_)); (case hk => rfl); (case hx => rfl); (case hc => rfl); (case hL => rfl); intro _ _; clear hO)
  | ((with_reducible rename Ok _ _ _ _ => hO); ((with_reducible refine' n_loc hO ?hk ?hx ?hL ?hv ?_)); (case hk => rfl); (case hx => rfl); (case hL => rfl); (case hv => walk_at "lk"); skip)
  | ((with_reducible rename Ok _ _ _ _ => hO); ((with_reducible refine' i_iadd hO ?_)); intro _ _ _; clear hO)
  | ((with_reducible rename Ok _ _ _ _ => hO); ((with_reducible refine' i_isub hO ?_)); intro _ _ _; clear hO)
  | ((with_reducible rename Ok _ _ _ _ => hO); ((with_reducible refine' m_app hO ?r ?_)); (case r => walk_at "rd"); skip)
  | ((with_reducible rename Ok _ _ _ _ => hO); ((with_reducible refine' m_subP hO ?P ?_)); (case P => assumption); skip)
  | with_reducible refine x_nil ?_
  | with_reducible refine ite_t ?_
  | with_reducible refine ite_f ?_
  | with_reducible refine ite_nf ?_
  | with_reducible refine ite_nt ?_
  | with_reducible refine o_cons ?_
  | with_reducible refine o_nil ?_
  | ((with_reducible rename Ok _ _ _ _ => hO); ((with_reducible refine' n_cell hO ?hk ?hx ?hc ?hm ?_)); (case hk => rfl); (case hx => rfl); (case hc => rfl); (case hm => walk_at "mem"); skip))
/-! text LawA -/
section
variable {w : World} {A : Around} {E : Value → Shared → Prop} {g : Heap} {s₀ s : Shared} {env : Env} {L : Addr} {m : Str → Option Value} {st : Stmt} {Q : Flow → Shared → Prop} {c1 c2 c3 c4 c5 c6 c7 c8 c9 c10 c11 : Option Value} {rest : List Ent}
set_option maxHeartbeats 1000000 in
theorem law_s0 (hst : st = lawStmt w.params 0) (henv : env = lawEnv w.params L) (H : Ok g ((L, oNs m) :: (Cl11 L c1 c2 c3 c4 c5 c6 c7 c8 c9 c10 c11 ++ [])) s₀ s)
    (k : ∀ s₀' a vs k0 s', s₀'.gens = s₀.gens → s₀'.os = s₀.os → 0 < s₀'.toks → IntL vs 10 k0 → Ok g ((L, oNs m) :: (Cl11 L (some (.ref a)) c2 c3 c4 c5 c6 c7 c8 c9 c10 c11 ++ [(a, oLs vs)])) s₀' s' → Q .next s') : wpAny (model PW w) A (exec st env) Q E s := by
  subst hst henv
  walk_at "lit"
  walk_at "m"
  walk_at "m"
  walk_at "m"
  refine e_intT H fun t1 s1 h1 H1 => ?_
  have H2 := H1.rebase
  have h2 : 0 < s1.toks := Nat.lt_of_le_of_lt (Nat.zero_le _) h1
  clear H H1
  repeat walk_at "m"
  rename_i H3
  refine n_listI H3 (by
    intro v hv
    simp only [List.mem_cons, List.not_mem_nil, or_false] at hv
    rcases hv with rfl | rfl | rfl | rfl | rfl | rfl | rfl | rfl | rfl | rfl <;> exact ⟨_, _, rfl⟩) (by simp) fun a k0 s4 hk0 H4 => ?_
  have H5 := H4.weak (R := oLs _) fun o ⟨n, e⟩ => by rw [e]; exact ⟨rfl, _, rfl⟩
  clear H3 H4
  rw [show ∀ x : Ent, (L, oNs m) :: (Cl11 L c1 c2 c3 c4 c5 c6 c7 c8 c9 c10 c11 ++ []) ++ [x] = (L, oNs m) :: (Cl11 L c1 c2 c3 c4 c5 c6 c7 c8 c9 c10 c11 ++ [x]) from fun _ => rfl] at H5
  repeat walk_at "m"
  rename_i H6
  exact k { s₀ with toks := s1.toks } a _ k0 _ rfl rfl h2 hk0 H6
set_option maxHeartbeats 1000000 in
theorem law_s1 (hst : st = lawStmt w.params 1) (henv : env = lawEnv w.params L) (H : Ok g ((L, oNs m) :: (Cl11 L c1 c2 c3 c4 c5 c6 c7 c8 c9 c10 c11 ++ rest)) s₀ s)
    (k : ∀ t s', Ok g ((L, oNs m) :: (Cl11 L c1 (some (.int 0 t)) c3 c4 c5 c6 c7 c8 c9 c10 c11 ++ rest)) s₀ s' → Q .next s') : wpAny (model PW w) A (exec st env) Q E s := by
  subst hst henv
  walk_at "lit"
  repeat walk_at "m"
  rename_i H6
  exact k _ _ H6
theorem Ok.assoc {p x : Ent} {a r : List Ent} (H : Ok g (p :: (a ++ x :: r)) s₀ s) : Ok g (p :: ((a ++ [x]) ++ r)) s₀ s := by rw [List.append_assoc]; exact H
theorem i_getX {ms : List Ent} {a : Addr} {vs : List Value} {i : Int} {u : Tok} {v : Value} {Q : Value → Shared → Prop} (j : Nat) (H : Ok g ms s₀ s) (hj : ms[j]? = some (a, oLs vs)) (h0 : 0 ≤ i) (hi : i < 1000000) (hx : vs[i.toNat]? = some v) (h : Q v s) : wpAny (model PW w) A (getItem (.ref a) (.int i u)) Q E s :=
  wpAny_getItem_list (H.at_ _ (List.mem_of_getElem? hj)).ls h0 (by omega) (by simpa using hx) h
theorem i_setX {ms : List Ent} {a : Addr} {vs : List Value} {i : Int} {u : Tok} {v : Value} {Q : Unit → Shared → Prop} (j : Nat) (H : Ok g ms s₀ s) (hj : ms[j]? = some (a, oLs vs)) (h0 : 0 ≤ i) (hi : i < 1000000) (hx : i.toNat < vs.length) (k : ∀ s', Ok g (ms.set j (a, oLs (vs.set i.toNat v))) s₀ s' → Q () s') : wpAny (model PW w) A (setItem (.ref a) (.int i u) v) Q E s :=
  wpAny_setItem_list (H.at_ _ (List.mem_of_getElem? hj)).ls h0 (by omega) (by rw [List.size_toArray]; omega) fun h' hl hs => k { s with heap := h' } (H.upd (t := s.toks) j hj hs (by
    obtain ⟨o, e, c, n, d⟩ := hl
    exact ⟨o, e, c, n, by rw [d, List.setIfInBounds_toArray]⟩))
theorem x_augsub {A : Around} {E : Value → Shared → Prop} {s : Shared} {env : Env} {o i value : Expr} {tpos pos : Pos} {op : Operator} {Q : Flow → Shared → Prop} (hi : ∀ ov iv new, augStore i ov iv new = (do holding [new, ov, iv] (setItem ov iv new); release [new, ov, iv] []; pure .next))
    (h : wpAny (model PW w) A (eval o env) (fun ov s₁ => wpAny (model PW w) A (eval i env) (fun iv s₂ => wpAny (model PW w) A (getItem ov iv) (fun old s₃ =>
          wpAny (model PW w) A (eval value env) (fun v s₄ => wpAny (model PW w) A (inplaceOp op old v) (fun new s₅ =>
            wpAny (model PW w) A (setItem ov iv new) (fun _ => Q .next) E s₅) E s₄) E s₃) E s₂) E s₁) E s) :
    wpAny (model PW w) A (exec (.AugAssign (.Subscript o i tpos) op value pos) env) Q E s := wpAny_AugAssign_SubscriptAny h hi
set_option maxHeartbeats 2000000 in
theorem law_s2 {a aw : Addr} {vs ws : List Value} {n : Nat} {ks k0 : Nat → Int} {t0 : Tok} (hst : st = lawStmt w.params 2) (henv : env = lawEnv w.params L) (G : Gd w g) (hh : A.handled = none) (hm : m "script" = some (.ref a)) (hl : g.IsList a vs.toArray) (hI : IntL vs n ks) (hw : IntL ws 10 k0)
    (H : Ok g ((L, oNs m) :: (Cl11 L (some (.ref aw)) (some (.int 0 t0)) c3 c4 c5 c6 c7 c8 c9 c10 c11 ++ [(aw, oLs ws)])) s₀ s)
    (k : ∀ m' ws' k' (T : Nat) t' s', IntL ws' 10 k' → Ok g ((L, oNs m') :: (Cl11 L (some (.ref aw)) (some (.int (T : Int) t')) c3 c4 c5 c6 c7 c8 c9 c10 c11 ++ [(aw, oLs ws')])) s₀ s' → Q .next s') : wpAny (model PW w) A (exec st env) Q E s := by
  subst hst henv
  walk_at "lit"
  repeat walk_at "m"
  rename_i e it s1 H1
  obtain ⟨old, he⟩ : ∃ old, IsEnum s1.heap e it 0 old := by
    obtain ⟨o, ho, old, rfl⟩ := H1.at_ _ (.head _)
    exact ⟨old, ho⟩
  refine wpAny_pyIter_enum he ?_
  refine for_enum (L := L) hh rfl rfl rfl rfl (vs := vs) (J := fun i g' m' ms' => g' = g ∧ ∃ ws' k' T t', ms' = Cl11 L (some (.ref aw)) (some (.int ((T : Nat) : Int) t')) c3 c4 c5 c6 c7 c8 c9 c10 c11 ++ [(aw, oLs ws')] ∧ IntL ws' 10 k') ?hJ ?turn ?fin ⟨rfl, ws, k0, 0, t0, rfl, hw⟩ H1
  case hJ => rintro i g' m' ms' ⟨rfl, _⟩; exact hl
  case fin =>
    rintro g' m' ms' s' ⟨rfl, ws', k', T, t', rfl, hw'⟩ H'
    exact ⟨.next, rfl, k m' ws' k' T t' s' hw' H'⟩
  case turn =>
    rintro i g' m' ms' s' v t hv ⟨rfl, ws', k', T, t', rfl, hw'⟩ H'
    clear H1
    have hin : i < n := by rw [← hI.1]; exact (List.getElem?_eq_some_iff.mp hv).1
    obtain ⟨tx, hx⟩ := hI.2 i hin
    rw [hv] at hx
    obtain rfl := Option.some.inj hx
    rw [List.append_assoc] at H'
    refine x_cons (x_augsub (by intros; rfl) ?_)
    repeat walk_at "m"
    obtain ⟨t1, y1⟩ := hw'.2 (i % 10) (Nat.mod_lt _ (by omega))
    have e10 : ((i : Int) % 10).toNat = i % 10 := by omega
    refine i_getX 12 (by assumption) rfl (by omega) (by omega) (by rw [e10]; exact y1) ?_
    repeat walk_at "m"
    rename_i H2
    refine i_setX 12 H2 rfl (by omega) (by omega) (by rw [e10, hw'.1]; exact Nat.mod_lt _ (by omega)) fun s3 H3 => ?_
    clear H2
    rw [e10] at H3
    obtain ⟨y, hy⟩ : ∃ y : Int, k' (i % 10) + ks i = y := ⟨_, rfl⟩
    rw [hy] at H3
    replace H3 : Ok g' ((L, oNs (upd (upd m' (Str.ofString "place") (.int (i : Int) t)) (Str.ofString "x") (.int (ks i) tx))) :: (Cl11 L (some (.ref aw)) (some (.int ((T : Nat) : Int) t')) c3 c4 c5 c6 c7 c8 c9 c10 c11 ++ [(aw, oLs (ws'.set (i % 10) (.int y _))), (e, oEnum it ((i : Int) + 1)), (it, oLit a (i + 1))])) s₀ s3 := H3
    repeat walk_at "m"
    rename_i H4
    have hpos : 0 ≤ ks i % 10 ^ Int.toNat 6 := Int.emod_nonneg _ (by decide)
    rw [show (T : Int) + ks i % 10 ^ Int.toNat 6 = ((T + (ks i % 10 ^ Int.toNat 6).toNat : Nat) : Int) by rw [Int.natCast_add, Int.toNat_of_nonneg hpos]] at H4
    exact ⟨rfl, g', _, _, ⟨rfl, _, _, _, _, rfl, hw'.set (i % 10) y _⟩, H4.assoc⟩
end
/-! text LawB -/
section
section
variable {w : World} {A : Around} {E : Value → Shared → Prop} {g : Heap} {s₀ s : Shared} {env : Env} {L : Addr} {m : Str → Option Value} {st : Stmt} {Q : Flow → Shared → Prop} {c1 c2 c3 c4 c5 c6 c7 c8 c9 c10 c11 : Option Value} {rest : List Ent}
set_option maxHeartbeats 2000000 in
theorem law_s3 {aw : Addr} {ws : List Value} {k0 : Nat → Int} (hst : st = lawStmt w.params 3) (henv : env = lawEnv w.params L) (hh : A.handled = none) (hw : IntL ws 10 k0)
    (H : Ok g ((L, oNs m) :: (Cl11 L (some (.ref aw)) c2 c3 c4 c5 c6 c7 c8 c9 c10 c11 ++ [(aw, oLs ws)])) s₀ s)
    (k : ∀ g' aw' ws' s', Sub g g' → HasAt g' aw' (oList ws') → IntL ws' 10 (fun j => k0 j % 3) → Ok g' ((L, oNs m) :: (Cl11 L (some (.ref aw')) c2 c3 c4 c5 c6 c7 c8 c9 c10 c11 ++ [])) s₀ s' → Q .next s') : wpAny (model PW w) A (exec st env) Q E s := by
  subst hst henv
  walk_at "lit"
  walk_at "m"
  refine e_comp (by intro _; with_unfolding_all rfl) rfl rfl (by decide) ?_
  repeat walk_at "m"
  rename Ok _ _ _ _ => H1
  refine p_listX H1 (.inl (by walk_at "mem")) fun it s2 H2 => ?_
  clear H1
  have h10 := hw.1
  refine comp_walkF (itk_listX it aw ws) H2 hh (by omega) (by decide) rfl rfl (fun i g' ys => g' = g ∧ IntL ys i (fun j => k0 j % 3)) ?hJ ⟨rfl, IntL.nil⟩ ?turn ?fin
  case hJ => rintro i g' ys ⟨rfl, h⟩; exact ⟨.inl (by walk_at "mem"), h.1⟩
  case turn =>
    rintro i g' ys C acc mC s3 v hi ⟨rfl, hy⟩ hv hm H3
    obtain ⟨t1, h1⟩ := hw.2 i (by omega)
    rw [hv] at h1
    obtain rfl := Option.some.inj h1
    clear H2
    repeat walk_at "m"
    exact ⟨g', ⟨rfl, hy.snoc _⟩, by assumption⟩
  case fin =>
    rintro g' ys C acc mC s3 ⟨rfl, hy⟩ H3
    refine compPost_valF H3 fun g2 s4 h1 h2 H4 => ?_
    rw [h10] at hy
    clear H2 H3
    repeat walk_at "m"
    rename_i H5
    refine k g2 acc ys _ h1 h2 hy (H5.sub ?_)
    exact List.Sublist.cons_cons _ (List.Sublist.append_left (List.nil_sublist _) _)
end
end
/-! text LawC -/
section
def ldT (T : Nat) : List Nat := List.replicate ((1 + T / 8) % 3) 46
def loT (T : Nat) : Nat := 11 + T % 2
def hiT (T : Nat) : Nat := [33, 122, 133, 8232].getD (T / 2 % 4) 0
def endsL : List (List Nat) := [[10, 13, 46], [13, 10, 10, 46], [13, 13, 10, 46]]
theorem times_one (n : Int) (c : Nat) : times n [c] = List.replicate n.toNat c := by
  unfold times
  induction n.toNat with
  | zero => rfl
  | succ n ih => rw [List.replicate_succ, List.flatten_cons, ih, List.replicate_succ]; rfl
section
variable {w : World} {A : Around} {E : Value → Shared → Prop} {g : Heap} {s₀ s : Shared} {env : Env} {L : Addr} {m : Str → Option Value} {st : Stmt} {Q : Flow → Shared → Prop} {c1 c2 c3 c4 c5 c6 c7 c8 c9 c10 c11 : Option Value} {rest : List Ent} {T : Nat} {tT : Tok}
set_option maxHeartbeats 2000000 in
theorem law_s4 (hst : st = lawStmt w.params 4) (henv : env = lawEnv w.params L) (hh : A.handled = none)
    (H : Ok g ((L, oNs m) :: (Cl11 L c1 (some (.int (T : Int) tT)) c3 c4 c5 c6 c7 c8 c9 c10 c11 ++ rest)) s₀ s)
    (k : ∀ t1 t2 s', Ok g ((L, oNs m) :: (Cl11 L c1 (some (.int (T : Int) tT)) (some (.str (tx (ldT T)) t1)) (some (.str (tx [loT T]) t2)) c5 c6 c7 c8 c9 c10 c11 ++ rest)) s₀ s' → Q .next s') : wpAny (model PW w) A (exec st env) Q E s := by
  subst hst henv
  walk_at "lit"
  repeat walk_at "m"
  rename Ok _ _ _ _ => H1
  refine x_mul (l := [46]) H1 (by omega) (by omega) (by decide) fun t2 s2 H2 => ?_
  clear H1
  rw [times_one, show ((1 + (T : Int) / 8) % 3).toNat = (1 + T / 8) % 3 by omega]
  repeat walk_at "m"
  rename Ok _ _ _ _ => H3
  refine x_item (l := [11, 12]) (c := loT T) H3 (by omega) (by decide) ?_ (by with_unfolding_all rfl) fun t4 s4 H4 => ?_
  · rw [show ((T : Int) % 2).toNat = T % 2 by omega]
    unfold loT
    rcases (lt2c (Nat.mod_lt _ (by decide)) : T % 2 = 0 ∨ T % 2 = 1) with h | h <;> rw [h] <;> rfl
  clear H3
  repeat walk_at "m"
  rename Ok _ _ _ _ => H5
  refine n_tupH H5 (by simp) fun ta s6 H6 ht => ?_
  refine as_twoC hh H6 ht fun s7 H7 => ?_
  clear H5 H6 ht
  repeat walk_at "m"
  rename Ok _ _ _ _ => H8
  exact k _ _ _ H8
set_option maxHeartbeats 2000000 in
theorem law_s5 (hst : st = lawStmt w.params 5) (henv : env = lawEnv w.params L)
    (H : Ok g ((L, oNs m) :: (Cl11 L c1 (some (.int (T : Int) tT)) c3 c4 c5 c6 c7 c8 c9 c10 c11 ++ rest)) s₀ s)
    (k : ∀ t1 s', Ok g ((L, oNs m) :: (Cl11 L c1 (some (.int (T : Int) tT)) c3 c4 (some (.str (tx [hiT T, 46]) t1)) c6 c7 c8 c9 c10 c11 ++ rest)) s₀ s' → Q .next s') : wpAny (model PW w) A (exec st env) Q E s := by
  subst hst henv
  walk_at "lit"
  repeat walk_at "m"
  rename Ok _ _ _ _ => H3
  refine x_item (l := [33, 122, 133, 8232]) (c := hiT T) H3 (by omega) (by decide) ?_ (by with_unfolding_all rfl) fun t4 s4 H4 => ?_
  · rw [show ((T : Int) / 2 % 4).toNat = T / 2 % 4 by omega]
    unfold hiT
    rcases (lt4c (Nat.mod_lt _ (by decide)) : T / 2 % 4 = 0 ∨ T / 2 % 4 = 1 ∨ T / 2 % 4 = 2 ∨ T / 2 % 4 = 3) with h | h | h | h <;> rw [h] <;> rfl
  clear H3
  repeat walk_at "m"
  rename Ok _ _ _ _ => H5
  refine x_add (a := [hiT T]) (b := [46]) H5 (by simp) fun t6 s6 H6 => ?_
  clear H5
  repeat walk_at "m"
  rename Ok _ _ _ _ => H8
  exact k _ _ H8
set_option maxHeartbeats 2000000 in
theorem law_s6 (hst : st = lawStmt w.params 6) (henv : env = lawEnv w.params L)
    (H : Ok g ((L, oNs m) :: (Cl11 L c1 c2 c3 c4 c5 c6 c7 c8 c9 c10 c11 ++ rest)) s₀ s)
    (k : ∀ a g' vs s', Sub g g' → HasAt g' a (oList vs) → StrL vs 3 (fun i => tx (endsL.getD i [])) → Ok g' ((L, oNs m) :: (Cl11 L c1 c2 c3 c4 c5 (some (.ref a)) c7 c8 c9 c10 c11 ++ rest)) s₀ s' → Q .next s') : wpAny (model PW w) A (exec st env) Q E s := by
  subst hst henv
  walk_at "lit"
  repeat walk_at "m"
  rename Ok _ _ _ _ => H3
  refine n_listF H3 (by simp) fun a g' s4 hg ha H4 => ?_
  clear H3
  repeat walk_at "m"
  rename Ok _ _ _ _ => H5
  refine k a g' _ _ hg ha ⟨rfl, fun i hi => ?_⟩ H5
  rcases (lt3c (by first | assumption | omega) : i = 0 ∨ i = 1 ∨ i = 2) with rfl | rfl | rfl <;> exact ⟨_, rfl⟩
end
end
/-! text LawD -/
section
def Dl (W : Nat → Nat) (T p : Nat) : List Nat := [[loT T], endsL.getD ((p + T) % 3) [], [hiT T, 46, 13, 33]].getD (W p) []
section
variable {w : World} {A : Around} {E : Value → Shared → Prop} {g : Heap} {s₀ s : Shared} {env : Env} {L : Addr} {m : Str → Option Value} {st : Stmt} {Q : Flow → Shared → Prop} {c1 c2 c3 c4 c5 c6 c7 c8 c9 c10 c11 : Option Value} {rest : List Ent} {T : Nat} {tT t4 t5 : Tok} {W : Nat → Nat} {aw ae : Addr} {ws es : List Value}
set_option maxHeartbeats 400000 in
theorem law_s7 (hst : st = lawStmt w.params 7) (henv : env = lawEnv w.params L) (G : Gd w g) (hh : A.handled = none) (haw : HasAt g aw (oList ws)) (hw : IntL ws 10 fun j => (W j : Int)) (hW : ∀ j, j < 10 → W j < 3) (hae : HasAt g ae (oList es)) (hes : StrL es 3 fun i => tx (endsL.getD i []))
    (H : Ok g ((L, oNs m) :: (Cl11 L (some (.ref aw)) (some (.int (T : Int) tT)) c3 (some (.str (tx [loT T]) t4)) (some (.str (tx [hiT T, 46]) t5)) (some (.ref ae)) c7 c8 c9 c10 c11 ++ rest)) s₀ s)
    (k : ∀ a g' ds s', Sub g g' → HasAt g' a (oList ds) → StrL ds 10 (fun p => tx (Dl W T p)) → Ok g' ((L, oNs m) :: (Cl11 L (some (.ref aw)) (some (.int (T : Int) tT)) c3 (some (.str (tx [loT T]) t4)) (some (.str (tx [hiT T, 46]) t5)) (some (.ref ae)) (some (.ref a)) c8 c9 c10 c11 ++ rest)) s₀ s' → Q .next s') : wpAny (model PW w) A (exec st env) Q E s := by
  subst hst henv
  walk_at "lit"
  walk_at "m"
  refine e_comp (by intro _; with_unfolding_all rfl) rfl rfl (by decide) ?_
  repeat walk_at "m"
  rename_i hr
  rename Ok _ _ _ _ => H1
  refine p_rangeI (n := 10) H1 hr (by decide) (by decide) (by decide) (by decide) (by rw [rangeSize_one]; rfl) fun it s2 H2 => ?_
  clear H1
  refine comp_walkF (itk_range it 0 10) H2 hh (by omega) (by decide) rfl rfl (fun i g' ys => Sub g g' ∧ StrL ys i (fun p => tx (Dl W T p))) ?hJ ⟨Sub.refl _, StrL.nil⟩ ?turn ?fin
  case hJ => rintro i g' ys ⟨h1, h⟩; exact ⟨trivial, h.1⟩
  case turn =>
    rintro i g' ys C acc mC s3 v hi ⟨hg, hy⟩ ⟨tv, rfl⟩ hm H3
    clear H2
    have haw' := haw.sub hg
    have hae' := hae.sub hg
    rw [Int.zero_add] at hm
    obtain ⟨t6, y6⟩ := hes.2 ((i + T) % 3) (Nat.mod_lt _ (by omega))
    obtain ⟨t7, y7⟩ := hw.2 i hi
    have hWi := hW i hi
    dsimp only at y6 y7
    walk_at "m"
    walk_at "m"
    walk_at "m"
    repeat walk_at "m"
    refine i_item (by assumption) (.inr hae') (by omega) (by omega) (by rw [show (((i : Int) + (T : Int)) % 3).toNat = (i + T) % 3 by omega]; exact y6) (by with_unfolding_all rfl) ?_
    repeat walk_at "m"
    rename Ok _ _ _ _ => H5
    refine x_add (a := [hiT T, 46]) (b := [13, 33]) H5 (by simp) fun t8 s8 H6 => ?_
    clear H5
    repeat walk_at "m"
    rename Ok _ _ _ _ => H7
    refine n_listF H7 (by simp) fun al g5 s9 hg5 hal H8 => ?_
    clear H7
    repeat walk_at "m"
    refine i_itemN (by assumption) (.inr (haw'.sub hg5)) (by omega) y7 (by with_unfolding_all rfl) ?_
    have key : ∃ t, [Value.str (tx [loT T]) t4, Value.str (tx (endsL.getD ((i + T) % 3) [])) t6, Value.str (tx ([hiT T, 46] ++ [13, 33])) t8][W i]? = some (Value.str (tx (Dl W T i)) t) := by
      unfold Dl
      rcases (lt3c (by first | assumption | omega) : W i = 0 ∨ W i = 1 ∨ W i = 2) with h | h | h <;> rw [h] <;> exact ⟨_, rfl⟩
    obtain ⟨t9, y9⟩ := key
    refine i_itemN (by assumption) (.inr hal) (by omega) y9 (by with_unfolding_all rfl) ?_
    exact ⟨g5, ⟨hg.trans hg5, hy.snoc _⟩, by assumption⟩
  case fin =>
    rintro g' ys C acc mC s3 ⟨hg, hy⟩ H3
    refine compPost_valF H3 fun g2 s4 h1 h2 H4 => ?_
    clear H2 H3
    repeat walk_at "m"
    rename_i H5
    exact k acc g2 ys _ (hg.trans h1) h2 hy H5
end
end
/-! text LawE -/
section
theorem StrL.are : ∀ {n : Nat} {vs : List Value} {σ : Nat → PySem.Str}, StrL vs n σ → StrsAre vs ((List.range n).map σ)
  | 0, vs, σ, h => by
    have := List.eq_nil_of_length_eq_zero h.1
    subst this; exact .nil
  | n + 1, [], σ, h => by have := h.1; simp at this
  | n + 1, v :: vs, σ, h => by
    obtain ⟨t, e⟩ := h.2 0 (by omega)
    rw [List.getElem?_cons_zero] at e
    obtain rfl := Option.some.inj e
    have h2 : StrL vs n (fun i => σ (i + 1)) := ⟨by have := h.1; simpa using this, fun i hi => by
      obtain ⟨t, e⟩ := h.2 (i + 1) (by omega)
      exact ⟨t, by rw [List.getElem?_cons_succ] at e; exact e⟩⟩
    rw [List.range_succ_eq_map, List.map_cons, List.map_map]
    exact .cons _ _ h2.are
theorem StrL.tails {n : Nat} {vs : List Value} {D : Nat → List Nat} (h : StrL vs n fun p => tx (D p)) (p : Nat) : TxA (vs.drop p) (((List.range n).drop p).map D) := by
  unfold TxA
  have := StrsAre.drop' h.are p
  rw [← List.map_drop] at this
  rw [List.map_map]
  exact this
theorem flat_le {D : Nat → List Nat} {b : Nat} : ∀ {l : List Nat}, (∀ x ∈ l, (D x).length ≤ b) → (l.map D).flatten.length ≤ b * l.length
  | [], _ => by simp
  | x :: l, h => by
    have h1 := h x (List.mem_cons_self ..)
    have h2 := flat_le (l := l) fun y hy => h y (List.mem_cons_of_mem _ hy)
    rw [List.map_cons, List.flatten_cons, List.length_append, List.length_cons, Nat.mul_add]
    omega
theorem Dl_len {W : Nat → Nat} {T p : Nat} : (Dl W T p).length ≤ 4 := by
  unfold Dl
  have h3 : ∀ i, (endsL.getD i []).length ≤ 4 := fun i => by
    match i with
    | 0 => decide
    | 1 => decide
    | 2 => decide
    | i + 3 => simp [endsL]
  have : ∀ (i : Nat) (a b c : List Nat), a.length ≤ 4 → b.length ≤ 4 → c.length ≤ 4 → ([a, b, c].getD i []).length ≤ 4 := fun i a b c ha hb hc => by
    match i with
    | 0 => exact ha
    | 1 => exact hb
    | 2 => exact hc
    | i + 3 => simp
  exact this _ _ _ _ (by simp) (h3 _) (by simp)
def tailS (W : Nat → Nat) (T p : Nat) : List Nat := (((List.range 10).drop p).map (Dl W T)).flatten
def sentS (W : Nat → Nat) (T p : Nat) : List Nat := quote (ldT T ++ tailS W T p)
theorem tailS_len {W : Nat → Nat} {T p : Nat} : (tailS W T p).length ≤ 40 := by
  have := flat_le (D := Dl W T) (b := 4) (l := (List.range 10).drop p) fun x _ => Dl_len
  rw [List.length_drop, List.length_range] at this
  exact Nat.le_trans this (by omega)
theorem ldT_len {T : Nat} : (ldT T).length ≤ 2 := by unfold ldT; rw [List.length_replicate]; omega
section
variable {w : World} {A : Around} {E : Value → Shared → Prop} {g : Heap} {s₀ s : Shared} {env : Env} {L : Addr} {m : Str → Option Value} {st : Stmt} {Q : Flow → Shared → Prop} {c1 c2 c3 c4 c5 c6 c7 c8 c9 c10 c11 : Option Value} {rest : List Ent} {T : Nat} {t3 : Tok} {W : Nat → Nat} {ad : Addr} {ds : List Value}
set_option maxHeartbeats 1000000 in
theorem law_s8 (hst : st = lawStmt w.params 8) (henv : env = lawEnv w.params L) (G : Gd w g) (hh : A.handled = none) (hroom : A.depth < recursionLimit) (had : HasAt g ad (oList ds)) (hds : StrL ds 10 fun p => tx (Dl W T p))
    (H : Ok g ((L, oNs m) :: (Cl11 L c1 c2 (some (.str (tx (ldT T)) t3)) c4 c5 c6 (some (.ref ad)) c8 c9 c10 c11 ++ rest)) s₀ s)
    (k : ∀ a g' ss s', Sub g g' → HasAt g' a (oList ss) → StrL ss 10 (fun p => tx (sentS W T p)) → Ok g' ((L, oNs (upd m "sent" (.ref a))) :: (Cl11 L c1 c2 (some (.str (tx (ldT T)) t3)) c4 c5 c6 (some (.ref ad)) c8 c9 c10 c11 ++ rest)) s₀ s' → Q .next s') : wpAny (model PW w) A (exec st env) Q E s := by
  subst hst henv
  walk_at "lit"
  refine x_compU rfl (by intro _; with_unfolding_all rfl) rfl rfl (by decide) ?_
  repeat walk_at "m"
  rename_i hr
  rename Ok _ _ _ _ => H1
  refine p_rangeI (n := 10) H1 hr (by decide) (by decide) (by decide) (by decide) (by rw [rangeSize_one]; rfl) fun it s2 H2 => ?_
  clear H1
  refine comp_walkF (itk_range it 0 10) H2 hh (by omega) (by decide) rfl rfl (fun i g' ys => Sub g g' ∧ StrL ys i (fun p => tx (sentS W T p))) ?hJ ⟨Sub.refl _, StrL.nil⟩ ?turn ?fin
  case hJ => rintro i g' ys ⟨h1, h⟩; exact ⟨trivial, h.1⟩
  case turn =>
    rintro i g' ys C acc mC s3 v hi ⟨hg, hy⟩ ⟨tv, rfl⟩ hm H3
    clear H2
    have had' := had.sub hg
    have G' := G.sub hg
    rw [Int.zero_add] at hm
    repeat walk_at "m"
    rename Ok _ _ _ _ => H4
    refine l_from (n := i) H4.sl (.inr had') (Heap.IsSliceOf.new ..) (by rw [hds.1]; omega) (fun a2 g5 s5 hg5 ha2 H5 => ?_) (by with_unfolding_all rfl)
    clear H4
    repeat walk_at "m"
    rename Ok _ _ _ _ => H6
    refine b_join H6 (.inr ha2) (hds.tails i) (by have := tailS_len (W := W) (T := T) (p := i); unfold tailS at this; omega) fun t7 s7 H7 => ?_
    clear H6
    repeat walk_at "m"
    rename Ok _ _ _ _ => H8
    have hl1 := tailS_len (W := W) (T := T) (p := i)
    have hl2 := ldT_len (T := T)
    refine x_add (a := ldT T) (b := tailS W T i) H8 (by omega) fun t9 s9 H9 => ?_
    clear H8
    repeat walk_at "m"
    rename Ok _ _ _ _ => H10
    refine ⟨hg5.trans H10.keep, wpAny_call ?_⟩
    refine quote_call ((G'.sub hg5).sub H10.keep) hh hroom (by rw [List.length_append]; omega) ?_
    intro s11 t11 q1 q2 q3 q4
    exact ⟨g5, ⟨hg.trans hg5, hy.snoc _⟩, H10.back q1 q2 q3 q4⟩
  case fin =>
    rintro g' ys C acc mC s3 ⟨hg, hy⟩ H3
    refine compPost_locF H3 rfl rfl rfl fun g2 s4 h1 h2 H4 => ?_
    exact k acc g2 ys _ (hg.trans h1) h2 hy H4
end
end
/-! text LawF -/
section
/-- the signs of the hand -/
def sgL (h : Nat) : List Nat := [[34, 60, 62], [62, 34, 60], [60, 34, 62], [60, 62, 34], [60, 62, 34]].getD h []
section
variable {w : World} {A : Around} {E : Value → Shared → Prop} {g : Heap} {s₀ s : Shared} {env : Env} {L : Addr} {m : Str → Option Value} {st : Stmt} {Q : Flow → Shared → Prop} {c1 c2 c3 c4 c5 c6 c7 c8 c9 c10 c11 : Option Value} {rest : List Ent} {T : Nat} {tT t8 : Tok}
set_option maxHeartbeats 1000000 in
theorem law_s9 (hst : st = lawStmt w.params 9) (henv : env = lawEnv w.params L)
    (H : Ok g ((L, oNs m) :: (Cl11 L c1 (some (.int (T : Int) tT)) c3 c4 c5 c6 c7 c8 c9 c10 c11 ++ rest)) s₀ s)
    (k : ∀ t s', Ok g ((L, oNs m) :: (Cl11 L c1 (some (.int (T : Int) tT)) c3 c4 c5 c6 c7 (some (.int ((T % 5 : Nat) : Int) t)) c9 c10 c11 ++ rest)) s₀ s' → Q .next s') : wpAny (model PW w) A (exec st env) Q E s := by
  subst hst henv
  walk_at "lit"
  repeat walk_at "m"
  rename_i H8
  exact k _ _ H8
set_option maxHeartbeats 1000000 in
theorem law_s10 (hst : st = lawStmt w.params 10) (henv : env = lawEnv w.params L)
    (H : Ok g ((L, oNs m) :: (Cl11 L c1 c2 c3 c4 c5 c6 c7 (some (.int ((T % 5 : Nat) : Int) t8)) c9 c10 c11 ++ rest)) s₀ s)
    (k : ∀ t g' s', Sub g g' → Ok g' ((L, oNs m) :: (Cl11 L c1 c2 c3 c4 c5 c6 c7 (some (.int ((T % 5 : Nat) : Int) t8)) (some (.str (tx (sgL (T % 5))) t)) c10 c11 ++ rest)) s₀ s' → Q .next s') : wpAny (model PW w) A (exec st env) Q E s := by
  subst hst henv
  walk_at "lit"
  repeat walk_at "m"
  rename_i H3
  refine n_listF H3 (by simp) fun a g' s4 hg ha H4 => ?_
  clear H3
  repeat walk_at "m"
  rename Ok _ _ _ _ => H5
  have key : ∀ (t1 t2 t3 t4 t5 : Tok), ∃ t, [Value.str (Str.ofString "\"<>") t1, Value.str (Str.ofString ">\"<") t2, Value.str (Str.ofString "<\">") t3, Value.str (Str.ofString "<>\"") t4, Value.str (Str.ofString "<>\"") t5][T % 5]? = some (Value.str (tx (sgL (T % 5))) t) := fun t1 t2 t3 t4 t5 => by
    rcases (lt5c (Nat.mod_lt _ (by decide)) : T % 5 = 0 ∨ T % 5 = 1 ∨ T % 5 = 2 ∨ T % 5 = 3 ∨ T % 5 = 4) with h | h | h | h | h <;> rw [h] <;> exact ⟨_, rfl⟩
  obtain ⟨t9, y9⟩ := key _ _ _ _ _
  refine i_itemN H5 (.inr ha) (by omega) y9 (by with_unfolding_all rfl) ?_
  repeat walk_at "m"
  rename_i H8
  exact k _ g' _ hg H8
end
end
/-! text LawG -/
section
def dgT (T i : Nat) : Nat := [T % 21, 21 + T / 3 % 21, 42 + T / 7 % 22].getD i 0
section
variable {w : World} {A : Around} {E : Value → Shared → Prop} {g : Heap} {s₀ s : Shared} {env : Env} {L : Addr} {m : Str → Option Value} {st : Stmt} {Q : Flow → Shared → Prop} {c1 c2 c3 c4 c5 c6 c7 c8 c9 c10 c11 : Option Value} {rest : List Ent} {T : Nat} {tT t8 : Tok}
set_option maxHeartbeats 1000000 in
theorem law_s12 (hst : st = lawStmt w.params 12) (henv : env = lawEnv w.params L)
    (H : Ok g ((L, oNs m) :: (Cl11 L c1 (some (.int (T : Int) tT)) c3 c4 c5 c6 c7 c8 c9 c10 c11 ++ rest)) s₀ s)
    (k : ∀ a g' vs s', Sub g g' → HasAt g' a (oList vs) → IntL vs 3 (fun i => (dgT T i : Int)) → Ok g' ((L, oNs (upd m "digits" (.ref a))) :: (Cl11 L c1 (some (.int (T : Int) tT)) c3 c4 c5 c6 c7 c8 c9 c10 c11 ++ rest)) s₀ s' → Q .next s') : wpAny (model PW w) A (exec st env) Q E s := by
  subst hst henv
  walk_at "lit"
  repeat walk_at "m"
  rename_i H3
  rw [show (T : Int) % 21 = ((dgT T 0 : Nat) : Int) by unfold dgT; simp, show 21 + (T : Int) / 3 % 21 = ((dgT T 1 : Nat) : Int) by unfold dgT; simp, show 42 + (T : Int) / 7 % 22 = ((dgT T 2 : Nat) : Int) by unfold dgT; simp]
  refine n_listF H3 (by simp) fun a g' s4 hg ha H4 => ?_
  clear H3
  repeat walk_at "m"
  rename_i H5
  refine k a g' _ _ hg ha ⟨rfl, fun i hi => ?_⟩ H5
  rcases (lt3c (by first | assumption | omega) : i = 0 ∨ i = 1 ∨ i = 2) with rfl | rfl | rfl <;> exact ⟨_, rfl⟩
set_option maxHeartbeats 1000000 in
theorem law_s13 (hst : st = lawStmt w.params 13) (henv : env = lawEnv w.params L)
    (H : Ok g ((L, oNs m) :: (Cl11 L c1 c2 c3 c4 c5 c6 c7 c8 c9 c10 c11 ++ [])) s₀ s)
    (k : ∀ a s', Ok g ((L, oNs (upd m "tape" (.ref a))) :: (Cl11 L c1 c2 c3 c4 c5 c6 c7 c8 c9 c10 c11 ++ [(a, oList [])])) s₀ s' → Q .next s') : wpAny (model PW w) A (exec st env) Q E s := by
  subst hst henv
  walk_at "lit"
  repeat walk_at "m"
  rename Ok _ _ _ _ => H3
  refine n_listE H3 (by simp) fun a s4 H4 => ?_
  clear H3
  rw [show ∀ x : Ent, (L, oNs m) :: (Cl11 L c1 c2 c3 c4 c5 c6 c7 c8 c9 c10 c11 ++ []) ++ [x] = (L, oNs m) :: (Cl11 L c1 c2 c3 c4 c5 c6 c7 c8 c9 c10 c11 ++ [x]) from fun _ => rfl] at H4
  repeat walk_at "m"
  rename_i H5
  exact k a _ H5
end
end
/-! text LawH -/
section
section
variable {w : World} {A : Around} {E : Value → Shared → Prop} {g : Heap} {s₀ s : Shared} {env : Env} {L : Addr} {m : Str → Option Value} {st : Stmt} {Q : Flow → Shared → Prop} {c1 c2 c3 c4 c5 c6 c7 c8 c9 c10 c11 : Option Value} {rest : List Ent} {T : Nat} {tT t8 t9 : Tok} {W : Nat → Nat} {aw : Addr} {ws : List Value}
def preW : List Nat := [38, 39, 13, 10, 9]
def textW (W : Nat → Nat) (T p : Nat) : List Nat := times 2 preW ++ (((List.range 10).drop p).map fun j => [(sgL (T % 5)).getD (W j) 0]).flatten
def writS (W : Nat → Nat) (T p : Nat) : List Nat := reps (PH (T % 5)) (textW W T p)
set_option maxHeartbeats 1000000 in
theorem law_s11 (hst : st = lawStmt w.params 11) (henv : env = lawEnv w.params L) (G : Gd w g) (hh : A.handled = none) (hroom : A.depth + 1 < recursionLimit) (h0 : 0 < s₀.toks) (haw : HasAt g aw (oList ws)) (hw : IntL ws 10 fun j => (W j : Int)) (hW : ∀ j, j < 10 → W j < 3)
    (H : Ok g ((L, oNs m) :: (Cl11 L (some (.ref aw)) c2 c3 c4 c5 c6 c7 (some (.int ((T % 5 : Nat) : Int) t8)) (some (.str (tx (sgL (T % 5))) t9)) c10 c11 ++ rest)) s₀ s)
    (k : ∀ a g' ss s', Sub g g' → HasAt g' a (oList ss) → StrL ss 10 (fun p => tx (writS W T p)) → Ok g' ((L, oNs (upd m "written" (.ref a))) :: (Cl11 L (some (.ref aw)) c2 c3 c4 c5 c6 c7 (some (.int ((T % 5 : Nat) : Int) t8)) (some (.str (tx (sgL (T % 5))) t9)) c10 c11 ++ rest)) s₀ s' → Q .next s') : wpAny (model PW w) A (exec st env) Q E s := by
  subst hst henv
  walk_at "lit"
  refine x_compU rfl (by intro _; with_unfolding_all rfl) rfl rfl (by decide) ?_
  repeat walk_at "m"
  rename_i hr
  rename Ok _ _ _ _ => H1
  refine p_rangeI (n := 10) H1 hr (by decide) (by decide) (by decide) (by decide) (by rw [rangeSize_one]; rfl) fun it s2 H2 => ?_
  clear H1
  refine comp_walkF (itk_range it 0 10) H2 hh (by omega) (by decide) rfl rfl (fun i g' ys => Sub g g' ∧ StrL ys i (fun p => tx (writS W T p))) ?hJ ⟨Sub.refl _, StrL.nil⟩ ?turn ?fin
  case hJ => rintro i g' ys ⟨h1, h⟩; exact ⟨trivial, h.1⟩
  case turn =>
    rintro i g' ys C acc mC s3 v hi ⟨hg, hy⟩ ⟨tv, rfl⟩ hm H3
    clear H2
    have haw' := haw.sub hg
    have G' := G.sub hg
    rw [Int.zero_add] at hm
    repeat walk_at "m"
    rename Ok _ _ _ _ => H4
    refine x_mul (l := preW) H4 (by omega) (by omega) (by decide) fun t5 s5 H5 => ?_
    clear H4
    repeat walk_at "m"
    refine e_comp (by intro _; with_unfolding_all rfl) rfl rfl (by decide) ?_
    repeat walk_at "m"
    rename Ok _ _ _ _ => H6
    refine l_from (n := i) H6.sl (.inr haw') (Heap.IsSliceOf.new ..) (by rw [hw.1]; omega) (fun a2 g5 s5 hg5 ha2 H7 => ?_) (by with_unfolding_all rfl)
    clear H6
    refine p_list H7 (.inr ha2) fun it2 s8 H8 => ?_
    clear H7
    refine comp_walkF (itk_list it2 a2 (ws.drop i)) H8 hh (by rw [List.length_drop, hw.1]; omega) (by decide) rfl rfl (fun i2 g6 ys2 => g6 = g5 ∧ ys2.length = i2 ∧ TxA ys2 (((((List.range 10).drop i).take i2).map fun j => [(sgL (T % 5)).getD (W j) 0]))) ?hJ2 ⟨rfl, rfl, TxA.nil0⟩ ?turn2 ?fin2
    case hJ2 => rintro i2 g6 ys2 ⟨rfl, h, _⟩; exact ⟨.inr ha2, h⟩
    case turn2 =>
      rintro i2 g6 ys2 C2 acc2 mC2 s9 v hi2 ⟨rfl, hl2, hy2⟩ hv hm2 H9
      clear H8
      rw [List.length_drop, hw.1] at hi2
      rw [List.getElem?_drop] at hv
      obtain ⟨t7, y7⟩ := hw.2 (i + i2) (by omega)
      rw [hv] at y7
      obtain rfl := Option.some.inj y7
      have hWi := hW (i + i2) (by omega)
      dsimp only at hm2
      repeat walk_at "m"
      rename Ok _ _ _ _ => H10
      have hsg : (sgL (T % 5))[W (i + i2)]? = some ((sgL (T % 5)).getD (W (i + i2)) 0) := by
        have hlen : (sgL (T % 5)).length = 3 := by
          unfold sgL
          rcases (lt5c (Nat.mod_lt _ (by decide)) : T % 5 = 0 ∨ T % 5 = 1 ∨ T % 5 = 2 ∨ T % 5 = 3 ∨ T % 5 = 4) with h | h | h | h | h <;> rw [h] <;> rfl
        rw [List.getD_eq_getElem?_getD, List.getElem?_eq_getElem (by omega)]; rfl
      refine x_item (c := (sgL (T % 5)).getD (W (i + i2)) 0) H10 (by omega) (by unfold sgL; rcases (lt5c (Nat.mod_lt _ (by decide)) : T % 5 = 0 ∨ T % 5 = 1 ∨ T % 5 = 2 ∨ T % 5 = 3 ∨ T % 5 = 4) with h | h | h | h | h <;> rw [h] <;> decide) (by rw [Int.toNat_natCast]; exact hsg) (by with_unfolding_all rfl) fun t11 s11 H11 => ?_
      refine ⟨g6, ⟨rfl, by simp [hl2], ?_⟩, H11⟩
      have e2 : ((List.range 10).drop i).take (i2 + 1) = ((List.range 10).drop i).take i2 ++ [i + i2] := by
        rw [List.take_add_one, List.getElem?_drop, List.getElem?_range (by omega)]; rfl
      rw [e2, List.map_append]
      exact hy2.snoc _ _
    case fin2 =>
      rintro g6 ys2 C2 acc2 mC2 s9 ⟨rfl, hl2, hy2⟩ H9
      refine compPost_valF H9 fun g7 s10 h1 h2 H10 => ?_
      clear H8 H9
      rw [List.length_drop, hw.1, List.take_of_length_le (by rw [List.length_drop, List.length_range]; omega)] at hy2
      have hfl : (((List.range 10).drop i).map fun j => [(sgL (T % 5)).getD (W j) 0]).flatten.length ≤ 10 := by
        have := flat_le (D := fun j => [(sgL (T % 5)).getD (W j) 0]) (b := 1) (l := (List.range 10).drop i) fun x _ => by simp
        rw [List.length_drop, List.length_range] at this
        omega
      repeat walk_at "m"
      rename Ok _ _ _ _ => H11
      refine b_join H11 (.inr h2) hy2 (by omega) fun t12 s12 H12 => ?_
      clear H11
      repeat walk_at "m"
      rename Ok _ _ _ _ => H13
      refine x_add (a := times 2 preW) H13 (by have : (times 2 preW).length = 10 := by decide
                                               omega) fun t14 s14 H14 => ?_
      clear H13
      repeat walk_at "m"
      rename Ok _ _ _ _ => H15
      refine ⟨(hg5.trans h1).trans H15.keep, wpAny_call ?_⟩
      refine written_call (h := T % 5) (((G'.sub hg5).sub h1).sub H15.keep) hh hroom (Nat.lt_of_lt_of_le h0 H15.tm) ?_ ?_ (Nat.mod_lt _ (by omega)) ?_
      · intro x hx
        rcases List.mem_append.mp hx with hx | hx
        · have hp : ∀ x ∈ times 2 preW, x ∈ [38, 39, 13, 10, 9, 34, 60, 62] := by decide
          exact hp x hx
        · obtain ⟨l1, hl1, hx1⟩ := List.mem_flatten.mp hx
          obtain ⟨j1, hj1, rfl⟩ := List.mem_map.mp hl1
          rw [List.mem_singleton] at hx1
          subst hx1
          have hj2 : j1 < 10 := List.mem_range.mp (List.mem_of_mem_drop hj1)
          have hWj := hW j1 hj2
          have hall : ∀ (a : _root_.Fin 5) (b : _root_.Fin 3), (sgL a.val).getD b.val 0 ∈ [38, 39, 13, 10, 9, 34, 60, 62] := by decide
          exact hall ⟨T % 5, Nat.mod_lt _ (by omega)⟩ ⟨W j1, hWj⟩
      · have : (times 2 preW).length = 10 := by decide
        rw [List.length_append]; omega
      · intro s11 t11 q1 q2 q3 q4
        exact ⟨g7, ⟨(hg.trans hg5).trans h1, hy.snoc _⟩, H15.back q1 q2 q3 q4⟩
  case fin =>
    rintro g' ys C acc mC s3 ⟨hg, hy⟩ H3
    refine compPost_locF H3 rfl rfl rfl fun g2 s4 h1 h2 H4 => ?_
    exact k acc g2 ys _ (hg.trans h1) h2 hy H4
end
end
/-! text P3 -/
section
theorem lex_app {a b : List Nat} : ∀ u : List Nat, (u ++ a < u ++ b) ↔ a < b
  | [] => Iff.rfl
  | x :: u => by
    rw [List.cons_append, List.cons_append, List.cons_lt_cons_iff]
    constructor
    · rintro (h | ⟨_, h⟩)
      · exact absurd h (Nat.lt_irrefl _)
      · exact (lex_app u).mp h
    · exact fun h => .inr ⟨rfl, (lex_app u).mpr h⟩
theorem lex_asymm {a b : List Nat} (h : a < b) : ¬ b < a := by
  intro q
  exact List.lt_irrefl _ (List.lt_trans h q)
/-- the codes of the letters, one behind another -/
def fl (c : Nat → List Nat) (W : Nat → Nat) (n p : Nat) : List Nat := (((List.range n).drop p).map fun j => c (W j)).flatten
theorem fl_end {c : Nat → List Nat} {W : Nat → Nat} {n : Nat} : fl c W n n = [] := by
  unfold fl
  rw [List.drop_eq_nil_of_le (by simp)]; rfl
theorem fl_step {c : Nat → List Nat} {W : Nat → Nat} {n p : Nat} (h : p < n) : fl c W n p = c (W p) ++ fl c W n (p + 1) := by
  unfold fl
  rw [List.drop_eq_getElem_cons (by simpa using h), List.map_cons, List.flatten_cons, List.getElem_range]
theorem fl_two {c : Nat → List Nat} {W : Nat → Nat} {n : Nat} : ∀ (d p j : Nat), p + d ≤ n → j + d ≤ n → (∀ i, i < d → W (p + i) = W (j + i)) → ∃ u, fl c W n p = u ++ fl c W n (p + d) ∧ fl c W n j = u ++ fl c W n (j + d)
  | 0, p, j, _, _, _ => ⟨[], rfl, rfl⟩
  | d + 1, p, j, hp, hj, h => by
    obtain ⟨u, h1, h2⟩ := fl_two (c := c) (W := W) (n := n) d (p + 1) (j + 1) (by omega) (by omega) fun i hi => by
      have := h (i + 1) (by omega)
      rw [show p + 1 + i = p + (i + 1) by omega, show j + 1 + i = j + (i + 1) by omega]
      exact this
    refine ⟨c (W p) ++ u, ?_, ?_⟩
    · rw [fl_step (by omega), h1, List.append_assoc, show p + 1 + d = p + (d + 1) by omega]
    · rw [fl_step (by omega), h2, List.append_assoc, show j + 1 + d = j + (d + 1) by omega]
      have := h 0 (by omega)
      rw [Nat.add_zero, Nat.add_zero] at this
      rw [this]
theorem fl_lt {c : Nat → List Nat} {W : Nat → Nat} {n p j : Nat} {lt : Nat → Nat → Prop} (irr : ∀ a, ¬ lt a a) (tr : ∀ a b c, lt a b → lt b c → lt a c) (tot : ∀ a b, a ≠ b → lt a b ∨ lt b a)
    (hD : ∀ a b, a < 3 → b < 3 → lt a b → ∀ r r', c a ++ r < c b ++ r') (hne : ∀ a, a < 3 → c a ≠ []) (hW : ∀ i, i < n → W i < 3) (hp : p < j) (hj : j < n) : fl c W n p < fl c W n j ↔ SufGt lt W n p j := by
  constructor
  · intro h
    refine Classical.byContradiction fun q => ?_
    obtain ⟨d, d1, d2, d3⟩ := suf_not tot (Nat.le_of_lt hj) q
    obtain ⟨u, e1, e2⟩ := fl_two (c := c) (W := W) (n := n) d p j (by omega) d1 d2
    rw [e1, e2, lex_app] at h
    by_cases z : j + d = n
    · rw [z, fl_end] at h
      exact absurd h (List.not_lt_nil _)
    · have := d3.resolve_left z
      rw [fl_step (c := c) (W := W) (n := n) (p := j + d) (by omega), fl_step (c := c) (W := W) (n := n) (p := p + d) (by omega)] at h
      exact lex_asymm h (hD _ _ (hW _ (by omega)) (hW _ (by omega)) this _ _)
  · rintro ⟨d, d1, d2, d3⟩
    obtain ⟨u, e1, e2⟩ := fl_two (c := c) (W := W) (n := n) d p j (by omega) (by omega) d2
    rw [e1, e2, lex_app, fl_step (c := c) (W := W) (n := n) (p := j + d) (by omega), fl_step (c := c) (W := W) (n := n) (p := p + d) (by omega)]
    exact hD _ _ (hW _ (by omega)) (hW _ (by omega)) d3 _ _
theorem LtS_tx {l : Nat → List Nat} {p j : Nat} : LtS (fun i => tx (l i)) p j ↔ l p < l j := by
  unfold LtS tx
  rfl
/-! ## to be sent -/
def encS (T a : Nat) : List Nat := [[loT T], [13, 10, 13, 10, 46, 46], [hiT T, 46, 13, 10, 33]].getD a []
def nrmS (T a : Nat) : List Nat := [[loT T], [13, 10, 13, 10, 46], [hiT T, 46, 13, 10, 33]].getD a []
theorem hi_big {T : Nat} : 33 ≤ hiT T := by
  unfold hiT
  rcases (lt4c (Nat.mod_lt _ (by decide)) : T / 2 % 4 = 0 ∨ T / 2 % 4 = 1 ∨ T / 2 % 4 = 2 ∨ T / 2 % 4 = 3) with e | e | e | e <;> rw [e] <;> decide
theorem hi_dot {T : Nat} : hiT T ≠ 46 := by
  unfold hiT
  rcases (lt4c (Nat.mod_lt _ (by decide)) : T / 2 % 4 = 0 ∨ T / 2 % 4 = 1 ∨ T / 2 % 4 = 2 ∨ T / 2 % 4 = 3) with e | e | e | e <;> rw [e] <;> decide
theorem norm_Dl {W : Nat → Nat} {T j : Nat} (h : W j < 3) (r : List Nat) : norm (Dl W T j ++ r) = nrmS T (W j) ++ norm r := by
  have hb := @hi_big T
  unfold Dl nrmS
  rcases lt3c h with e | e | e <;> rw [e]
  · have : loT T ≠ 10 ∧ loT T ≠ 13 := by unfold loT; omega
    exact norm_other _ _ this.1 this.2
  · rcases (lt3c (Nat.mod_lt _ (by decide)) : (j + T) % 3 = 0 ∨ (j + T) % 3 = 1 ∨ (j + T) % 3 = 2) with q | q | q <;> rw [q]
    · show norm (10 :: 13 :: 46 :: r) = 13 :: 10 :: 13 :: 10 :: 46 :: norm r
      rw [norm_lf, norm_cr _ (by simp), norm_other _ _ (by decide) (by decide)]
    · show norm (13 :: 10 :: 10 :: 46 :: r) = 13 :: 10 :: 13 :: 10 :: 46 :: norm r
      rw [norm_crlf, norm_lf, norm_other _ _ (by decide) (by decide)]
    · show norm (13 :: 13 :: 10 :: 46 :: r) = 13 :: 10 :: 13 :: 10 :: 46 :: norm r
      rw [norm_cr _ (by simp), norm_crlf, norm_other _ _ (by decide) (by decide)]
  · show norm (hiT T :: 46 :: 13 :: 33 :: r) = hiT T :: 46 :: 13 :: 10 :: 33 :: norm r
    rw [norm_other _ _ (by omega) (by omega), norm_other _ _ (by decide) (by decide), norm_cr _ (by simp), norm_other _ _ (by decide) (by decide)]
theorem norm_all {W : Nat → Nat} {T : Nat} : ∀ ps : List Nat, (∀ j ∈ ps, W j < 3) → norm (ps.map (Dl W T)).flatten = (ps.map fun j => nrmS T (W j)).flatten
  | [], _ => rfl
  | j :: ps, h => by
    rw [List.map_cons, List.flatten_cons, List.map_cons, List.flatten_cons, norm_Dl (h j (.head _)), norm_all ps fun i hi => h i (.tail _ hi)]
theorem norm_dots : ∀ (n : Nat) (r : List Nat), norm (List.replicate n 46 ++ r) = List.replicate n 46 ++ norm r
  | 0, r => rfl
  | n + 1, r => by
    rw [List.replicate_succ, List.cons_append, norm_other _ _ (by decide) (by decide), norm_dots n r]; rfl
theorem dots_nrm {T a : Nat} {b : Bool} (h : a < 3) (r : List Nat) : dots b (nrmS T a ++ r) = encS T a ++ dots false r := by
  have hb := @hi_big T
  have hd := @hi_dot T
  have hl : loT T = 11 ∨ loT T = 12 := by unfold loT; omega
  unfold encS nrmS
  rcases lt3c h with e | e | e <;> rw [e]
  · show dots b (loT T :: r) = loT T :: dots false r
    rcases hl with e | e <;> rw [e] <;> simp [dots]
  · show dots b (13 :: 10 :: 13 :: 10 :: 46 :: r) = 13 :: 10 :: 13 :: 10 :: 46 :: 46 :: dots false r
    simp [dots]
  · show dots b (hiT T :: 46 :: 13 :: 10 :: 33 :: r) = hiT T :: 46 :: 13 :: 10 :: 33 :: dots false r
    have h10 : (hiT T == 10) = false := by simp; omega
    simp [dots, hd, h10]
theorem dots_all {W : Nat → Nat} {T : Nat} : ∀ (ps : List Nat) (b : Bool), (∀ j ∈ ps, W j < 3) → dots b (ps.map fun j => nrmS T (W j)).flatten = (ps.map fun j => encS T (W j)).flatten
  | [], b, _ => by cases b <;> rfl
  | j :: ps, b, h => by
    rw [List.map_cons, List.flatten_cons, List.map_cons, List.flatten_cons, dots_nrm (h j (.head _)), dots_all ps false fun i hi => h i (.tail _ hi)]
theorem dots_lead (n : Nat) (r : List Nat) (h : ∀ b, dots b r = dots false r) : dots true (List.replicate n 46 ++ r) = List.replicate n 46 ++ (List.replicate n 46).take 1 ++ dots false r := by
  have hf : ∀ n, dots false (List.replicate n 46 ++ r) = List.replicate n 46 ++ dots false r := by
    intro n
    induction n with
    | zero => rfl
    | succ n ih => rw [List.replicate_succ, List.cons_append]; simp only [dots]; simp [ih]
  cases n with
  | zero => exact h true
  | succ n =>
    rw [List.replicate_succ, List.cons_append]
    simp only [dots, and_self, if_true, hf]
    have : List.replicate n 46 ++ [46] = 46 :: List.replicate n 46 := by rw [← List.replicate_succ, List.replicate_succ']
    simp [this]
theorem sent_is {W : Nat → Nat} {T p : Nat} (hW : ∀ j, j < 10 → W j < 3) : sentS W T p = ldT T ++ (ldT T).take 1 ++ fl (encS T) W 10 p := by
  have hm : ∀ j ∈ (List.range 10).drop p, W j < 3 := fun j hj => hW j (List.mem_range.mp (List.mem_of_mem_drop hj))
  unfold sentS quote ldT tailS
  rw [norm_dots, norm_all _ hm, dots_lead _ _ fun b => by rw [dots_all _ _ hm, dots_all _ _ hm], dots_all _ _ hm]
  rfl
theorem sent_gt {W : Nat → Nat} {T p j : Nat} (hW : ∀ j, j < 10 → W j < 3) (hp : p < j) (hj : j < 10) : LtS (fun i => tx (sentS W T i)) p j ↔ SufGt (· < ·) W 10 p j := by
  rw [LtS_tx, sent_is hW, sent_is hW, lex_app]
  refine fl_lt (fun a => Nat.lt_irrefl a) (fun a b c => Nat.lt_trans) (fun a b h => Nat.lt_or_gt_of_ne h) ?_ ?_ hW hp hj
  · intro a b ha hb hab r r'
    have h1 : loT T < 13 := by unfold loT; omega
    have h2 := @hi_big T
    unfold encS
    rcases lt3c ha with rfl | rfl | rfl <;> rcases lt3c hb with rfl | rfl | rfl <;> first | omega | skip
    · exact List.cons_lt_cons_iff.mpr (.inl h1)
    · exact List.cons_lt_cons_iff.mpr (.inl (show loT T < hiT T by omega))
    · exact List.cons_lt_cons_iff.mpr (.inl (show 13 < hiT T by omega))
  · intro a ha
    unfold encS
    rcases lt3c ha with rfl | rfl | rfl <;> simp
/-! ## to be written -/
def encW (h a : Nat) : List Nat := reps (PH h) [(sgL h).getD a 0]
theorem writ_is {W : Nat → Nat} {T p : Nat} : writS W T p = times 2 (reps (PH (T % 5)) preW) ++ fl (encW (T % 5)) W 10 p := by
  unfold writS textW
  rw [reps_append]
  congr 1
  · show reps (PH (T % 5)) (preW ++ (preW ++ [])) = reps (PH (T % 5)) preW ++ (reps (PH (T % 5)) preW ++ [])
    rw [reps_append, reps_append, reps_nil]
  · unfold fl
    generalize (List.range 10).drop p = ps
    induction ps with
    | nil => exact reps_nil _
    | cons x ps ih => rw [List.map_cons, List.flatten_cons, List.map_cons, List.flatten_cons, reps_append, ih]; rfl
theorem lex_dif {x y : Nat} {a b r r' : List Nat} (h : x < y) : ∀ u : List Nat, (u ++ x :: a) ++ r < (u ++ y :: b) ++ r' := fun u => by
  rw [List.append_assoc, List.append_assoc, lex_app]
  exact List.cons_lt_cons_iff.mpr (.inl h)
theorem writ_gt {W : Nat → Nat} {T p j : Nat} (hW : ∀ j, j < 10 → W j < 3) (hp : p < j) (hj : j < 10) : LtS (fun i => tx (writS W T i)) p j ↔ SufGt (fun a b => b < a) W 10 p j := by
  rw [LtS_tx, writ_is, writ_is, lex_app]
  refine fl_lt (fun a => Nat.lt_irrefl a) (fun a b c h1 h2 => Nat.lt_trans h2 h1) (fun a b h => (Nat.lt_or_gt_of_ne h).symm) ?_ ?_ hW hp hj
  · intro a b ha hb hab r r'
    have h5 : T % 5 < 5 := Nat.mod_lt _ (by decide)
    generalize T % 5 = h at *
    rcases (lt5c (by first | assumption | omega) : h = 0 ∨ h = 1 ∨ h = 2 ∨ h = 3 ∨ h = 4) with rfl | rfl | rfl | rfl | rfl <;> rcases lt3c ha with rfl | rfl | rfl <;> rcases lt3c hb with rfl | rfl | rfl <;> first | omega | skip
    · exact lex_dif (x := 108) (y := 113) (by decide) [38]
    · exact lex_dif (x := 103) (y := 113) (by decide) [38]
    · exact lex_dif (x := 103) (y := 108) (by decide) [38]
    · exact lex_dif (x := 38) (y := 62) (by decide) []
    · exact lex_dif (x := 38) (y := 62) (by decide) []
    · exact lex_dif (x := 108) (y := 113) (by decide) [38]
    · exact lex_dif (x := 38) (y := 60) (by decide) []
    · exact lex_dif (x := 38) (y := 60) (by decide) []
    · exact lex_dif (x := 103) (y := 113) (by decide) [38]
    · exact lex_dif (x := 103) (y := 108) (by decide) [38]
    · exact lex_dif (x := 34) (y := 38) (by decide) []
    · exact lex_dif (x := 34) (y := 38) (by decide) []
    · exact lex_dif (x := 103) (y := 108) (by decide) [38]
    · exact lex_dif (x := 34) (y := 38) (by decide) []
    · exact lex_dif (x := 34) (y := 38) (by decide) []
  · intro a ha
    have h5 : T % 5 < 5 := Nat.mod_lt _ (by decide)
    generalize T % 5 = h at *
    rcases (lt5c (by first | assumption | omega) : h = 0 ∨ h = 1 ∨ h = 2 ∨ h = 3 ∨ h = 4) with rfl | rfl | rfl | rfl | rfl <;> rcases lt3c ha with rfl | rfl | rfl <;> decide +kernel
end
/-! text LawI -/
section
def dig (W : Nat → Nat) (T p : Nat) : Nat := dgT T (W p)
def octN (W : Nat → Nat) (T size p : Nat) : Nat := dig W T p + 64 * (decide (p + 1 < size)).toNat + 128 * ((p + size / 2) % 2)
def TapeL (W : Nat → Nat) (T : Nat) (vs : List Value) (i j : Nat) : Prop := vs.length = off i + j ∧ ∀ i' j', (i' < i ∧ j' ≤ i') ∨ (i' = i ∧ j' < j) → ∃ t, vs[off i' + j']? = some (.int (octN W T (i' + 1) j' : Int) t)
theorem TapeL.nil {W : Nat → Nat} {T : Nat} : TapeL W T [] 0 0 := ⟨rfl, fun i' j' h => by omega⟩
theorem TapeL.turn {W : Nat → Nat} {T i : Nat} {vs : List Value} (h : TapeL W T vs i (i + 1)) : TapeL W T vs (i + 1) 0 :=
  ⟨by rw [h.1]; rfl, fun i' j' q => h.2 i' j' (by omega)⟩
theorem TapeL.snoc {W : Nat → Nat} {T i j : Nat} {vs : List Value} (h : TapeL W T vs i j) (t : Tok) : TapeL W T (vs ++ [.int (octN W T (i + 1) j : Int) t]) i (j + 1) := by
  refine ⟨by rw [List.length_append, h.1]; rfl, fun i' j' q => ?_⟩
  by_cases e : i' = i ∧ j' = j
  · obtain ⟨rfl, rfl⟩ := e
    exact ⟨t, by rw [List.getElem?_append_right (by rw [h.1]; exact Nat.le_refl _), h.1]; simp⟩
  · have hlt : off i' + j' < off i + j := by
      rcases q with q | q
      · have := off_mono (show i' + 1 ≤ i by omega)
        have : off (i' + 1) = off i' + (i' + 1) := rfl
        omega
      · obtain ⟨rfl, q⟩ := q; omega
    rw [List.getElem?_append_left (by rw [h.1]; exact hlt)]
    exact h.2 i' j' (by omega)
section
variable {w : World} {A : Around} {E : Value → Shared → Prop} {g : Heap} {s₀ s : Shared} {env : Env} {L : Addr} {m : Str → Option Value} {st : Stmt} {Q : Flow → Shared → Prop} {c1 c2 c3 c4 c5 c6 c7 c8 c9 c10 c11 : Option Value} {rest : List Ent} {T : Nat} {W : Nat → Nat} {aw ad at' : Addr} {ws ds : List Value}
set_option maxHeartbeats 1000000 in
theorem law_s14 (hst : st = lawStmt w.params 14) (henv : env = lawEnv w.params L) (G : Gd w g) (hh : A.handled = none) (haw : HasAt g aw (oList ws)) (hw : IntL ws 10 fun j => (W j : Int)) (hW : ∀ j, j < 10 → W j < 3) (had : HasAt g ad (oList ds)) (hds : IntL ds 3 fun i => (dgT T i : Int))
    (hm1 : m "digits" = some (.ref ad)) (hm2 : m "tape" = some (.ref at')) {K : (PySem.Str → Option Value) → Prop} (hK : K m) (hKu : ∀ m x v, x = Str.ofString "size" ∨ x = Str.ofString "place" → K m → K (upd m x v))
    (H : Ok g ((L, oNs m) :: (Cl11 L (some (.ref aw)) c2 c3 c4 c5 c6 c7 c8 c9 c10 c11 ++ [(at', oList [])])) s₀ s)
    (k : ∀ m' vs s', K m' → m' "tape" = some (.ref at') → TapeL W T vs 10 0 → Ok g ((L, oNs m') :: (Cl11 L (some (.ref aw)) c2 c3 c4 c5 c6 c7 c8 c9 c10 c11 ++ [(at', oList vs)])) s₀ s' → Q .next s') : wpAny (model PW w) A (exec st env) Q E s := by
  subst hst henv
  walk_at "lit"
  repeat walk_at "m"
  rename_i hr
  rename Ok _ _ _ _ => H1
  refine p_rangeE (n := 10) H1 hr (by decide) (by decide) (by decide) (by decide) (by rw [rangeSize_one]; rfl) fun it s2 H2 => ?_
  clear H1
  refine for_rangeE (L := L) hh rfl rfl rfl 1 10 (J := fun i g' m' ms' => g' = g ∧ K m' ∧ m' "digits" = some (.ref ad) ∧ m' "tape" = some (.ref at') ∧ ∃ vs, ms' = Cl11 L (some (.ref aw)) c2 c3 c4 c5 c6 c7 c8 c9 c10 c11 ++ [(at', oList vs)] ∧ TapeL W T vs i 0) it ?turn ?fin ⟨rfl, hK, hm1, hm2, [], rfl, TapeL.nil⟩ H2
  case fin =>
    rintro g' m' ms' s' ⟨rfl, hK', _, hm2', vs, rfl, hT⟩ H'
    exact ⟨.next, rfl, k m' vs s' hK' hm2' hT H'⟩
  case turn =>
    rintro i g' m' ms' s' o t c hc hi ⟨rfl, hK', hm1', hm2', vs, rfl, hT⟩ H'
    clear H2
    rw [List.append_assoc] at H'
    repeat walk_at "m"
    rename_i hr2
    rename Ok _ _ _ _ => H3
    obtain rfl : c = ((i + 1 : Nat) : Int) := by omega
    refine p_rangeE (n := i + 1) H3 hr2 (by omega) (by omega) (by omega) (by omega) (by rw [rangeSize_one]; split <;> omega) fun it2 s4 H4 => ?_
    clear H3
    refine for_rangeE (L := L) hh rfl rfl rfl 0 (i + 1) (J := fun j g2 m2 ms2 => g2 = g' ∧ K m2 ∧ m2 "digits" = some (.ref ad) ∧ m2 "tape" = some (.ref at') ∧ (∃ t, m2 "size" = some (.int ((i + 1 : Nat) : Int) t)) ∧ ∃ vs, ms2 = Cl11 L (some (.ref aw)) c2 c3 c4 c5 c6 c7 c8 c9 c10 c11 ++ [(at', oList vs), (it, oIs o)] ∧ TapeL W T vs i j) it2 ?turn ?fin ⟨rfl, hKu _ _ _ (.inl rfl) hK', by walk_at "lk", by walk_at "lk", ⟨_, by walk_at "lk"⟩, vs, rfl, hT⟩ H4
    case fin =>
      rintro g2 m2 ms2 s5 ⟨rfl, hK2, hm12, hm22, _, vs2, rfl, hT2⟩ H5
      clear H4
      refine ⟨.next, rfl, ?_⟩
      repeat walk_at "m"
      exact ⟨rfl, g2, m2, _, ⟨rfl, hK2, hm12, hm22, vs2, rfl, hT2.turn⟩, H5.assoc⟩
    case turn =>
      rintro j g2 m2 ms2 s5 o2 t2 c hc2 hj ⟨rfl, hK2, hm12, hm22, ⟨t3, hm32⟩, vs2, rfl, hT2⟩ H5
      clear H4
      obtain rfl : c = (j : Int) := by omega
      rw [List.append_assoc] at H5
      simp only [List.cons_append, List.nil_append] at H5
      obtain ⟨t7, y7⟩ := hw.2 j (by omega)
      have hWj := hW j (by omega)
      obtain ⟨t8, y8⟩ := hds.2 (W j) (by omega)
      dsimp only at y7 y8
      repeat walk_at "m"
      refine i_itemN (by assumption) (.inr haw) (by omega) y7 (by with_unfolding_all rfl) ?_
      repeat walk_at "m"
      refine i_itemN (by assumption) (.inr had) (by omega) y8 (by with_unfolding_all rfl) ?_
      repeat walk_at "m"
      rename_i tk sk H6
      have ev : ((dgT T (W j) : Nat) : Int) + 64 * ((decide ((j : Int) < ((i + 1 : Nat) : Int) - 1)).toNat : Int) + 128 * (((j : Int) + ((i + 1 : Nat) : Int) / 2) % 2) = ((octN W T (i + 1) j : Nat) : Int) := by
        have ed : decide ((j : Int) < ((i + 1 : Nat) : Int) - 1) = decide (j + 1 < i + 1) := by rw [decide_eq_decide]; omega
        rw [ed]
        unfold octN dig
        push_cast
        rfl
      rw [ev]
      have hz := off_mono (show i ≤ 9 by omega)
      have hz' : off 9 = 45 := rfl
      have hz2 := hT2.1
      refine b_app 12 H6 rfl (by omega) fun s7 H7 => ⟨rfl, ?_⟩
      clear H6
      repeat walk_at "m"
      have H8 : Ok g2 ((L, oNs (upd m2 (Str.ofString "place") (.int (j : Int) t2))) :: ((Cl11 L (some (.ref aw)) c2 c3 c4 c5 c6 c7 c8 c9 c10 c11 ++ [(at', oList (vs2 ++ [.int ((octN W T (i + 1) j : Nat) : Int) tk])), (it, oIs o)]) ++ [(it2, oIs o2)])) s₀ s7 := H7
      exact ⟨rfl, g2, _, _, ⟨rfl, hKu _ _ _ (.inr rfl) hK2, by walk_at "lk", by walk_at "lk", ⟨t3, by walk_at "lk"⟩, _, rfl, hT2.snoc _⟩, H8⟩
end
end
/-! text P4 -/
section
theorem dgT_lt {T i : Nat} (h : i < 3) : dgT T i < 64 := by
  unfold dgT
  rcases lt3c h with rfl | rfl | rfl
  · show T % 21 < 64; omega
  · show 21 + T / 3 % 21 < 64; omega
  · show 42 + T / 7 % 22 < 64; omega
theorem dgT_mono {T i j : Nat} (hi : i < 3) (hj : j < 3) : dgT T i < dgT T j ↔ i < j := by
  have e0 : dgT T 0 = T % 21 := rfl
  have e1 : dgT T 1 = 21 + T / 3 % 21 := rfl
  have e2 : dgT T 2 = 42 + T / 7 % 22 := rfl
  rcases lt3c hi with rfl | rfl | rfl <;> rcases lt3c hj with rfl | rfl | rfl <;> simp only [e0, e1, e2] <;> omega
def hd10 (W : Nat → Nat) (T j : Nat) : Int := ((num (dig W T) j : Nat) : Int)
section
variable {W : Nat → Nat} {T : Nat} (hW : ∀ j, j < 10 → W j < 3)
include hW
theorem dig_lt : ∀ r, r < 10 → dig W T r < 64 := fun r hr => dgT_lt (hW r hr)
theorem dig_mono : ∀ i j, i < 10 → j < 10 → (dig W T i < dig W T j ↔ W i < W j) := fun i j hi hj => dgT_mono (hW i hi) (hW j hj)
theorem hd_mod {p : Nat} (hp : p < 10) : hd10 W T (p + 1) % 64 = ((dig W T p : Nat) : Int) := by
  have := dig_lt (T := T) hW p hp
  unfold hd10
  rw [num]
  omega
theorem hd_div {p : Nat} (hp : p < 10) : hd10 W T (p + 1) / 64 = hd10 W T p := by
  have := dig_lt (T := T) hW p hp
  unfold hd10
  rw [num]
  omega
theorem gap_is {t : T3} (h : RepMin (hd10 W T) 10 t) : t.2.1 ≤ 10 ∧ (t.2.1 = 10 ∧ gapOf (hd10 W T) t = 0 ∨ t.2.1 < 10 ∧ W t.2.1 ≠ W (t.2.1 - t.2.2) ∧ gapOf (hd10 W T) t = ((dig W T t.2.1 : Nat) : Int) - ((dig W T (t.2.1 - t.2.2) : Nat) : Int) ∧ t.2.1 - t.2.2 < 10) := by
  obtain ⟨f, e, st⟩ := t
  rw [repMin_iff (h := hd10 W T) (dig_lt (T := T) hW) (fun j _ => rfl) (dig_mono (T := T) hW)] at h
  have r := h.1
  have h1 := r.one
  have h2 := r.two
  have h3 := r.le
  dsimp only
  refine ⟨h3, ?_⟩
  by_cases q : e = 10
  · exact .inl ⟨q, if_pos q⟩
  · refine .inr ⟨by omega, r.right (e - st) (by omega) (by omega), ?_, by omega⟩
    unfold gapOf
    dsimp only
    rw [if_neg q, hd_mod hW (by omega), show e + 1 - st = (e - st) + 1 by omega, hd_mod hW (by omega)]
theorem gap_le {t : T3} (h : RepMin (hd10 W T) 10 t) : gapOf (hd10 W T) t ≤ 0 ↔ t.2.1 = 10 ∨ W t.2.1 < W (t.2.1 - t.2.2) := by
  obtain ⟨h0, h1 | ⟨h1, h2, h3, h4⟩⟩ := gap_is hW h
  · rw [h1.2]; exact ⟨fun _ => .inl h1.1, fun _ => Int.le_refl _⟩
  · have a := dig_mono (T := T) hW t.2.1 (t.2.1 - t.2.2) h1 h4
    have b := dig_mono (T := T) hW (t.2.1 - t.2.2) t.2.1 h4 h1
    rw [h3]; omega
theorem gap_ge {t : T3} (h : RepMin (hd10 W T) 10 t) : 0 ≤ gapOf (hd10 W T) t ↔ t.2.1 = 10 ∨ W (t.2.1 - t.2.2) < W t.2.1 := by
  obtain ⟨h0, h1 | ⟨h1, h2, h3, h4⟩⟩ := gap_is hW h
  · rw [h1.2]; exact ⟨fun _ => .inl h1.1, fun _ => Int.le_refl _⟩
  · have a := dig_mono (T := T) hW t.2.1 (t.2.1 - t.2.2) h1 h4
    have b := dig_mono (T := T) hW (t.2.1 - t.2.2) t.2.1 h4 h1
    rw [h3]; omega
theorem law_lesser (t : T3) : (∃ p, p < 10 ∧ LedAt (fun j => (W j : Int)) (LtS fun p => tx (sentS W T p)) 10 p t) ↔ RepMin (hd10 W T) 10 t ∧ gapOf (hd10 W T) t ≤ 0 := by
  rw [plain (h := hd10 W T) (d := dig W T) (W := W) (lt := (· < ·)) (dig_lt hW) (fun j _ => rfl) (dig_mono hW) (fun j _ => rfl) (fun p j hp hj => sent_gt hW hp hj) (fun a => Nat.lt_irrefl a) (fun a b c => Nat.lt_trans) (fun a b h => Nat.lt_or_gt_of_ne h) t]
  exact ⟨fun ⟨a, b⟩ => ⟨a, (gap_le hW a).mpr b⟩, fun ⟨a, b⟩ => ⟨a, (gap_le hW a).mp b⟩⟩
theorem law_greater (t : T3) : (∃ p, p < 10 ∧ LedAt (fun j => (W j : Int)) (LtS fun p => tx (writS W T p)) 10 p t) ↔ RepMin (hd10 W T) 10 t ∧ 0 ≤ gapOf (hd10 W T) t := by
  rw [plain (h := hd10 W T) (d := dig W T) (W := W) (lt := fun a b => b < a) (dig_lt hW) (fun j _ => rfl) (dig_mono hW) (fun j _ => rfl) (fun p j hp hj => writ_gt hW hp hj) (fun a => Nat.lt_irrefl a) (fun a b c h1 h2 => Nat.lt_trans h2 h1) (fun a b h => (Nat.lt_or_gt_of_ne h).symm) t]
  exact ⟨fun ⟨a, b⟩ => ⟨a, (gap_ge hW a).mpr b⟩, fun ⟨a, b⟩ => ⟨a, (gap_ge hW a).mp b⟩⟩
end
/-- two rows in order with the same members are one -/
theorem same_sorted {T U : List T3} (hT : T.Nodup) (hU : U.Nodup) (sT : T.Pairwise lt3) (sU : U.Pairwise lt3) (h : ∀ t, t ∈ T ↔ t ∈ U) : T = U := by
  have hp : T.Perm U := (List.perm_ext_iff_of_nodup hT hU).mpr h
  exact hp.eq_of_pairwise (fun x y _ _ h1 h2 => (lt3_asym h1 h2).elim) sT sU
end
/-! text LawJ -/
section
section
variable {w : World} {A : Around} {E : Value → Shared → Prop} {g : Heap} {s₀ s : Shared} {env : Env} {L : Addr} {m : Str → Option Value} {st : Stmt} {Q : Flow → Shared → Prop} {c1 c2 c3 c4 c5 c6 c7 c8 c9 c10 c11 : Option Value} {rest : List Ent} {T : Nat} {W : Nat → Nat} {tl it : Addr} {vs : List Value}
set_option maxHeartbeats 1000000 in
theorem law_s15 (hst : st = lawStmt w.params 15) (henv : env = lawEnv w.params L) (G : Gd w g) (hm : m "tape" = some (.ref tl)) (hr : HasAt g tl (oList vs))
    (H : Ok g ((L, oNs m) :: (Cl11 L c1 c2 c3 c4 c5 c6 c7 c8 c9 c10 c11 ++ [])) s₀ s)
    (k : ∀ it s', Ok g ((L, oNs m) :: (Cl11 L c1 c2 c3 c4 c5 c6 c7 c8 c9 (some (.ref it)) c11 ++ [(it, oLit tl 0)])) s₀ s' → Q .next s') : wpAny (model PW w) A (exec st env) Q E s := by
  subst hst henv
  walk_at "lit"
  repeat walk_at "m"
  rename_i it s2 H2
  have H3 := H2.toEnd
  clear H2
  rw [List.cons_append, List.append_assoc, List.nil_append] at H3
  repeat walk_at "m"
  rename Ok _ _ _ _ => H4
  exact k it _ H4
set_option maxHeartbeats 1000000 in
theorem law_s16 (hst : st = lawStmt w.params 16) (henv : env = lawEnv w.params L) (G : Gd w g) (hh : A.handled = none) (hroom : A.depth < recursionLimit) (hW : ∀ j, j < 10 → W j < 3) (hr : HasAt g tl (oList vs)) (hT : TapeL W T vs 10 0)
    (H : Ok g ((L, oNs m) :: (Cl11 L c1 c2 c3 c4 c5 c6 c7 c8 c9 (some (.ref it)) c11 ++ [(it, oLit tl 0)])) s₀ s)
    (k : ∀ a hs g' s', Sub g g' → HasAt g' a (oList hs) → IntL hs 11 (fun j => ((num (dig W T) j : Nat) : Int)) → Ok g' ((L, oNs (upd m "heads" (.ref a))) :: (Cl11 L c1 c2 c3 c4 c5 c6 c7 c8 c9 (some (.ref it)) c11 ++ [])) s₀ s' → Q .next s') : wpAny (model PW w) A (exec st env) Q E s := by
  subst hst henv
  walk_at "lit"
  repeat walk_at "m"
  rename_i t0 sx H1
  refine n_listF H1 (by simp) fun a0 g1 s2 hg1 ha0 H2 => ?_
  clear H1
  have G1 := G.sub hg1
  refine e_comp (by intro _; with_unfolding_all rfl) rfl rfl (by decide) ?_
  repeat walk_at "m"
  rename_i hrg
  rename Ok _ _ _ _ => H3
  refine p_rangeI (n := 10) H3 hrg (by decide) (by decide) (by decide) (by decide) (by rw [rangeSize_one]; rfl) fun it2 s4 H4 => ?_
  clear H3
  refine comp_walk (itk_range it2 0 10) hh (by omega) (by decide) rfl rfl (fun i g' ys ms' => Sub g1 g' ∧ IntL ys i (fun j => ((num (dig W T) (j + 1) : Nat) : Int)) ∧ ms' = (L, oNs m) :: (Cl11 L c1 c2 c3 c4 c5 c6 c7 c8 c9 (some (.ref it)) c11 ++ [(it, oLit tl (off i))])) ?hJ ?turn ?fin ⟨Sub.refl _, ⟨rfl, fun i hi => absurd hi (Nat.not_lt_zero _)⟩, rfl⟩ H4
  case hJ => rintro i g' ys ms' ⟨h1, h, _⟩; exact ⟨trivial, h.1⟩
  case turn =>
    rintro i g' ys ms' C acc mC s3 v hi ⟨hg, hy, rfl⟩ ⟨tv, rfl⟩ hm H5
    clear H4
    have hg' := hg1.trans hg
    have hr' := hr.sub hg'
    have G' := G.sub hg'
    repeat walk_at "m"
    rename Ok _ _ _ _ => H6
    refine wpAny_call ?_
    refine parse_call (len := i + 1) (i := off i) (d := dig W T) 15 H6 G' hh hroom rfl hr' (by omega) (by omega) ?_ ?_ ?_
    · intro r hr
      have := hW r (by omega)
      unfold dig dgT
      rcases (lt3c (by first | assumption | omega) : W r = 0 ∨ W r = 1 ∨ W r = 2) with e | e | e <;> rw [e]
      · show T % 21 < 64; omega
      · show 21 + T / 3 % 21 < 64; omega
      · show 42 + T / 7 % 22 < 64; omega
    · intro r hr
      obtain ⟨t, e⟩ := hT.2 i r (.inl ⟨hi, by omega⟩)
      exact ⟨(r + (i + 1) / 2) % 2, t, Nat.mod_lt _ (by omega), e⟩
    · intro s' t' H7
      refine ⟨g', _, ⟨hg, hy.snoc _, rfl⟩, H7⟩
  case fin =>
    rintro g' ys ms' C acc mC s3 ⟨hg, hy, rfl⟩ H5
    refine compPost_valF H5 fun g2 s4 h1 h2 H6 => ?_
    clear H5
    refine l_add H6 (.inr (ha0.sub (hg.trans h1))) (.inr h2) (by have := hy.1; simp; omega) fun c g3 s5 hg3 hc H7 => ?_
    clear H6
    repeat walk_at "m"
    rename Ok _ _ _ _ => H8
    have H9 : Ok g3 (((L, oNs (upd m (Str.ofString "heads") (.ref c))) :: (Cl11 L c1 c2 c3 c4 c5 c6 c7 c8 c9 (some (.ref it)) c11)) ++ [(it, oLit tl (off 10))]) s₀ _ := H8
    obtain ⟨g4, h41, h42, H10⟩ := H9.settle
    refine k c _ g4 _ ((hg1.trans (hg.trans (h1.trans hg3))).trans h41) (hc.sub h41) ⟨?_, fun j hj => ?_⟩ H10
    · have := hy.1; simp; omega
    · cases j with
      | zero => exact ⟨t0, rfl⟩
      | succ j => exact hy.2 j (by omega)
end
end
/-! text LawK -/
section
section
variable {w : World} {A : Around} {E : Value → Shared → Prop} {g : Heap} {s₀ s : Shared} {env : Env} {L : Addr} {m : Str → Option Value} {st : Stmt} {Q : Flow → Shared → Prop} {c1 c2 c3 c4 c5 c6 c7 c8 c9 c10 c11 : Option Value} {rest : List Ent} {h : Nat → Int} {ah a1 a2 : Addr} {hs : List Value}
theorem exec_cut (V : Shared → Prop) (hc : ∀ Q' : Flow → Shared → Prop, (∀ s', V s' → Q' .next s') → wpAny (model PW w) A (exec st env) Q' E s) (k : ∀ s', V s' → Q .next s') : wpAny (model PW w) A (exec st env) Q E s := hc Q k
set_option maxHeartbeats 1000000 in
theorem law_s17 (hst : st = lawStmt w.params 17) (henv : env = lawEnv w.params L) (hh : A.handled = none)
    (H : Ok g ((L, oNs m) :: (Cl11 L c1 c2 c3 c4 c5 c6 c7 c8 c9 c10 c11 ++ [])) s₀ s)
    (k : ∀ a b s', Ok g ((L, oNs (upd (upd m "greater" (.ref b)) "lesser" (.ref a))) :: (Cl11 L c1 c2 c3 c4 c5 c6 c7 c8 c9 c10 c11 ++ [(a, oList []), (b, oList [])])) s₀ s' → Q .next s') : wpAny (model PW w) A (exec st env) Q E s := by
  subst hst henv
  walk_at "lit"
  repeat walk_at "m"
  refine n_listE H (by simp) fun a s1 H1 => ?_
  repeat walk_at "m"
  refine n_listE H1 (by simp) fun b s2 H2 => ?_
  clear H H1
  have H3 : Ok g ((L, oNs m) :: (Cl11 L c1 c2 c3 c4 c5 c6 c7 c8 c9 c10 c11 ++ [(a, oList []), (b, oList [])])) s₀ s2 := H2
  clear H2
  repeat walk_at "m"
  refine n_tupH H3 (by simp) fun ta s4 H4 ht => ?_
  refine u_tupH hh H4 ht rfl fun s5 H5 => ?_
  clear H3 H4
  dsimp only [List.reverse, List.reverseAux]
  repeat walk_at "m"
  rename Ok _ _ _ _ => H6
  exact k a b _ H6
set_option maxHeartbeats 1000000 in
theorem law_s18 (hst : st = lawStmt w.params 18) (henv : env = lawEnv w.params L) (G : Gd w g) (hh : A.handled = none) (hroom : A.depth < recursionLimit) (hu : A.units < 5000) (hm1 : m "heads" = some (.ref ah)) (hm2 : m "lesser" = some (.ref a1)) (hm3 : m "greater" = some (.ref a2)) (har : HasAt g ah (oList hs)) (hhs : IntL hs 11 h)
    {K : (PySem.Str → Option Value) → Prop} (hK : K m) (hKu : ∀ m x v, x = Str.ofString "front" ∨ x = Str.ofString "end" ∨ x = Str.ofString "step" ∨ x = Str.ofString "gap" → K m → K (upd m x v))
    (H : Ok g ((L, oNs m) :: (Cl11 L c1 c2 c3 c4 c5 c6 c7 c8 c9 c10 c11 ++ [(a1, oList []), (a2, oList [])])) s₀ s)
    (k : ∀ m' g' l1 l2 T1 T2 s', K m' → m' "heads" = some (.ref ah) → m' "lesser" = some (.ref a1) → m' "greater" = some (.ref a2) → Sub g g' → TupsAt g' l1 T1 → TupsAt g' l2 T2 → T1.Nodup → T2.Nodup → (∀ t, t ∈ T1 ↔ RepMin h 10 t ∧ gapOf h t ≤ 0) → (∀ t, t ∈ T2 ↔ RepMin h 10 t ∧ 0 ≤ gapOf h t) →
      Ok g' ((L, oNs m') :: (Cl11 L c1 c2 c3 c4 c5 c6 c7 c8 c9 c10 c11 ++ [(a1, oList l1), (a2, oList l2)])) s₀ s' → Q .next s') : wpAny (model PW w) A (exec st env) Q E s := by
  subst hst henv
  walk_at "lit"
  repeat walk_at "m"
  rename Ok _ _ _ _ => H1
  refine wpAny_call ?_
  refine rep_call (n := 10) (h := h) (G.sub H1.keep) hh hroom hu (har.sub H1.keep) hhs (by omega) ?_
  intro a s2 vs T hz hfr q1 q2 q3 q4 hb hT hnd hmem
  have H2 := H1.back q1 q2 q3 q4
  have hni : a ∉ ((L, oNs m) :: (Cl11 L c1 c2 c3 c4 c5 c6 c7 c8 c9 c10 c11 ++ [(a1, oList []), (a2, oList [])])).map (·.1) := fun hm => by
    obtain ⟨p, hp, e⟩ := List.mem_map.mp hm
    obtain ⟨o, ho, _⟩ := H1.at_ p hp
    rw [e, hfr] at ho
    cases ho
  have hnt : NoTups ((L, oNs m) :: (Cl11 L c1 c2 c3 c4 c5 c6 c7 c8 c9 c10 c11 ++ [(a1, oList []), (a2, oList [])])) := noTups_cons nt_ns (NoTups.app noTups_cl (noTups_cons nt_list (noTups_cons nt_list noTups_nil)))
  have hT2 := H2.tups hnt hT
  have hb2 := gnd_has hb hni
  have hgs := H2.gsub
  have H3 := H2.freeze
  generalize gnd s2 ((L, oNs m) :: (Cl11 L c1 c2 c3 c4 c5 c6 c7 c8 c9 c10 c11 ++ [(a1, oList []), (a2, oList [])])) = g1 at hT2 hb2 hgs H3
  clear H1 H2 hT hb
  refine p_list H3 (.inr hb2) fun it s4 H4 => ?_
  clear H3
  refine for_tups (L := L) hh rfl rfl rfl rfl rfl (T := T) (J := fun i g' m' ms' => Sub g1 g' ∧ K m' ∧ m' "heads" = some (.ref ah) ∧ m' "lesser" = some (.ref a1) ∧ m' "greater" = some (.ref a2) ∧ ∃ l1 l2, ms' = Cl11 L c1 c2 c3 c4 c5 c6 c7 c8 c9 c10 c11 ++ [(a1, oList l1), (a2, oList l2)] ∧ TupsAt g' l1 ((T.take i).filter fun t => decide (gapOf h t ≤ 0)) ∧ TupsAt g' l2 ((T.take i).filter fun t => decide (0 ≤ gapOf h t)))
    (fun i g' m' ms' q => ⟨hb2.sub q.1, hT2.sub q.1⟩) ?turn ?fin ⟨Sub.refl _, hK, hm1, hm2, hm3, [], [], rfl, .nil, .nil⟩ H4
  case fin =>
    rintro g' m' ms' s5 ⟨hg, hK', e1, e2, e3, l1, l2, rfl, t1, t2⟩ H5
    rw [List.take_length] at t1 t2
    refine ⟨.next, rfl, k m' g' l1 l2 _ _ s5 hK' e1 e2 e3 (hgs.trans hg) t1 t2 (hnd.filter _) (hnd.filter _) (fun t => ?_) (fun t => ?_) H5⟩
    · rw [List.mem_filter, hmem, decide_eq_true_eq]
    · rw [List.mem_filter, hmem, decide_eq_true_eq]
  case turn =>
    rintro i g' m' ms' s5 ⟨f, e, st⟩ tx ty tz hti ⟨hg, hK', e1, e2, e3, l1, l2, rfl, t1, t2⟩ H5
    clear H4
    have hR := (hmem _).mp (List.mem_of_getElem? hti)
    have h5 := hR.1.1
    have h6 := hR.1.2.1
    have h7 := hR.1.2.2.1
    dsimp only at h5 h6 h7 H5
    rw [List.append_assoc] at H5
    simp only [List.cons_append, List.nil_append] at H5
    have G' := G.sub (hgs.trans hg)
    have har' := har.sub (hgs.trans hg)
    walk_at "m"
    walk_at "m"
    refine e_cutH (fun v => ∃ tg, v = .int (gapOf h (f, e, st)) tg) H5 (fun Q' kk => ?_) fun v s6 hv H6 => ?_
    · repeat walk_at "m"
      refine if_dec (fun y => ?_) (fun y => ?_)
      · repeat walk_at "m"
        rename Ok _ _ _ _ => H6
        exact kk _ _ ⟨_, by unfold gapOf; dsimp only; rw [if_pos (by omega)]⟩ H6
      · obtain ⟨t5, y5⟩ := hhs.2 (e + 1) (by omega)
        obtain ⟨t6, y6⟩ := hhs.2 (e + 1 - st) (by omega)
        repeat walk_at "m"
        refine i_item (by assumption) (.inr har') (by omega) (by omega) (by rw [show ((e : Int) + 1).toNat = e + 1 by omega]; exact y5) (by with_unfolding_all rfl) ?_
        repeat walk_at "m"
        refine i_item (by assumption) (.inr har') (by omega) (by omega) (by rw [show ((e : Int) + 1 - (st : Int)).toNat = e + 1 - st by omega]; exact y6) (by with_unfolding_all rfl) ?_
        repeat walk_at "m"
        rename Ok _ _ _ _ => H6
        exact kk _ _ ⟨_, by unfold gapOf; dsimp only; rw [if_neg (by omega)]⟩ H6
    · obtain ⟨tg, rfl⟩ := hv
      clear H5
      have take1 : ∀ p : T3 → Bool, (T.take (i + 1)).filter p = (T.take i).filter p ++ (if p (f, e, st) = true then [(f, e, st)] else []) := fun p => by
        rw [List.take_succ, hti, List.filter_append]
        cases hp : p (f, e, st) <;> simp [hp]
      have hz1 : l1.length ≤ 210 := by
        have a := t1.length
        have b := List.length_filter_le (fun t => decide (gapOf h t ≤ 0)) (T.take i)
        have c := List.length_take_le i T
        have d : (T.take i).length ≤ T.length := by rw [List.length_take]; omega
        omega
      have hz2 : l2.length ≤ 210 := by
        have a := t2.length
        have b := List.length_filter_le (fun t => decide (0 ≤ gapOf h t)) (T.take i)
        have d : (T.take i).length ≤ T.length := by rw [List.length_take]; omega
        omega
      have hK2 : K (upd (upd (upd (upd m' (Str.ofString "front") (.int (f : Int) tx)) (Str.ofString "end") (.int (e : Int) ty)) (Str.ofString "step") (.int (st : Int) tz)) (Str.ofString "gap") (.int (gapOf h (f, e, st)) tg)) := hKu _ _ _ (.inr (.inr (.inr rfl))) (hKu _ _ _ (.inr (.inr (.inl rfl))) (hKu _ _ _ (.inr (.inl rfl)) (hKu _ _ _ (.inl rfl) hK')))
      walk_at "m"
      walk_at "m"
      walk_at "m"
      rename Ok _ _ _ _ => H7
      refine exec_cut (fun s' => ∃ g7 l1', Sub g' g7 ∧ TupsAt g7 l1' ((T.take (i + 1)).filter fun t => decide (gapOf h t ≤ 0)) ∧ Ok g7 ((L, oNs (upd (upd (upd (upd m' (Str.ofString "front") (.int (f : Int) tx)) (Str.ofString "end") (.int (e : Int) ty)) (Str.ofString "step") (.int (st : Int) tz)) (Str.ofString "gap") (.int (gapOf h (f, e, st)) tg))) :: (Cl11 L c1 c2 c3 c4 c5 c6 c7 c8 c9 c10 c11 ++ [(a1, oList l1'), (a2, oList l2), (it, oLit a (i + 1))])) s₀ s') (fun Q' kk => ?_) fun s8 ⟨g7, l1', hg7, t1', H8⟩ => ?_
      · walk_at "m"
        repeat walk_at "m"
        refine if_dec (fun y => ?_) (fun y => ?_)
        · repeat walk_at "m"
          rename Ok _ _ _ _ => H8
          refine n_tup H8 (by simp) fun ta g7 s9 hg7 hta H9 => ?_
          clear H8
          repeat walk_at "m"
          rename Ok _ _ _ _ => H10
          refine b_app 12 H10 rfl (by omega) fun s11 H11 => ⟨rfl, ?_⟩
          repeat walk_at "m"
          have H12 : Ok g7 ((L, oNs (upd (upd (upd (upd m' (Str.ofString "front") (.int (f : Int) tx)) (Str.ofString "end") (.int (e : Int) ty)) (Str.ofString "step") (.int (st : Int) tz)) (Str.ofString "gap") (.int (gapOf h (f, e, st)) tg))) :: (Cl11 L c1 c2 c3 c4 c5 c6 c7 c8 c9 c10 c11 ++ [(a1, oList (l1 ++ [.ref ta])), (a2, oList l2), (it, oLit a (i + 1))])) s₀ s11 := H11
          refine kk _ ⟨g7, l1 ++ [.ref ta], hg7, ?_, H12⟩
          rw [take1, if_pos (by simpa using y)]
          exact (t1.sub hg7).snoc (b := (f, e, st)) ⟨ta, _, _, _, rfl, hta⟩
        · repeat walk_at "m"
          rename Ok _ _ _ _ => H8
          refine kk _ ⟨g', l1, Sub.refl _, ?_, H8⟩
          rw [take1, if_neg (by simpa using y), List.append_nil]
          exact t1
      · clear H7
        repeat walk_at "m"
        refine if_dec (fun y => ?_) (fun y => ?_)
        · repeat walk_at "m"
          rename Ok _ _ _ _ => H9
          refine n_tup H9 (by simp) fun ta g8 s9 hg8 hta H10 => ?_
          clear H9
          repeat walk_at "m"
          rename Ok _ _ _ _ => H11
          refine b_app 13 H11 rfl (by omega) fun s11 H12 => ⟨rfl, ?_⟩
          repeat walk_at "m"
          have H13 : Ok g8 ((L, oNs (upd (upd (upd (upd m' (Str.ofString "front") (.int (f : Int) tx)) (Str.ofString "end") (.int (e : Int) ty)) (Str.ofString "step") (.int (st : Int) tz)) (Str.ofString "gap") (.int (gapOf h (f, e, st)) tg))) :: ((Cl11 L c1 c2 c3 c4 c5 c6 c7 c8 c9 c10 c11 ++ [(a1, oList l1'), (a2, oList (l2 ++ [.ref ta]))]) ++ [(it, oLit a (i + 1))])) s₀ s11 := H12
          refine ⟨rfl, g8, _, _, ⟨hg.trans (hg7.trans hg8), hK2, by walk_at "lk", by walk_at "lk", by walk_at "lk", l1', l2 ++ [.ref ta], rfl, t1'.sub hg8, ?_⟩, H13⟩
          rw [take1, if_pos (by simpa using y)]
          exact (t2.sub (hg7.trans hg8)).snoc (b := (f, e, st)) ⟨ta, _, _, _, rfl, hta⟩
        · repeat walk_at "m"
          rename Ok _ _ _ _ => H9
          have H13 : Ok g7 ((L, oNs (upd (upd (upd (upd m' (Str.ofString "front") (.int (f : Int) tx)) (Str.ofString "end") (.int (e : Int) ty)) (Str.ofString "step") (.int (st : Int) tz)) (Str.ofString "gap") (.int (gapOf h (f, e, st)) tg))) :: ((Cl11 L c1 c2 c3 c4 c5 c6 c7 c8 c9 c10 c11 ++ [(a1, oList l1'), (a2, oList l2)]) ++ [(it, oLit a (i + 1))])) s₀ _ := H9
          refine ⟨rfl, g7, _, _, ⟨hg.trans hg7, hK2, by walk_at "lk", by walk_at "lk", by walk_at "lk", l1', l2, rfl, t1', ?_⟩, H13⟩
          rw [take1, if_neg (by simpa using y), List.append_nil]
          exact t2.sub hg7
end
end
/-! text LawL -/
section
def NoLists (ms : List Ent) : Prop := ∀ p ∈ ms, ∀ o, p.2 o → ∀ vs n, ¬ (o = { cls := .type "list", data := .seq vs n })
section
variable {g : Heap} {ms : List Ent} {s₀ s : Shared} {L : Addr} {m : Str → Option Value}
theorem noLists_cons {p : Ent} (h : ∀ o, p.2 o → ∀ vs n, ¬ (o = { cls := .type "list", data := .seq vs n })) (hm : NoLists ms) : NoLists (p :: ms) := fun q hq => by
  rcases List.mem_cons.mp hq with rfl | hq
  · exact h
  · exact hm q hq
theorem noLists_nil : NoLists [] := fun q hq => nomatch hq
theorem nl_cell {v : Option Value} : ∀ o, oCell v o → ∀ vs n, ¬ (o = { cls := .type "list", data := .seq vs n }) := fun o h vs n q => by
  have h : o.data = _ := h
  rw [q] at h; cases h
theorem nl_ns {m : Str → Option Value} : ∀ o, oNs m o → ∀ vs n, ¬ (o = { cls := .type "list", data := .seq vs n }) := fun o ⟨es, ep, h, _⟩ vs n q => by
  rw [q] at h; cases h
theorem noLists_law {c1 c2 c3 c4 c5 c6 c7 c8 c9 c10 c11 : Option Value} : NoLists ((L, oNs m) :: (Cl11 L c1 c2 c3 c4 c5 c6 c7 c8 c9 c10 c11 ++ [])) :=
  noLists_cons nl_ns <| noLists_cons nl_cell <| noLists_cons nl_cell <| noLists_cons nl_cell <| noLists_cons nl_cell <| noLists_cons nl_cell <| noLists_cons nl_cell <| noLists_cons nl_cell <| noLists_cons nl_cell <| noLists_cons nl_cell <| noLists_cons nl_cell <| noLists_cons nl_cell noLists_nil
theorem noTups_law {c1 c2 c3 c4 c5 c6 c7 c8 c9 c10 c11 : Option Value} : NoTups ((L, oNs m) :: (Cl11 L c1 c2 c3 c4 c5 c6 c7 c8 c9 c10 c11 ++ [])) := noTups_cons nt_ns (NoTups.app noTups_cl noTups_nil)
theorem Ok.lists {a : Addr} {vs : List Value} (H : Ok g ms s₀ s) (hm : NoLists ms) (h : HasAt s.heap a (oList vs)) : HasAt (gnd s ms) a (oList vs) := gnd_has h fun hm' => by
  obtain ⟨p, hp, rfl⟩ := List.mem_map.mp hm'
  obtain ⟨o, e1, p1⟩ := H.at_ p hp
  obtain ⟨o', e2, n, d⟩ := h
  rw [e1] at e2
  cases e2
  exact hm p hp o p1 _ _ d
end
section
variable {w : World} {A : Around} {E : Value → Shared → Prop} {g : Heap} {s₀ s : Shared} {env : Env} {L : Addr} {m : Str → Option Value} {st : Stmt} {Q : Flow → Shared → Prop} {c1 c2 c3 c4 c5 c6 c7 c8 c9 c10 c11 : Option Value} {rest : List Ent} {T : Nat} {W : Nat → Nat} {aw as' ar a1 a2 : Addr} {ws ss rs l1 l2 : List Value} {T1 T2 : List T3}
set_option maxHeartbeats 1000000 in
theorem law_s19 (hst : st = lawStmt w.params 19) (henv : env = lawEnv w.params L) (G : Gd w g) (hh : A.handled = none) (hroom : A.depth < recursionLimit) (hu : A.units < 5000) (haw : HasAt g aw (oList ws)) (hw : IntL ws 10 fun j => (W j : Int))
    (hm1 : m "sent" = some (.ref as')) (has : HasAt g as' (oList ss)) (hss : StrL ss 10 fun p => tx (sentS W T p)) (hm2 : m "written" = some (.ref ar)) (har : HasAt g ar (oList rs)) (hrs : StrL rs 10 fun p => tx (writS W T p))
    (hm3 : m "lesser" = some (.ref a1)) (hm4 : m "greater" = some (.ref a2)) (ha1 : HasAt g a1 (oList l1)) (ha2 : HasAt g a2 (oList l2)) (hT1 : TupsAt g l1 T1) (hT2 : TupsAt g l2 T2) (n1 : T1.Nodup) (n2 : T2.Nodup)
    (k1 : ∀ t, t ∈ T1 ↔ ∃ p, p < 10 ∧ LedAt (fun j => (W j : Int)) (LtS fun p => tx (sentS W T p)) 10 p t) (k2 : ∀ t, t ∈ T2 ↔ ∃ p, p < 10 ∧ LedAt (fun j => (W j : Int)) (LtS fun p => tx (writS W T p)) 10 p t)
    (H : Ok g ((L, oNs m) :: (Cl11 L (some (.ref aw)) c2 c3 c4 c5 c6 c7 c8 c9 c10 c11 ++ [])) s₀ s)
    (k : ∀ g' s', Sub g g' → Ok g' ((L, oNs m) :: (Cl11 L (some (.ref aw)) c2 c3 c4 c5 c6 c7 c8 c9 c10 c11 ++ [])) s₀ s' → Q .next s') : wpAny (model PW w) A (exec st env) Q E s := by
  subst hst henv
  walk_at "lit"
  repeat walk_at "m"
  rename Ok _ _ _ _ => H1
  refine wpAny_call ?_
  refine led_call (n := 10) (k := fun j => (W j : Int)) (σ := fun p => tx (sentS W T p)) (G.sub H1.keep) hh hroom hu (haw.sub H1.keep) hw (has.sub H1.keep) hss (by omega) ?_
  intro a s2 vs U hz q1 q2 q3 q4 hb hU hS hnd hmem
  have H2 := H1.back q1 q2 q3 q4
  have hU2 := H2.tups noTups_law hU
  have hb2 := H2.lists noLists_law hb
  have hgs := H2.gsub
  have H3 := H2.freeze
  generalize gnd s2 ((L, oNs m) :: (Cl11 L (some (.ref aw)) c2 c3 c4 c5 c6 c7 c8 c9 c10 c11 ++ [])) = g1 at hU2 hb2 hgs H3
  clear H1 H2 hU hb
  have G1 := G.sub hgs
  repeat walk_at "m"
  rename Ok _ _ _ _ => H3
  have hp1 : U.Perm T1 := (List.perm_ext_iff_of_nodup hnd n1).mpr fun t => (hmem t).trans (k1 t).symm
  refine b_sorted H3 (.inr (ha1.sub hgs)) (hT1.sub hgs) n1 (by rw [← hp1.length_eq]; omega) (by omega) fun a' g2 vs' U' s4 hg2 hb3 hU3 hp2 hS2 H4 => ?_
  clear H3
  refine ne_tups H4 ((hb2.sub hg2).sub H4.keep) ((hU2.sub hg2).sub H4.keep) (hb3.sub H4.keep) (hU3.sub H4.keep) (by omega) ((hp1.trans hp2.symm).eq_of_pairwise (fun x y _ _ h1 h2 => (lt3_asym h1 h2).elim) hS hS2) ?_
  have hg3 := hgs.trans hg2
  have G2 := G.sub hg3
  clear G1
  clear hU3 hb3 hU2 hb2 hp1 hp2 hS hS2 hnd hmem hz q1 q2 q3 q4
  repeat walk_at "m"
  rename Ok _ _ _ _ => H1
  refine wpAny_call ?_
  refine led_call (n := 10) (k := fun j => (W j : Int)) (σ := fun p => tx (writS W T p)) (G2.sub H1.keep) hh hroom hu ((haw.sub hg3).sub H1.keep) hw ((har.sub hg3).sub H1.keep) hrs (by omega) ?_
  intro a s2 vs U hz q1 q2 q3 q4 hb hU hS hnd hmem
  have H2 := H1.back q1 q2 q3 q4
  have hU2 := H2.tups noTups_law hU
  have hb2 := H2.lists noLists_law hb
  have hgs2 := H2.gsub
  have H3 := H2.freeze
  generalize gnd s2 ((L, oNs m) :: (Cl11 L (some (.ref aw)) c2 c3 c4 c5 c6 c7 c8 c9 c10 c11 ++ [])) = g4 at hU2 hb2 hgs2 H3
  clear H1 H2 hU hb
  have G3 := G2.sub hgs2
  clear G2
  repeat walk_at "m"
  rename Ok _ _ _ _ => H3
  have hp1 : U.Perm T2 := (List.perm_ext_iff_of_nodup hnd n2).mpr fun t => (hmem t).trans (k2 t).symm
  refine b_sorted H3 (.inr ((ha2.sub hg3).sub hgs2)) ((hT2.sub hg3).sub hgs2) n2 (by rw [← hp1.length_eq]; omega) (by omega) fun a' g5 vs' U' s4 hg5 hb3 hU3 hp2 hS2 H4 => ?_
  clear H3
  refine ne_tups H4 ((hb2.sub hg5).sub H4.keep) ((hU2.sub hg5).sub H4.keep) (hb3.sub H4.keep) (hU3.sub H4.keep) (by omega) ((hp1.trans hp2.symm).eq_of_pairwise (fun x y _ _ h1 h2 => (lt3_asym h1 h2).elim) hS hS2) ?_
  repeat walk_at "m"
  rename Ok _ _ _ _ => H5
  exact k g5 _ (hg3.trans (hgs2.trans hg5)) H5
end
end
/-! text LawM -/
section
/-- the names of the hand: the head's writing, and each letter's -/
def nmL (h i : Nat) : List Nat := match i with
  | 0 => reps (PH h) preW
  | i + 1 => encW h i
def nmX (h : Nat) : List Nat := nmL h 0 ++ [32] ++ nmL h 1 ++ [32] ++ nmL h 2 ++ [32] ++ nmL h 3
theorem nm_split {h : Nat} (h5 : h < 5) : Builtin.Str.partsBetween (tx (nmX h)) (Builtin.Str.occurrences (tx (nmX h)) (Str.ofString " ") 0 (tx (nmX h)).length ((tx (nmX h)).length + 1)) (Str.ofString " ").length = [tx (nmL h 0), tx (nmL h 1), tx (nmL h 2), tx (nmL h 3)] := by
  rcases (lt5c (by first | assumption | omega) : h = 0 ∨ h = 1 ∨ h = 2 ∨ h = 3 ∨ h = 4) with rfl | rfl | rfl | rfl | rfl <;> decide +kernel
theorem nm_facts {h : Nat} (h5 : h < 5) : (decide ((tx (nmX h)).length < (Str.ofString " ").length) || decide (Builtin.Str.strKind (tx (nmX h)) < Builtin.Str.strKind (Str.ofString " "))) = false ∧ (Builtin.Str.occurrences (tx (nmX h)) (Str.ofString " ") 0 (tx (nmX h)).length ((tx (nmX h)).length + 1)).isEmpty = false ∧ (tx (nmX h)).length ≤ 1000 := by
  rcases (lt5c (by first | assumption | omega) : h = 0 ∨ h = 1 ∨ h = 2 ∨ h = 3 ∨ h = 4) with rfl | rfl | rfl | rfl | rfl <;> decide +kernel
section
variable {w : World} {A : Around} {E : Value → Shared → Prop} {g : Heap} {s₀ s : Shared} {env : Env} {L : Addr} {m : Str → Option Value} {st : Stmt} {Q : Flow → Shared → Prop} {c1 c2 c3 c4 c5 c6 c7 c8 c9 c10 c11 : Option Value} {rest : List Ent} {T : Nat} {t8 : Tok}
set_option maxHeartbeats 1000000 in
theorem law_s20 (hst : st = lawStmt w.params 20) (henv : env = lawEnv w.params L)
    (H : Ok g ((L, oNs m) :: (Cl11 L c1 c2 c3 c4 c5 c6 c7 (some (.int ((T % 5 : Nat) : Int) t8)) c9 c10 c11 ++ rest)) s₀ s)
    (k : ∀ a ns g' s', Sub g g' → HasAt g' a (oList ns) → StrL ns 4 (fun i => tx (nmL (T % 5) i)) → Ok g' ((L, oNs m) :: (Cl11 L c1 c2 c3 c4 c5 c6 c7 (some (.int ((T % 5 : Nat) : Int) t8)) c9 c10 (some (.ref a)) ++ rest)) s₀ s' → Q .next s') : wpAny (model PW w) A (exec st env) Q E s := by
  subst hst henv
  walk_at "lit"
  repeat walk_at "m"
  rename_i H3
  refine n_listF H3 (by simp) fun a g' s4 hg ha H4 => ?_
  clear H3
  repeat walk_at "m"
  rename Ok _ _ _ _ => H5
  have h5 : T % 5 < 5 := Nat.mod_lt _ (by omega)
  have key : ∀ (t1 t2 t3 t4 t5 : Tok), ∃ t, [Value.str (Str.ofString "&amp;'&#13;&#10;&#09; &quot; &lt; &gt;") t1, Value.str (Str.ofString "&amp;'&#xD;&#xA;&#x9; > &quot; &lt;") t2, Value.str (Str.ofString "&amp;'\r\n\t < &quot; &gt;") t3, Value.str (Str.ofString "&amp;'\r\n\t &lt; &gt; \"") t4, Value.str (Str.ofString "&amp;'&#xD;\n\t &lt; &gt; \"") t5][T % 5]? = some (Value.str (tx (nmX (T % 5))) t) := fun t1 t2 t3 t4 t5 => by
    rcases (lt5c (Nat.mod_lt _ (by decide)) : T % 5 = 0 ∨ T % 5 = 1 ∨ T % 5 = 2 ∨ T % 5 = 3 ∨ T % 5 = 4) with h | h | h | h | h <;> rw [h] <;> exact ⟨_, congrArg some (congrArg (fun x => Value.str x _) (by decide +kernel))⟩
  obtain ⟨t9, y9⟩ := key _ _ _ _ _
  refine i_itemN H5 (.inr ha) (by omega) y9 (by with_unfolding_all rfl) ?_
  repeat walk_at "m"
  rename Ok _ _ _ _ => H6
  obtain ⟨f1, f2, f3⟩ := nm_facts h5
  refine b_split H6 f1 (by decide +kernel) f2 f3 (by rw [nm_split h5]; simp) fun a2 g7 s7 hg7 ha2 H7 => ?_
  clear H6
  repeat walk_at "m"
  rename Ok _ _ _ _ => H8
  rw [nm_split h5] at ha2
  refine k a2 _ g7 _ (hg.trans hg7) ha2 ⟨rfl, fun i hi => ?_⟩ H8
  rcases (lt4c (by first | assumption | omega) : i = 0 ∨ i = 1 ∨ i = 2 ∨ i = 3) with rfl | rfl | rfl | rfl <;> exact ⟨_, rfl⟩
theorem law_s22 (hst : st = lawStmt w.params 22) (henv : env = lawEnv w.params L) (h : Q (.ret (.bool true)) s) : wpAny (model PW w) A (exec st env) Q E s := by
  subst hst henv
  walk_at "lit"
  repeat walk_at "m"
  exact h
end
end
/-! text LawN -/
section
theorem TxA.more {ys : List Value} {c : Nat → List Nat} {W : Nat → Nat} {i i2 : Nat} {t : Tok} (hi : i + i2 < 10) (h : TxA ys ((((List.range 10).drop i).take i2).map fun j => c (W j))) : TxA (ys ++ [.str (tx (c (W (i + i2)))) t]) ((((List.range 10).drop i).take (i2 + 1)).map fun j => c (W j)) := by
  have e2 : ((List.range 10).drop i).take (i2 + 1) = ((List.range 10).drop i).take i2 ++ [i + i2] := by
    rw [List.take_add_one, List.getElem?_drop, List.getElem?_range (by omega)]; rfl
  rw [e2, List.map_append]
  exact h.snoc _ _
theorem encS_len {T a : Nat} (h : a < 3) : (encS T a).length ≤ 6 := by
  unfold encS
  rcases lt3c h with rfl | rfl | rfl <;> simp
theorem nmL_len {h a : Nat} (h5 : h < 5) (h4 : a < 4) : (nmL h a).length ≤ 40 := by
  rcases (lt5c (by first | assumption | omega) : h = 0 ∨ h = 1 ∨ h = 2 ∨ h = 3 ∨ h = 4) with rfl | rfl | rfl | rfl | rfl <;> rcases (lt4c (by first | assumption | omega) : a = 0 ∨ a = 1 ∨ a = 2 ∨ a = 3) with rfl | rfl | rfl | rfl <;> decide +kernel
theorem fl_le {c : Nat → List Nat} {W : Nat → Nat} {b p : Nat} (hW : ∀ j, j < 10 → W j < 3) (h : ∀ a, a < 3 → (c a).length ≤ b) : (fl c W 10 p).length ≤ 10 * b := by
  unfold fl
  have : ∀ l : List Nat, (∀ j ∈ l, j < 10) → ((l.map fun j => c (W j)).flatten).length ≤ l.length * b := by
    intro l
    induction l with
    | nil => intro _; simp
    | cons x l ih =>
      intro hx
      rw [List.map_cons, List.flatten_cons, List.length_append, List.length_cons, Nat.add_mul]
      have h1 := h _ (hW x (hx x (.head _)))
      have h2 := ih fun j hj => hx j (.tail _ hj)
      omega
  have h1 := this ((List.range 10).drop p) fun j hj => List.mem_range.mp (List.mem_of_mem_drop hj)
  have h2 : ((List.range 10).drop p).length ≤ 10 := by rw [List.length_drop, List.length_range]; omega
  exact Nat.le_trans h1 (Nat.mul_le_mul_right _ h2)
section
variable {w : World} {A : Around} {E : Value → Shared → Prop} {g : Heap} {s₀ s : Shared} {env : Env} {L : Addr} {m : Str → Option Value} {st : Stmt} {Q : Flow → Shared → Prop} {c1 c2 c3 c4 c5 c6 c7 c8 c9 c10 c11 : Option Value} {rest : List Ent} {T : Nat} {W : Nat → Nat} {t3 t4 t5 : Tok} {aw as' ar ah ad an : Addr} {ws ss rs hs ds ns : List Value}
theorem exec_cut' (V : Shared → Prop) (hc : ∀ Q' : Flow → Shared → Prop, (∀ s', V s' → Q' .next s') → wpAny (model PW w) A (exec st env) Q' E s) (k : ∀ s', V s' → Q .next s') : wpAny (model PW w) A (exec st env) Q E s := hc Q k
set_option maxHeartbeats 1000000 in
theorem law_s21 (hst : st = lawStmt w.params 21) (henv : env = lawEnv w.params L) (G : Gd w g) (hh : A.handled = none) (haw : HasAt g aw (oList ws)) (hw : IntL ws 10 fun j => (W j : Int)) (hW : ∀ j, j < 10 → W j < 3)
    (hm1 : m "sent" = some (.ref as')) (has : HasAt g as' (oList ss)) (hss : StrL ss 10 fun p => tx (sentS W T p)) (hm2 : m "written" = some (.ref ar)) (har : HasAt g ar (oList rs)) (hrs : StrL rs 10 fun p => tx (writS W T p))
    (hm3 : m "heads" = some (.ref ah)) (hah : HasAt g ah (oList hs)) (hhs : IntL hs 11 (hd10 W T)) (hm4 : m "digits" = some (.ref ad)) (had : HasAt g ad (oList ds)) (hds : IntL ds 3 fun i => (dgT T i : Int)) (han : HasAt g an (oList ns)) (hns : StrL ns 4 fun i => tx (nmL (T % 5) i))
    (H : Ok g ((L, oNs m) :: (Cl11 L (some (.ref aw)) c2 (some (.str (tx (ldT T)) t3)) (some (.str (tx [loT T]) t4)) (some (.str (tx [hiT T, 46]) t5)) c6 c7 c8 c9 c10 (some (.ref an)) ++ [])) s₀ s)
    (k : ∀ g' m' s', Sub g g' → Ok g' ((L, oNs m') :: (Cl11 L (some (.ref aw)) c2 (some (.str (tx (ldT T)) t3)) (some (.str (tx [loT T]) t4)) (some (.str (tx [hiT T, 46]) t5)) c6 c7 c8 c9 c10 (some (.ref an)) ++ [])) s₀ s' → Q .next s') : wpAny (model PW w) A (exec st env) Q E s := by
  subst hst henv
  walk_at "lit"
  repeat walk_at "m"
  rename_i hr
  rename Ok _ _ _ _ => H1
  refine p_rangeE (n := 10) H1 hr (by decide) (by decide) (by decide) (by decide) (by rw [rangeSize_one]; rfl) fun it s2 H2 => ?_
  clear H1
  refine for_rangeE (L := L) hh rfl rfl rfl 0 10 (J := fun i g' m' ms' => Sub g g' ∧ m' "sent" = some (.ref as') ∧ m' "written" = some (.ref ar) ∧ m' "heads" = some (.ref ah) ∧ m' "digits" = some (.ref ad) ∧ ms' = Cl11 L (some (.ref aw)) c2 (some (.str (tx (ldT T)) t3)) (some (.str (tx [loT T]) t4)) (some (.str (tx [hiT T, 46]) t5)) c6 c7 c8 c9 c10 (some (.ref an)) ++ []) it ?turn ?fin ⟨Sub.refl _, hm1, hm2, hm3, hm4, rfl⟩ H2
  case fin =>
    rintro g' m' ms' s' ⟨hg, _, _, _, _, rfl⟩ H'
    exact ⟨.next, rfl, k g' m' s' hg H'⟩
  case turn =>
    rintro i g' m' ms' s' o t c hc hi ⟨hg, e1, e2, e3, e4, rfl⟩ H'
    clear H2
    obtain rfl : c = (i : Int) := by omega
    rw [List.append_assoc, List.nil_append] at H'
    have haw' := haw.sub hg
    have has' := has.sub hg
    have har' := har.sub hg
    have hah' := hah.sub hg
    have had' := had.sub hg
    have han' := han.sub hg
    have G' := G.sub hg
    obtain ⟨q1, r1⟩ := hss.2 i hi
    obtain ⟨q2, r2⟩ := hrs.2 i hi
    obtain ⟨q3, r3⟩ := hhs.2 (i + 1) (by omega)
    obtain ⟨q4, r4⟩ := hhs.2 i (by omega)
    obtain ⟨q5, r5⟩ := hw.2 i hi
    obtain ⟨q6, r6⟩ := hds.2 (W i) (hW i hi)
    obtain ⟨q7, r7⟩ := hns.2 0 (by omega)
    dsimp only at r1 r2 r5 r6 r7
    walk_at "m"
    refine exec_cut' (fun s'' => ∃ g7, Sub g' g7 ∧ Ok g7 ((L, oNs (upd m' (Str.ofString "place") (.int (i : Int) t))) :: (Cl11 L (some (.ref aw)) c2 (some (.str (tx (ldT T)) t3)) (some (.str (tx [loT T]) t4)) (some (.str (tx [hiT T, 46]) t5)) c6 c7 c8 c9 c10 (some (.ref an)) ++ [(it, oIs o)])) s₀ s'') (fun Q' kk => ?_) fun s8 ⟨g7, hg7, H8⟩ => ?_
    · repeat walk_at "m"
      refine i_itemN (by assumption) (.inr has') (by omega) r1 (by with_unfolding_all rfl) ?_
      repeat walk_at "m"
      rename Ok _ _ _ _ => H3
      have hld := ldT_len (T := T)
      refine x_upto1 H3.sl (Heap.IsSliceOf.new ..) (by omega) (fun t6 s6 H4 => ?_) (by with_unfolding_all rfl)
      clear H3
      refine x_add (a := ldT T) (b := (ldT T).take 1) H4 (by rw [List.length_take]; omega) fun t7 s7 H5 => ?_
      clear H4
      repeat walk_at "m"
      refine e_comp (by intro _; with_unfolding_all rfl) rfl rfl (by decide) ?_
      repeat walk_at "m"
      rename Ok _ _ _ _ => H6
      refine l_from (n := i) H6.sl (.inr haw') (Heap.IsSliceOf.new ..) (by rw [hw.1]; omega) (fun a2 g5 s5 hg5 ha2 H7 => ?_) (by with_unfolding_all rfl)
      clear H6
      refine p_list H7 (.inr ha2) fun it2 s8 H8 => ?_
      clear H7
      refine comp_walkF (itk_list it2 a2 (ws.drop i)) H8 hh (by rw [List.length_drop, hw.1]; omega) (by decide) rfl rfl (fun i2 g6 ys2 => Sub g5 g6 ∧ ys2.length = i2 ∧ TxA ys2 (((((List.range 10).drop i).take i2).map fun j => encS T (W j)))) ?hJ2 ⟨Sub.refl _, rfl, TxA.nil0⟩ ?turn2 ?fin2
      case hJ2 => rintro i2 g6 ys2 ⟨hg6, h, _⟩; exact ⟨.inr (ha2.sub hg6), h⟩
      case turn2 =>
        rintro i2 g6 ys2 C2 acc2 mC2 s9 v hi2 ⟨hg6, hl2, hy2⟩ hv hm2 H9
        clear H8
        rw [List.length_drop, hw.1] at hi2
        rw [List.getElem?_drop] at hv
        obtain ⟨t8, y8⟩ := hw.2 (i + i2) (by omega)
        rw [hv] at y8
        obtain rfl := Option.some.inj y8
        have hWi := hW (i + i2) (by omega)
        dsimp only at hm2
        repeat walk_at "m"
        rename Ok _ _ _ _ => H10
        refine x_add (a := [hiT T, 46]) (b := [13, 10, 33]) H10 (by simp) fun t11 s11 H11 => ?_
        clear H10
        repeat walk_at "m"
        rename Ok _ _ _ _ => H12
        refine n_listF H12 (by simp) fun al g7 s13 hg7 hal H13 => ?_
        clear H12
        repeat walk_at "m"
        have key : ∀ (u1 u2 u3 : Tok), ∃ t, [Value.str (tx [loT T]) u1, Value.str (Str.ofString "\r\n\r\n..") u2, Value.str (tx ([hiT T, 46] ++ [13, 10, 33])) u3][W (i + i2)]? = some (Value.str (tx (encS T (W (i + i2)))) t) := fun u1 u2 u3 => by
          unfold encS
          rcases lt3c hWi with h | h | h <;> rw [h] <;> exact ⟨_, rfl⟩
        obtain ⟨t9, y9⟩ := key _ _ _
        refine i_itemN (by assumption) (.inr hal) (by omega) y9 (by with_unfolding_all rfl) ?_
        exact ⟨g7, ⟨hg6.trans hg7, by simp [hl2], TxA.more (by omega) hy2⟩, by assumption⟩
      case fin2 =>
        rintro g6 ys2 C2 acc2 mC2 s9 ⟨hg6, hl2, hy2⟩ H9
        refine compPost_valF H9 fun g7 s10 h1 h2 H10 => ?_
        clear H8 H9
        rw [List.length_drop, hw.1, List.take_of_length_le (by rw [List.length_drop, List.length_range]; omega)] at hy2
        have hfl := fl_le (c := encS T) (W := W) (b := 6) (p := i) hW fun a ha => encS_len ha
        repeat walk_at "m"
        rename Ok _ _ _ _ => H11
        refine b_join H11 (.inr h2) hy2 (by unfold fl at hfl; omega) fun t12 s12 H12 => ?_
        clear H11
        repeat walk_at "m"
        rename Ok _ _ _ _ => H13
        refine x_add (a := ldT T ++ (ldT T).take 1) (b := fl (encS T) W 10 i) H13 (by rw [List.length_append, List.length_take]; omega) fun t14 s14 H14 => ?_
        clear H13
        rw [← sent_is hW]
        repeat walk_at "m"
        refine if_dec (fun y => absurd rfl y) (fun y => ?_)
        repeat walk_at "m"
        rename Ok _ _ _ _ => H15
        exact kk _ ⟨g7, hg5.trans (hg6.trans h1), H15⟩
    · have hgg := hg7
      have haw7 := haw'.sub hgg
      have G7 := G'.sub hgg
      walk_at "m"
      walk_at "m"
      refine exec_cut' (fun s'' => ∃ g8, Sub g7 g8 ∧ Ok g8 ((L, oNs (upd m' (Str.ofString "place") (.int (i : Int) t))) :: (Cl11 L (some (.ref aw)) c2 (some (.str (tx (ldT T)) t3)) (some (.str (tx [loT T]) t4)) (some (.str (tx [hiT T, 46]) t5)) c6 c7 c8 c9 c10 (some (.ref an)) ++ [(it, oIs o)])) s₀ s'') (fun Q' kk => ?_) fun s9 ⟨g8, hg8, H9⟩ => ?_
      · clear H'
        have hn7 := han'.sub hgg
        have hr7 := har'.sub hgg
        repeat walk_at "m"
        refine i_itemN (by assumption) (.inr hr7) (by omega) r2 (by with_unfolding_all rfl) ?_
        repeat walk_at "m"
        refine i_item (by assumption) (.inr hn7) (by omega) (by omega) (by exact r7) (by with_unfolding_all rfl) ?_
        repeat walk_at "m"
        rename Ok _ _ _ _ => H10
        have hp5 : T % 5 < 5 := Nat.mod_lt _ (by omega)
        have hnl := nmL_len (a := 0) hp5 (by omega)
        refine x_mul (l := nmL (T % 5) 0) H10 (by omega) (by omega) (by omega) fun t6 s6 H11 => ?_
        clear H10
        repeat walk_at "m"
        refine e_comp (by intro _; with_unfolding_all rfl) rfl rfl (by decide) ?_
        repeat walk_at "m"
        rename Ok _ _ _ _ => H6
        refine l_from (n := i) H6.sl (.inr haw7) (Heap.IsSliceOf.new ..) (by rw [hw.1]; omega) (fun a2 g5 s5 hg5 ha2 H7 => ?_) (by with_unfolding_all rfl)
        clear H6
        refine p_list H7 (.inr ha2) fun it2 s8 H8 => ?_
        clear H7
        refine comp_walkF (itk_list it2 a2 (ws.drop i)) H8 hh (by rw [List.length_drop, hw.1]; omega) (by decide) rfl rfl (fun i2 g6 ys2 => g6 = g5 ∧ ys2.length = i2 ∧ TxA ys2 (((((List.range 10).drop i).take i2).map fun j => encW (T % 5) (W j)))) ?hJ3 ⟨rfl, rfl, TxA.nil0⟩ ?turn3 ?fin3
        case hJ3 => rintro i2 g6 ys2 ⟨rfl, h, _⟩; exact ⟨.inr ha2, h⟩
        case turn3 =>
          rintro i2 g6 ys2 C2 acc2 mC2 s9 v hi2 ⟨rfl, hl2, hy2⟩ hv hm2 H9
          clear H8
          rw [List.length_drop, hw.1] at hi2
          rw [List.getElem?_drop] at hv
          obtain ⟨t8, y8⟩ := hw.2 (i + i2) (by omega)
          rw [hv] at y8
          obtain rfl := Option.some.inj y8
          have hWi := hW (i + i2) (by omega)
          have hn8 := hn7.sub hg5
          obtain ⟨t9, y9⟩ := hns.2 (W (i + i2) + 1) (by omega)
          dsimp only at hm2 y9
          repeat walk_at "m"
          refine i_item (by assumption) (.inr hn8) (by omega) (by omega) (by rw [show ((1 : Int) + ((W (i + i2) : Nat) : Int)).toNat = W (i + i2) + 1 by omega]; exact y9) (by with_unfolding_all rfl) ?_
          exact ⟨g6, ⟨rfl, by simp [hl2], TxA.more (c := encW (T % 5)) (by omega) hy2⟩, by assumption⟩
        case fin3 =>
          rintro g6 ys2 C2 acc2 mC2 s9 ⟨rfl, hl2, hy2⟩ H9
          refine compPost_valF H9 fun g8 s10 h1 h2 H10 => ?_
          clear H8 H9
          rw [List.length_drop, hw.1, List.take_of_length_le (by rw [List.length_drop, List.length_range]; omega)] at hy2
          have hfl := fl_le (c := encW (T % 5)) (W := W) (b := 40) (p := i) hW fun a ha => nmL_len (h := T % 5) (a := a + 1) hp5 (by omega)
          repeat walk_at "m"
          rename Ok _ _ _ _ => H11
          refine b_join H11 (.inr h2) hy2 (by unfold fl at hfl; omega) fun t12 s12 H12 => ?_
          clear H11
          repeat walk_at "m"
          rename Ok _ _ _ _ => H13
          have htl : (times 2 (nmL (T % 5) 0)).length ≤ 100 := by
            show (nmL (T % 5) 0 ++ (nmL (T % 5) 0 ++ [])).length ≤ 100
            rw [List.length_append, List.length_append]
            simp; omega
          refine x_add (a := times 2 (nmL (T % 5) 0)) (b := fl (encW (T % 5)) W 10 i) H13 (by omega) fun t14 s14 H14 => ?_
          clear H13
          have ew : writS W T i = times 2 (nmL (T % 5) 0) ++ fl (encW (T % 5)) W 10 i := writ_is
          rw [← ew]
          repeat walk_at "m"
          refine if_dec (fun y => absurd rfl y) (fun y => ?_)
          repeat walk_at "m"
          rename Ok _ _ _ _ => H15
          exact kk _ ⟨g8, hg5.trans h1, H15⟩
      · clear H' H8
        have hg9 := hg7.trans hg8
        have hh9 := hah'.sub hg9
        have hw9 := haw'.sub hg9
        have hd9 := had'.sub hg9
        have hW3 := hW i hi
        repeat walk_at "m"
        refine i_item (by assumption) (.inr hh9) (by omega) (by omega) (by rw [show ((i : Int) + 1).toNat = i + 1 by omega]; exact r3) (by with_unfolding_all rfl) ?_
        repeat walk_at "m"
        refine i_itemN (by assumption) (.inr hh9) (by omega) r4 (by with_unfolding_all rfl) ?_
        rw [hd_div hW hi]
        repeat walk_at "m"
        refine if_dec (fun y => absurd rfl y) (fun y => ?_)
        repeat walk_at "m"
        refine i_item (by assumption) (.inr hh9) (by omega) (by omega) (by rw [show ((i : Int) + 1).toNat = i + 1 by omega]; exact r3) (by with_unfolding_all rfl) ?_
        repeat walk_at "m"
        refine i_itemN (by assumption) (.inr hw9) (by omega) r5 (by with_unfolding_all rfl) ?_
        repeat walk_at "m"
        refine i_itemN (by assumption) (.inr hd9) (by omega) r6 (by with_unfolding_all rfl) ?_
        rw [hd_mod hW hi]
        repeat walk_at "m"
        refine if_dec (fun y => absurd rfl y) (fun y => ?_)
        repeat walk_at "m"
        rename Ok _ _ _ _ => H16
        exact ⟨rfl, g8, upd m' (Str.ofString "place") (.int (i : Int) t), _, ⟨hg.trans hg9, by walk_at "lk", by walk_at "lk", by walk_at "lk", by walk_at "lk", rfl⟩, H16⟩
end
end
end Mine
end
/-! text J1 -/
section
open PySem PySem.W PySem.Calls PyProof.Rows
set_option maxRecDepth 100000
namespace Mine
theorem IntL.congr {vs : List Value} {n : Nat} {k k' : Nat → Int} (h : IntL vs n k) (e : ∀ i, i < n → k i = k' i) : IntL vs n k' := ⟨h.1, fun i hi => by rw [← e i hi]; exact h.2 i hi⟩
section
variable {w : World} {A : Around} {E : Value → Shared → Prop} {g : Heap} {s₀ s : Shared} {env : Env} {L : Addr} {m : Str → Option Value} {Q : Flow → Shared → Prop}
set_option maxHeartbeats 4000000 in
theorem law_run {st : Nat → Stmt} {a : Addr} {vs : List Value} {n : Nat} {ks : Nat → Int} (hst : ∀ N, st N = lawStmt w.params N) (henv : env = lawEnv w.params L) (G : Gd w g) (hh : A.handled = none) (hroom : A.depth + 1 < recursionLimit) (hu : A.units < 5000)
    (hm : m "script" = some (.ref a)) (hl : g.IsList a vs.toArray) (hI : IntL vs n ks) (H : Ok g ((L, oNs m) :: (Cl11 L none none none none none none none none none none none ++ [])) s₀ s)
    (k : ∀ g' ms' s₀' s', s₀'.gens = s₀.gens → s₀'.os = s₀.os → Sub g g' → Ok g' ms' s₀' s' → Q (.ret (.bool true)) s') :
    wpAny (model PW w) A (execs [st 0, st 1, st 2, st 3, st 4, st 5, st 6, st 7, st 8, st 9, st 10, st 11, st 12, st 13, st 14, st 15, st 16, st 17, st 18, st 19, st 20, st 21, st 22] env) Q E s := by
  refine x_cons (law_s0 (hst 0) henv H fun s1 aw0 ws0 k0 s' hg1 ho1 htk hw0 H1 => nx_next ?_)
  clear H
  refine x_cons (law_s1 (hst 1) henv H1 fun t1 s' H2 => nx_next ?_)
  clear H1
  refine x_cons (law_s2 (hst 2) henv G hh hm hl hI hw0 H2 fun m1 ws1 k1 T tT s' hw1 H3 => nx_next ?_)
  clear H2
  refine x_cons (law_s3 (hst 3) henv hh hw1 H3 fun g1 aw ws s' hs1 haw hw H4 => nx_next ?_)
  clear H3
  obtain ⟨W, hWd⟩ : ∃ W : Nat → Nat, W = fun j => (k1 j % 3).toNat := ⟨_, rfl⟩
  have hwW : IntL ws 10 fun j => (W j : Int) := hw.congr fun i hi => by subst hWd; show k1 i % 3 = ((k1 i % 3).toNat : Int); omega
  have hW : ∀ j, j < 10 → W j < 3 := fun j _ => by subst hWd; show (k1 j % 3).toNat < 3; omega
  clear hw hWd
  refine x_cons (law_s4 (hst 4) henv hh H4 fun t3 t4 s' H5 => nx_next ?_)
  clear H4
  refine x_cons (law_s5 (hst 5) henv H5 fun t5 s' H6 => nx_next ?_)
  clear H5
  refine x_cons (law_s6 (hst 6) henv H6 fun ae g2 es s' hs2 hae hes H7 => nx_next ?_)
  clear H6
  have G2 := (G.sub hs1).sub hs2
  refine x_cons (law_s7 (hst 7) henv G2 hh (haw.sub hs2) hwW hW hae hes H7 fun ad g3 dr s' hs3 had hdr H8 => nx_next ?_)
  clear H7
  refine x_cons (law_s8 (W := W) (T := T) (hst 8) henv (G2.sub hs3) hh (by omega) had hdr H8 fun as' g4 ss s' hs4 has hss H9 => nx_next ?_)
  clear H8
  refine x_cons (law_s9 (hst 9) henv H9 fun t8 s' H10 => nx_next ?_)
  clear H9
  refine x_cons (law_s10 (hst 10) henv H10 fun t9 g5 s' hs5 H11 => nx_next ?_)
  clear H10
  have hs25 := hs3.trans (hs4.trans hs5)
  refine x_cons (law_s11 (hst 11) henv (G2.sub hs25) hh hroom htk ((haw.sub hs2).sub hs25) hwW hW H11 fun ar g6 rs s' hs6 har hrs H12 => nx_next ?_)
  clear H11
  refine x_cons (law_s12 (hst 12) henv H12 fun adg g7 ds s' hs7 hadg hds H13 => nx_next ?_)
  clear H12
  refine x_cons (law_s13 (hst 13) henv H13 fun atp s' H14 => nx_next ?_)
  clear H13
  have hs67 := hs6.trans hs7
  have G7 := (G2.sub hs25).sub hs67
  have haw7 := ((haw.sub hs2).sub hs25).sub hs67
  have has7 := (has.sub hs5).sub hs67
  have har7 := har.sub hs7
  refine x_cons (law_s14 (T := T) (hst 14) henv G7 hh haw7 hwW hW hadg hds (m := upd (upd (upd (upd m1 "sent" (.ref as')) "written" (.ref ar)) "digits" (.ref adg)) "tape" (.ref atp)) rfl rfl
    (K := fun m => m "sent" = some (.ref as') ∧ m "written" = some (.ref ar) ∧ m "digits" = some (.ref adg)) ⟨rfl, rfl, rfl⟩ (fun m x v hx q => by
      rcases hx with rfl | rfl <;> exact ⟨(upd_ne (by decide)).trans q.1, (upd_ne (by decide)).trans q.2.1, (upd_ne (by decide)).trans q.2.2⟩) H14 fun m2 tp s' hK hmt hTp H15 => nx_next ?_)
  clear H14
  obtain ⟨g8, hs8, htp, H16⟩ := Ok.settle (ms := (L, oNs m2) :: Cl11 L (some (.ref aw)) _ _ _ _ _ _ _ _ _ _) H15
  clear H15
  refine x_cons (law_s15 (hst 15) henv (G7.sub hs8) hmt htp H16 fun it s' H17 => nx_next ?_)
  clear H16
  refine x_cons (law_s16 (W := W) (T := T) (hst 16) henv (G7.sub hs8) hh (by omega) hW htp hTp H17 fun ah hs g9 s' hs9 hah hhs H18 => nx_next ?_)
  clear H17
  refine x_cons (law_s17 (hst 17) henv hh H18 fun a1 a2 s' H19 => nx_next ?_)
  clear H18
  have hs79 := hs8.trans hs9
  have G9 := G7.sub hs79
  obtain ⟨hK1, hK2, hK3⟩ := hK
  refine x_cons (law_s18 (h := hd10 W T) (hst 18) henv G9 hh (by omega) hu (m := upd (upd (upd m2 "heads" (.ref ah)) "greater" (.ref a2)) "lesser" (.ref a1)) rfl rfl rfl hah hhs
    (K := fun m => m "sent" = some (.ref as') ∧ m "written" = some (.ref ar) ∧ m "digits" = some (.ref adg)) ⟨hK1, hK2, hK3⟩ (fun m x v hx q => by
      rcases hx with rfl | rfl | rfl | rfl <;> exact ⟨(upd_ne (by decide)).trans q.1, (upd_ne (by decide)).trans q.2.1, (upd_ne (by decide)).trans q.2.2⟩) H19 fun m3 g10 l1 l2 T1 T2 s' hK' e1 e2 e3 hs10 hT1 hT2 n1 n2 k1' k2' H20 => nx_next ?_)
  clear H19
  obtain ⟨g11, hs11, hl2, H21⟩ := Ok.settle (ms := (L, oNs m3) :: (Cl11 L (some (.ref aw)) _ _ _ _ _ _ _ _ _ _ ++ [(a1, oList l1)])) (p := (a2, oList l2)) (by
    have := H20
    exact this)
  clear H20
  obtain ⟨g12, hs12, hl1, H22⟩ := Ok.settle (ms := (L, oNs m3) :: Cl11 L (some (.ref aw)) _ _ _ _ _ _ _ _ _ _) (p := (a1, oList l1)) H21
  clear H21
  have hsAll := hs10.trans (hs11.trans hs12)
  have hs712 := hs79.trans hsAll
  have G12 := G7.sub hs712
  have haw12 := haw7.sub hs712
  have has12 := has7.sub hs712
  have har12 := har7.sub hs712
  have had12 := hadg.sub hs712
  have hah12 := hah.sub hsAll
  refine x_cons (law_s19 (W := W) (T := T) (hst 19) henv G12 hh (by omega) hu haw12 hwW hK'.1 has12 hss hK'.2.1 har12 hrs e2 e3 hl1 (hl2.sub hs12) (hT1.sub (hs11.trans hs12)) (hT2.sub (hs11.trans hs12)) n1 n2 (fun t => (k1' t).trans (law_lesser hW t).symm) (fun t => (k2' t).trans (law_greater hW t).symm) H22 fun g13 s' hs13 H23 => nx_next ?_)
  clear H22
  refine x_cons (law_s20 (hst 20) henv H23 fun an ns g14 s' hs14 han hns H24 => nx_next ?_)
  clear H23
  have hs1314 := hs13.trans hs14
  refine x_cons (law_s21 (W := W) (T := T) (hst 21) henv (G12.sub hs1314) hh (haw12.sub hs1314) hwW hW hK'.1 (has12.sub hs1314) hss hK'.2.1 (har12.sub hs1314) hrs e1 (hah12.sub hs1314) hhs hK'.2.2 (had12.sub hs1314) hds han hns H24 fun g15 m15 s' hs15 H25 => nx_next ?_)
  refine x_cons (law_s22 (hst 22) henv ?_)
  refine k g15 _ s1 _ hg1 ho1 ?_ H25
  exact hs1.trans (hs2.trans (hs25.trans (hs67.trans (hs712.trans (hs1314.trans hs15)))))
end
end Mine
end
/-! text J2 -/
section
open PySem PySem.W PySem.Calls PyProof.Rows
set_option maxRecDepth 100000
namespace Mine
theorem list23 {α : Type} {l : List α} {d : α} {f : Nat → α} (h : l.length = 23) (hf : ∀ i, f i = match l[i]? with | some x => x | none => d) : l = [f 0, f 1, f 2, f 3, f 4, f 5, f 6, f 7, f 8, f 9, f 10, f 11, f 12, f 13, f 14, f 15, f 16, f 17, f 18, f 19, f 20, f 21, f 22] := by
  have : (List.range 23).map f = l := by
    apply List.ext_getElem?
    intro i
    rw [List.getElem?_map]
    by_cases hi : i < 23
    · rw [List.getElem?_range hi, Option.map_some, hf, List.getElem?_eq_getElem (by omega)]
    · rw [List.getElem?_eq_none (by simpa using hi), List.getElem?_eq_none (by omega)]; rfl
  exact this.symm
theorem law_callV {w : World} {A : Around} {E : Value → Shared → Prop} {s : Shared} {Q : Value → Shared → Prop} {a : Addr} {vs : List Value} {n : Nat} {ks : Nat → Int} {o : Obj} {par : Arguments} {body : List Stmt} {scope : Scope} {pm cd doc : Value} {st : Nat → Stmt} (G : Gd w s.heap) (hh : A.handled = none) (hroom : A.depth + 2 < recursionLimit) (hu : A.units + 3 < 5000)
    (ho : List.lookup 121 (hd.heap_39 w.params) = some o) (hdata : o.data = .func (Calls.docDef "law" par body scope pm cd doc)) (hcd : codeIn (hd.heap_39 w.params) cd "law" = true)
    (hbind : bindArgs (Calls.docDef "law" par body scope pm cd doc) ⟨[.ref a], []⟩ = pure [(Str.ofString "script", Value.ref a)]) (hscr : scope.names.lookup (Str.ofString "script") = some .local) (hnd : ((cellsFrom 0 scope.names []).map (·.1)).Nodup)
    (hco : scope.isCoroutine = false) (hgen : scope.isGenerator = false) (hkind : scope.kind = .function)
    (hcells : ∀ n, cellsFrom n scope.names [] = [(Str.ofString "names", n + 10), (Str.ofString "octets", n + 9), (Str.ofString "signs", n + 8), (Str.ofString "hand", n + 7), (Str.ofString "dress", n + 6), (Str.ofString "ends", n + 5), (Str.ofString "high", n + 4), (Str.ofString "low", n + 3), (Str.ofString "lead", n + 2), (Str.ofString "total", n + 1), (Str.ofString "word", n)])
    (hb : body = [st 0, st 1, st 2, st 3, st 4, st 5, st 6, st 7, st 8, st 9, st 10, st 11, st 12, st 13, st 14, st 15, st 16, st 17, st 18, st 19, st 20, st 21, st 22]) (hst : ∀ N, st N = lawStmt w.params N) (henv : ∀ L, envOfC "law" scope L 121 cd = lawEnv w.params L)
    (hl : s.heap.IsList a vs.toArray) (hI : IntL vs n ks) (hQ : ∀ s', Sub s.heap s'.heap → s'.gens = s.gens → s'.os = s.os → Q (.bool true) s') : wpAny (model PW w) A (call (.ref 121) [.ref a]) Q E s := by
  refine wpAny_call (law_enter G hh (by omega) ho hdata hcd hbind hscr hnd hco hgen hkind hcells fun A' L s1 hA hd hu' H => ?_)
  subst hb
  refine law_run hst (henv L) G hA (by omega) (by omega) rfl hl hI H fun g' ms' s₀' s2 q1 q2 q3 H' => ?_
  exact hQ s2 (q3.trans H'.keep) (H'.gens.trans q1) (H'.os.trans q2)
theorem law_call {w : World} {A : Around} {E : Value → Shared → Prop} {s : Shared} {Q : Value → Shared → Prop} {a : Addr} {vs : List Value} {n : Nat} {ks : Nat → Int} (G : Gd w s.heap) (hh : A.handled = none) (hroom : A.depth + 2 < recursionLimit) (hu : A.units + 3 < 5000)
    (hl : s.heap.IsList a vs.toArray) (hI : IntL vs n ks) (hQ : ∀ s', Sub s.heap s'.heap → s'.gens = s.gens → s'.os = s.os → Q (.bool true) s') : wpAny (model PW w) A (call (.ref 121) [.ref a]) Q E s := by
  have h1 := law_obj w.params
  have h2 := law_cd w.params
  have h3 := law_bind w.params a
  have h4 := law_script w.params
  have h5 := law_nd w.params
  have h6 := law_co w.params
  have h7 := law_gen w.params
  have h8 := law_kind w.params
  have h9 := law_cells w.params
  have h10 := list23 (f := lawStmt w.params) (d := .Pass default) (law_len w.params) fun i => by unfold lawStmt; cases (lawBody w.params)[i]? <;> rfl
  have h11 : ∀ L, envOfC "law" (lawScope w.params) L 121 (lawCd w.params) = lawEnv w.params L := fun L => rfl
  obtain ⟨st, hst⟩ : ∃ st, st = lawStmt w.params := ⟨_, rfl⟩
  rw [← hst] at h10
  generalize lawBody w.params = body at h1 h3 h10
  generalize lawScope w.params = scope at h1 h3 h4 h5 h6 h7 h8 h9 h11
  generalize lawCd w.params = cd at h1 h2 h3 h11
  generalize lawPm w.params = pm at h1 h3
  generalize lawDoc w.params = doc at h1 h3
  generalize lawPar w.params = par at h1 h3
  obtain ⟨o, ho, hdata⟩ := h1
  exact law_callV G hh hroom hu ho hdata h2 h3 h4 h5 h6 h7 h8 h9 h10 (fun N => by rw [hst]) h11 hl hI hQ
end Mine
end
/-! text J3 -/
section
open PySem PySem.W PySem.Calls PyProof.Rows
set_option maxRecDepth 100000
namespace Mine
theorem intsAre_ex : ∀ {vs : List Value} {ns : List Int}, IntsAre vs ns → ∀ v ∈ vs, ∃ i t, v = .int i t
  | _, _, .nil, v, h => nomatch h
  | _, _, .cons n t r, v, h => by
    rcases List.mem_cons.mp h with rfl | h
    · exact ⟨_, _, rfl⟩
    · exact intsAre_ex r v h
theorem law_at {P : Params} : nsIn (hd.heap_39 P) mainGlobals "law" = some (some (.ref 121)) := by rfl
theorem top_gd {w : World} {h : Heap} {mg mb : Str → Option Value} (X : (hd.heap_39 w.params).In h) (g : h.Ns mainGlobals mg) (b : h.Ns builtinsNs mb) (n : h.NoLimit) (bu : ∀ x : Str, x ≠ "__name__" → mb x = bootBuiltins x) : Gd w h := ⟨X, mg, mb, g, b, n, bu⟩
theorem top_fa {w : World} {h : Heap} {mg : Str → Option Value} {fa : Addr} (X : (hd.heap_39 w.params).In h) (g : h.Ns mainGlobals mg) (e : mg (Str.ofString "law") = some (.ref fa)) : fa = 121 := by
  have := e.symm.trans (mg_of X g law_at)
  exact Value.ref.inj (Option.some.inj this)
theorem law_fin {w : World} {s₁ : Shared} {E : Value → Shared → Prop} {Q : Value → Shared → Prop} {fa a : Addr} {vs : List Value} {ns : List Int} (G : Gd w s₁.heap) (e : fa = 121) (hl : s₁.heap.IsList a vs.toArray) (hI : IntsAre vs ns)
    (hQ : ∀ s', (∀ b o, s₁.heap.get? b = some o → s'.heap.get? b = some o) → s'.gens = s₁.gens → s'.os = s₁.os → Q (.bool true) s') : wpAny (model PW w) callerA (call (.ref fa) [.ref a]) Q E s₁ := by
  subst e
  obtain ⟨k0, hk⟩ := intL_ex (intsAre_ex hI)
  exact law_call G rfl (by decide) (by decide) hl hk fun s' h1 h2 h3 => hQ s' h1 h2 h3
end Mine
end
open PySem PySem.W PySem.Calls PyProof.Rows
set_option maxRecDepth 100000 in
set_option maxHeartbeats 8000000 in
theorem PySem.Challenge.cw_we0009_01_holds : PySem.Challenge.rw_we0009_01.Holds := by
  refine Mine.hd ?_
  k_fill
  intro w s₀ s₁ mg mb G Y fa o pm cd doc dV kV ho hd hcd hD hmg hg args vals as hpre hlay hrd hwl hlo
  have KX := kIn_of Y
  have X := (Ground.X G).1
  have V := (Ground.X G).2
  refine Ground.open G ?_
  intro T B D TE TW
  obtain ⟨_, _, M⟩ := bmod_of_top T
  have TA := at_of_top T
  try (obtain ⟨_, _, he, B0⟩ := based_of_top T rfl hmg ho hd; have he' : cd = _ := he; subst he'; clear he)
  wrow_args hpre hlay hrd hwl hlo
  have hfa := Mine.top_fa KX T.g hmg
  have hGd := Mine.top_gd KX T.g T.b T.nolimit T.builtins
  show wpAny (model Mine.PW w) callerA (call (Value.ref fa) [Value.ref _]) _ _ s₁
  refine Mine.law_fin hGd hfa (by assumption) (by assumption) fun s' k1 k2 k3 => GoodW.toG ⟨.inl ⟨.bool true, .bool true, [], rfl, raisesW_false ?_, .bool true, ?_, unshared_nil⟩, k1, k3, k2.trans hg⟩
  · wrow_none_raised
  · wrow_post
