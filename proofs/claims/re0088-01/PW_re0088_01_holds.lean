import PyProof.Rows.All
import Wide.All
import OpenK.AllK
import Wide.FinOn
import Lean
import PySem.Challenge.RW_re0088_01

section
open PySem PySem.W PyProof.Rows
set_option Elab.async false
set_option maxRecDepth 100000
set_option maxHeartbeats 8000000
namespace Mine
open_top hd for PySem.Challenge.rw_re0088_01
end Mine
end

section
open PySem PySem.W PyProof.Rows
set_option Elab.async false
set_option maxRecDepth 100000
set_option linter.unusedVariables false
namespace Mine

/-! Hidden cells X: the cells that may still change. Data is read in the heap without them. -/
abbrev Keep (h h' : Heap) : Prop := ∀ b o, h.get? b = some o → h'.get? b = some o
def KeepX (X : List Addr) (h h' : Heap) : Prop := ∀ b o, b ∉ X → h.get? b = some o → h'.get? b = some o
def Live (X : List Addr) (h : Heap) : Prop := ∀ x ∈ X, ∃ o, h.get? x = some o
def Rd (X : List Addr) (h : Heap) (v : Value) (d : PyData) : Prop := ∃ as, Reads (hideAll h X) v d as
def RdL (X : List Addr) (h : Heap) (vs : List Value) (ds : List PyData) : Prop := ∃ as, ReadsAll (hideAll h X) vs ds as

theorem hid_get {X : List Addr} {h : Heap} {b : Addr} {o : Obj} : (hideAll h X).get? b = some o ↔ b ∉ X ∧ h.get? b = some o := by
  constructor
  · intro e
    refine ⟨fun hm => ?_, of_hideAll X e⟩
    rw [hideAll_none X hm] at e; cases e
  · rintro ⟨hn, e⟩; exact hideAll_get X e hn

theorem hid_keepX {X : List Addr} {h h' : Heap} (k : KeepX X h h') : Keep (hideAll h X) (hideAll h' X) := fun b o e =>
  hid_get.mpr ⟨(hid_get.mp e).1, k b o (hid_get.mp e).1 (hid_get.mp e).2⟩
theorem Keep.toX {X : List Addr} {h h' : Heap} (k : Keep h h') : KeepX X h h' := fun b o _ e => k b o e
theorem hid_sub {X Y : List Addr} {h : Heap} (hs : ∀ x ∈ X, x ∈ Y) : Keep (hideAll h Y) (hideAll h X) := fun b o e =>
  hid_get.mpr ⟨fun hm => (hid_get.mp e).1 (hs b hm), (hid_get.mp e).2⟩
theorem KeepX.trans {X : List Addr} {h h' h'' : Heap} (k : KeepX X h h') (k' : KeepX X h' h'') : KeepX X h h'' := fun b o n e => k' b o n (k b o n e)
theorem KeepX.mono {X Y : List Addr} {h h' : Heap} (k : KeepX X h h') (hs : ∀ x ∈ X, x ∈ Y) : KeepX Y h h' := fun b o n e => k b o (fun m => n (hs b m)) e
theorem KeepX.ofSameBut {X : List Addr} {h h' : Heap} {a : Addr} (hs : Heap.SameBut a h h') (ha : a ∈ X) : KeepX X h h' := fun b o n e =>
  hs.extBut b o (fun x => n (x ▸ ha)) e

section
variable {X Y : List Addr} {h h' : Heap} {v : Value} {vs : List Value} {d : PyData} {ds : List PyData}
theorem Rd.keepX (r : Rd X h v d) (k : KeepX X h h') : Rd X h' v d := let ⟨as, q⟩ := r; ⟨as, Reads.keeps (hid_keepX k) q⟩
theorem Rd.keep (r : Rd X h v d) (k : Keep h h') : Rd X h' v d := r.keepX k.toX
theorem Rd.sub (r : Rd Y h v d) (hs : ∀ x ∈ X, x ∈ Y) : Rd X h v d := let ⟨as, q⟩ := r; ⟨as, Reads.keeps (hid_sub hs) q⟩
theorem Rd.here (r : Rd X h v d) : ∃ as, Reads h v d as := let ⟨as, q⟩ := r; ⟨as, Reads.keeps (fun _ _ e => of_hideAll X e) q⟩
theorem RdL.keepX (r : RdL X h vs ds) (k : KeepX X h h') : RdL X h' vs ds := let ⟨as, q⟩ := r; ⟨as, ReadsAll.keeps (hid_keepX k) q⟩
theorem RdL.keep (r : RdL X h vs ds) (k : Keep h h') : RdL X h' vs ds := r.keepX k.toX
theorem RdL.sub (r : RdL Y h vs ds) (hs : ∀ x ∈ X, x ∈ Y) : RdL X h vs ds := let ⟨as, q⟩ := r; ⟨as, ReadsAll.keeps (hid_sub hs) q⟩
theorem RdL.nil : RdL X h [] [] := ⟨[], .nil⟩
theorem RdL.cons (r : Rd X h v d) (rs : RdL X h vs ds) : RdL X h (v :: vs) (d :: ds) := let ⟨_, a⟩ := r; let ⟨_, b⟩ := rs; ⟨_, .cons a b⟩
theorem RdL.inv_cons (r : RdL X h vs (d :: ds)) : ∃ v vs', vs = v :: vs' ∧ Rd X h v d ∧ RdL X h vs' ds := by
  obtain ⟨as, q⟩ := r
  cases q with
  | cons a b => exact ⟨_, _, rfl, ⟨_, a⟩, ⟨_, b⟩⟩
theorem RdL.inv_nil (r : RdL X h vs []) : vs = [] := by obtain ⟨as, q⟩ := r; cases q; rfl
theorem RdL.length (r : RdL X h vs ds) : vs.length = ds.length := by
  induction ds generalizing vs with
  | nil => rw [r.inv_nil]; rfl
  | cons d ds ih => obtain ⟨v, vs', rfl, _, r'⟩ := r.inv_cons; simp [ih r']
theorem RdL.get (r : RdL X h vs ds) {i : Nat} (hd : ds[i]? = some d) : ∃ v, vs[i]? = some v ∧ Rd X h v d := by
  induction ds generalizing vs i with
  | nil => simp at hd
  | cons e ds ih =>
    obtain ⟨v, vs', rfl, r1, r2⟩ := r.inv_cons
    cases i with
    | zero => simp at hd; subst hd; exact ⟨v, rfl, r1⟩
    | succ i => simp at hd; simpa using ih r2 hd
theorem RdL.append {ws : List Value} {es : List PyData} (r : RdL X h vs ds) (q : RdL X h ws es) : RdL X h (vs ++ ws) (ds ++ es) := by
  induction ds generalizing vs with
  | nil => rw [r.inv_nil]; exact q
  | cons e ds ih => obtain ⟨v, vs', rfl, r1, r2⟩ := r.inv_cons; exact .cons r1 (ih r2)
theorem Rd.int (i : Int) (t : Tok) : Rd X h (.int i t) (.int i) := ⟨[], .int i t⟩
theorem Rd.str (x : Str) (t : Tok) : Rd X h (.str x t) (.str x) := ⟨[], .str x t⟩
theorem Rd.bool (b : Bool) : Rd X h (.bool b) (.bool b) := ⟨[], .bool b⟩
theorem Rd.inv_int {i : Int} (r : Rd X h v (.int i)) : ∃ t, v = .int i t := by obtain ⟨as, q⟩ := r; cases q; exact ⟨_, rfl⟩
theorem Rd.inv_str {x : Str} (r : Rd X h v (.str x)) : ∃ t, v = .str x t := by obtain ⟨as, q⟩ := r; cases q; exact ⟨_, rfl⟩
theorem Rd.inv_bool {b : Bool} (r : Rd X h v (.bool b)) : v = .bool b := by obtain ⟨as, q⟩ := r; cases q; rfl
theorem Rd.inv_list (r : Rd X h v (.list ds)) : ∃ a items, v = .ref a ∧ (hideAll h X).IsList a items ∧ RdL X h items.toList ds := by
  obtain ⟨as, q⟩ := r
  cases q with
  | list h1 h2 h3 h4 => exact ⟨_, _, rfl, ⟨_, h1, h2, _, h3⟩, ⟨_, h4⟩⟩
theorem Rd.inv_tuple (r : Rd X h v (.tuple ds)) : ∃ a items, v = .ref a ∧ (hideAll h X).IsTuple a items ∧ RdL X h items.toList ds := by
  obtain ⟨as, q⟩ := r
  cases q with
  | tuple h1 h2 h3 h4 => exact ⟨_, _, rfl, ⟨_, h1, h2, _, h3⟩, ⟨_, h4⟩⟩
theorem Rd.list {a : Addr} {items : Array Value} (hl : (hideAll h X).IsList a items) (r : RdL X h items.toList ds) : Rd X h (.ref a) (.list ds) := by
  obtain ⟨o, h1, h2, n, h3⟩ := hl
  obtain ⟨as, q⟩ := r
  exact ⟨_, .list h1 h2 h3 q⟩
theorem Rd.tuple {a : Addr} {items : Array Value} (hl : (hideAll h X).IsTuple a items) (r : RdL X h items.toList ds) : Rd X h (.ref a) (.tuple ds) := by
  obtain ⟨o, h1, h2, n, h3⟩ := hl
  obtain ⟨as, q⟩ := r
  exact ⟨_, .tuple h1 h2 h3 q⟩
theorem hid_list {a : Addr} {items : Array Value} (hl : h.IsList a items) (hn : a ∉ X) : (hideAll h X).IsList a items := by
  obtain ⟨o, h1, r⟩ := hl; exact ⟨o, hid_get.mpr ⟨hn, h1⟩, r⟩
theorem hid_tuple {a : Addr} {items : Array Value} (hl : h.IsTuple a items) (hn : a ∉ X) : (hideAll h X).IsTuple a items := by
  obtain ⟨o, h1, r⟩ := hl; exact ⟨o, hid_get.mpr ⟨hn, h1⟩, r⟩
theorem of_hid_list {a : Addr} {items : Array Value} (hl : (hideAll h X).IsList a items) : a ∉ X ∧ h.IsList a items := by
  obtain ⟨o, h1, r⟩ := hl; exact ⟨(hid_get.mp h1).1, o, (hid_get.mp h1).2, r⟩
theorem of_hid_tuple {a : Addr} {items : Array Value} (hl : (hideAll h X).IsTuple a items) : a ∉ X ∧ h.IsTuple a items := by
  obtain ⟨o, h1, r⟩ := hl; exact ⟨(hid_get.mp h1).1, o, (hid_get.mp h1).2, r⟩
theorem Live.keep (l : Live X h) (k : Keep h h') : Live X h' := fun x hx => let ⟨o, e⟩ := l x hx; ⟨o, k x o e⟩
theorem Live.fresh (l : Live X h) {a : Addr} (ha : h.objs.size ≤ a) : a ∉ X := fun hm => let ⟨_, e⟩ := l a hm; absurd (Heap.lt_size e) (Nat.not_lt.mpr ha)
theorem Live.new (l : Live X h) {a : Addr} (ha : h.get? a = none) : a ∉ X := fun hm => by obtain ⟨_, e⟩ := l a hm; rw [ha] at e; cases e
/-- data that was read stays read with one more hidden cell, if that cell is new -/
theorem Rd.hideNew {a : Addr} (r : Rd X h v d) (ha : h.get? a = none) : Rd (a :: X) h v d := by
  obtain ⟨as, q⟩ := r
  refine ⟨as, Reads.keeps (fun b o e => ?_) q⟩
  obtain ⟨n, e⟩ := hid_get.mp e
  refine hid_get.mpr ⟨fun hm => ?_, e⟩
  rcases List.mem_cons.mp hm with rfl | hm
  · rw [ha] at e; cases e
  · exact n hm
end

/-- nothing that stood is changed; the rest of the state is as it was -/
structure Kp (s s' : Shared) : Prop where
  rest : s' = { s with heap := s'.heap, toks := s'.toks }
  keep : Keep s.heap s'.heap
theorem Kp.of {s s' : Shared} (k : Keeps s s') : Kp s s' := by obtain ⟨h', tk, rfl, hk⟩ := k; exact ⟨rfl, hk⟩
theorem Kp.to {s s' : Shared} (k : Kp s s') : Keeps s s' := ⟨s'.heap, s'.toks, k.rest, k.keep⟩
theorem Kp.refl (s : Shared) : Kp s s := ⟨rfl, fun _ _ e => e⟩
theorem Kp.toks (s : Shared) (tk : Nat) : Kp s { s with toks := tk } := ⟨rfl, fun _ _ e => e⟩
theorem Kp.both (s : Shared) {h' : Heap} (tk : Nat) (k : Keep s.heap h') : Kp s { s with heap := h', toks := tk } := ⟨rfl, k⟩
theorem Kp.heap (s : Shared) {h' : Heap} (k : Keep s.heap h') : Kp s { s with heap := h' } := ⟨rfl, k⟩
theorem Kp.push (s : Shared) (o : Obj) : Kp s { s with heap := s.heap.push o } := ⟨rfl, fun _ _ e => Heap.get?_push_of_some _ e⟩
theorem Kp.trans {s s' s'' : Shared} (k : Kp s s') (k' : Kp s' s'') : Kp s s'' := by
  obtain ⟨r, k1⟩ := k; obtain ⟨r', k2⟩ := k'
  refine ⟨?_, fun b o e => k2 b o (k1 b o e)⟩
  rw [r', r]

/-- the ground under a frame or a block: its names, the hidden cells, what stands of the top -/
structure Cx where
  prog : Program
  w : World
  A : Around
  env : Env
  X : List Addr
  m : Str → Option Value
  h : Heap

structure AOk (A : Around) : Prop where
  handled : A.handled = none
  depth : A.depth + 20 < recursionLimit
  units : A.units + 200 < cLine

abbrev Cx.M (c : Cx) : Model := model c.prog c.w

structure Cx.Ok (c : Cx) (B : Heap → Prop) : Prop where
  a : AOk c.A
  ns : c.h.Ns c.env.locals c.m
  mem : c.env.locals ∈ c.X
  live : Live c.X c.h
  base : B (hideAll c.h c.X)
  kind : c.env.scope.kind = .function

/-- an expression, at every later state: it ends in d, and nothing that stood is changed -/
def Ev (c : Cx) (e : Expr) (d : PyData) : Prop := ∀ (s : Shared) (Q : Value → Shared → Prop) (E : Value → Shared → Prop), Keep c.h s.heap →
  (∀ v s', Kp s s' → Rd c.X s'.heap v d → Q v s') → wpAny c.M c.A (eval e c.env) Q E s
/-- the same, with any statement of the value -/
def EvP (c : Cx) (e : Expr) (P : Heap → Value → Prop) : Prop := ∀ (s : Shared) (Q : Value → Shared → Prop) (E : Value → Shared → Prop), Keep c.h s.heap →
  (∀ v s', Kp s s' → P s'.heap v → Q v s') → wpAny c.M c.A (eval e c.env) Q E s
def EvL (c : Cx) (pos : Pos) (es : List Expr) (ds : List PyData) : Prop := ∀ (s : Shared) (Q : List Value → Shared → Prop) (E : Value → Shared → Prop), Keep c.h s.heap →
  (∀ vs s', Kp s s' → RdL c.X s'.heap vs ds → Q vs s') → wpAny c.M c.A (spliced (backTo pos (starEach es c.env))) Q E s
def Tst (c : Cx) (e : Expr) (b : Bool) : Prop := ∀ (s : Shared) (Q : Bool → Shared → Prop) (E : Value → Shared → Prop), Keep c.h s.heap →
  (∀ s', Kp s s' → Q b s') → wpAny c.M c.A (isTrue e c.env (eval e c.env)) Q E s
def Op2 (c : Cx) (f : Value → Value → Sem Value) (d1 d2 d : PyData) : Prop := ∀ (s : Shared) (v1 v2 : Value) (Q : Value → Shared → Prop) (E : Value → Shared → Prop), Keep c.h s.heap →
  Rd c.X s.heap v1 d1 → Rd c.X s.heap v2 d2 → (∀ v s', Kp s s' → Rd c.X s'.heap v d → Q v s') → wpAny c.M c.A (f v1 v2) Q E s
def Op1 (c : Cx) (f : Value → Sem Value) (d1 d : PyData) : Prop := ∀ (s : Shared) (v1 : Value) (Q : Value → Shared → Prop) (E : Value → Shared → Prop), Keep c.h s.heap →
  Rd c.X s.heap v1 d1 → (∀ v s', Kp s s' → Rd c.X s'.heap v d → Q v s') → wpAny c.M c.A (f v1) Q E s
def Tru (c : Cx) (d : PyData) (b : Bool) : Prop := ∀ (s : Shared) (v : Value) (Q : Bool → Shared → Prop) (E : Value → Shared → Prop), Keep c.h s.heap →
  Rd c.X s.heap v d → Q b s → wpAny c.M c.A (truthy v) Q E s

section
variable {c : Cx} {B : Heap → Prop}
theorem ev_int {i k pos} : Ev c (.Constant (.int i) k pos) (.int i) := fun s Q E _ h => wpAny_Constant_int (h _ _ (.toks s _) (.int _ _))
theorem ev_str {x k pos} : Ev c (.Constant (.str x) k pos) (.str x) := fun s Q E _ h => wpAny_Constant_str (h _ _ (.toks s _) (.str _ _))
theorem ev_bool {b k pos} : Ev c (.Constant (.bool b) k pos) (.bool b) := fun s Q E _ h => wpAny_Constant_bool (h _ _ (.refl s) (.bool _))
theorem ev_local {x pos v d} (O : c.Ok B) (hl : c.env.kindOf x = some .local) (hm : c.m x = some v) (r : Rd c.X c.h v d) (hd : (x == ("__debug__" : Str)) = false) : Ev c (.Name x pos) d := fun s Q E k h =>
  wpAny_Name (wpAny_loadName_local O.kind hl (O.ns.keeps k) hm (h _ _ (.refl s) (r.keep k))) hd
theorem evp_local {x pos v} {P : Heap → Value → Prop} (O : c.Ok B) (hl : c.env.kindOf x = some .local) (hm : c.m x = some v) (r : ∀ h', Keep c.h h' → P h' v) (hd : (x == ("__debug__" : Str)) = false) : EvP c (.Name x pos) P := fun s Q E k h =>
  wpAny_Name (wpAny_loadName_local O.kind hl (O.ns.keeps k) hm (h _ _ (.refl s) (r _ k))) hd
theorem ev_cell {x pos v d a} (O : c.Ok B) (hl : c.env.kindOf x = some .cell) (hc : c.env.cells.lookup x = some a) (hm : c.h.IsCell a (some v)) (r : Rd c.X c.h v d) (hd : (x == ("__debug__" : Str)) = false) : Ev c (.Name x pos) d := fun s Q E k h =>
  wpAny_Name (wpAny_loadName_cell O.kind hl hc (let ⟨o, e, q⟩ := hm; ⟨o, k _ _ e, q⟩) (h _ _ (.refl s) (r.keep k))) hd
theorem ev_global {x pos v d mg} (O : c.Ok B) (hl : c.env.kindOf x = some .globalImplicit) (hg : c.h.Ns c.env.globals mg) (hm : mg x = some v) (r : Rd c.X c.h v d) (hd : (x == ("__debug__" : Str)) = false) : Ev c (.Name x pos) d := fun s Q E k h =>
  Calls.Name_function_global O.kind hl (Calls.loadGlobal_global (hg.keeps k) hm (h _ _ (.refl s) (r.keep k))) hd
theorem evp_global {x pos v mg} (O : c.Ok B) (hl : c.env.kindOf x = some .globalImplicit) (hg : c.h.Ns c.env.globals mg) (hm : mg x = some v) (hd : (x == ("__debug__" : Str)) = false) : EvP c (.Name x pos) (fun _ u => u = v) := fun s Q E k h =>
  Calls.Name_function_global O.kind hl (Calls.loadGlobal_global (hg.keeps k) hm (h _ _ (.refl s) rfl)) hd
theorem evp_builtin {x pos v mg mb} (O : c.Ok B) (hl : c.env.kindOf x = some .globalImplicit) (hg : c.h.Ns c.env.globals mg) (hm : mg x = none) (hb : c.h.Ns c.env.builtins mb) (hv : mb x = some v) (hd : (x == ("__debug__" : Str)) = false) : EvP c (.Name x pos) (fun _ u => u = v) := fun s Q E k h =>
  Calls.Name_function_global O.kind hl (Calls.loadGlobal_builtin (hg.keeps k) hm (hb.keeps k) hv (h _ _ (.refl s) rfl)) hd

theorem ev_binop {l op r pos d1 d2 d} (h1 : Ev c l d1) (h2 : Ev c r d2) (h3 : Op2 c (binaryOp op) d1 d2 d) : Ev c (.BinOp l op r pos) d := fun s Q E k h =>
  wpAny_BinOp (h1 s _ _ k fun v1 s1 k1 r1 => h2 s1 _ _ (fun b o e => k1.keep b o (k b o e)) fun v2 s2 k2 r2 =>
    h3 s2 v1 v2 _ _ (fun b o e => k2.keep b o (k1.keep b o (k b o e))) (r1.keep k2.keep) r2 fun v s' k3 r3 => h _ _ ((k1.trans k2).trans k3) r3)
theorem ev_unop {op e pos d1 d} (h1 : Ev c e d1) (h3 : Op1 c (unaryOp op) d1 d) : Ev c (.UnaryOp op e pos) d := fun s Q E k h =>
  wpAny_UnaryOp (h1 s _ _ k fun v1 s1 k1 r1 => h3 s1 v1 _ _ (fun b o e => k1.keep b o (k b o e)) r1 fun v s' k3 r3 => h _ _ (k1.trans k3) r3)
theorem ev_compare {l op r pos d1 d2 d} (h1 : Ev c l d1) (h2 : Ev c r d2) (h3 : Op2 c (compareOp op) d1 d2 d) (hm : behindInMarks op r = false) : Ev c (.Compare l [op] [r] pos) d := fun s Q E k h =>
  wpAny_Compare1 (h1 s _ _ k fun v1 s1 k1 r1 => h2 s1 _ _ (fun b o e => k1.keep b o (k b o e)) fun v2 s2 k2 r2 =>
    h3 s2 v1 v2 _ _ (fun b o e => k2.keep b o (k1.keep b o (k b o e))) (r1.keep k2.keep) r2 fun v s' k3 r3 => h _ _ ((k1.trans k2).trans k3) r3) hm
theorem tst_compare {l op r pos d1 d2 b} (h1 : Ev c l d1) (h2 : Ev c r d2) (h3 : Op2 c (compareOp op) d1 d2 (.bool b)) (hm : behindInMarks op r = false) : Tst c (.Compare l [op] [r] pos) b := fun s Q E k h =>
  wpAny_isTrue_Compare1 (h1 s _ _ k fun v1 s1 k1 r1 => h2 s1 _ _ (fun b o e => k1.keep b o (k b o e)) fun v2 s2 k2 r2 =>
    h3 s2 v1 v2 _ _ (fun b o e => k2.keep b o (k1.keep b o (k b o e))) (r1.keep k2.keep) r2 fun v s' k3 r3 => by
      rw [r3.inv_bool]; exact wpAny_truthy_bool (h _ ((k1.trans k2).trans k3))) hm
theorem tst_not {x pos b} (h1 : Tst c x b) : Tst c (.UnaryOp .Not x pos) (!b) := fun s Q E k h => wpAny_isTrue_Not (h1 s _ _ k fun s' k' => h s' k')
theorem tst_value {e d b} (h1 : Ev c e d) (h2 : Tru c d b) (he : ∀ whole, isTrue e c.env whole = (do let v ← whole; standAt e.pos; holding [v] (truthy v))) : Tst c e b := fun s Q E k h =>
  wpAny_isTrue_value (h1 s _ _ k fun v s1 k1 r1 => h2 s1 v _ _ (fun b o e => k1.keep b o (k b o e)) r1 (h s1 k1)) (he _)
theorem tru_int {i : Int} : Tru c (.int i) (i != 0) := fun s v Q E k r h => by obtain ⟨t, rfl⟩ := r.inv_int; exact P.truthy_int h
theorem ev_ifexp {t e1 e2 pos b d} (h1 : Tst c t b) (h2 : b = true → Ev c e1 d) (h3 : b = false → Ev c e2 d) : Ev c (.IfExp t e1 e2 pos) d := fun s Q E k h =>
  wpAny_IfExp (h1 s _ _ k fun s1 k1 => by
    cases b with
    | true => exact h2 rfl s1 _ _ (fun b o e => k1.keep b o (k b o e)) fun v s' k' r => h v s' (k1.trans k') r
    | false => exact h3 rfl s1 _ _ (fun b o e => k1.keep b o (k b o e)) fun v s' k' r => h v s' (k1.trans k') r)
theorem evl_nil {pos} : EvL c pos [] [] := fun s Q E k h => wpAny_items_nil (h _ _ (.refl s) .nil)
theorem evl_cons {pos e es d ds} (h1 : Ev c e d) (h2 : EvL c pos es ds) (he : starEach (e :: es) c.env = (false, eval e c.env) :: starEach es c.env) : EvL c pos (e :: es) (d :: ds) := fun s Q E k h =>
  wpAny_items_cons (h1 s _ _ k fun v s1 k1 r1 => h2 s1 _ _ (fun b o e => k1.keep b o (k b o e)) fun vs s2 k2 r2 => h _ _ (k1.trans k2) (.cons (r1.keep k2.keep) r2)) he
theorem push_tuple {s : Shared} {vs : List Value} {ds : List PyData} {X : List Addr} (l : Live X s.heap) (r : RdL X s.heap vs ds) :
    Rd X (s.heap.push { cls := .type "tuple", data := .seq vs.toArray }) (.ref s.heap.objs.size) (.tuple ds) :=
  .tuple (items := vs.toArray) (hid_tuple ⟨_, Heap.get?_push_size _ rfl, rfl, _, rfl⟩ (l.fresh (Nat.le_refl _))) (by simpa using r.keep fun _ _ e => Heap.get?_push_of_some _ e)
theorem push_list {s : Shared} {vs : List Value} {ds : List PyData} {X : List Addr} (l : Live X s.heap) (r : RdL X s.heap vs ds) :
    Rd X (s.heap.push { cls := .type "list", data := .seq vs.toArray }) (.ref s.heap.objs.size) (.list ds) :=
  .list (items := vs.toArray) (hid_list ⟨_, Heap.get?_push_size _ rfl, rfl, _, rfl⟩ (l.fresh (Nat.le_refl _))) (by simpa using r.keep fun _ _ e => Heap.get?_push_of_some _ e)
theorem ev_tuple {es k pos ds} (O : c.Ok B) (h1 : EvL c pos es ds) (hn : ds.length ≤ sizeLine) : Ev c (.Tuple es k pos) (.tuple ds) := fun s Q E k h =>
  wpAny_Tuple (h1 s _ _ k fun vs s1 k1 r1 => ⟨by rw [r1.length]; exact hn, h _ _ (k1.trans (.push s1 _)) (push_tuple (O.live.keep fun b o e => k1.keep b o (k b o e)) r1)⟩)
theorem ev_list {es pos ds} (O : c.Ok B) (h1 : EvL c pos es ds) (hn : ds.length ≤ sizeLine) : Ev c (.List es pos) (.list ds) := fun s Q E k h =>
  wpAny_List (h1 s _ _ k fun vs s1 k1 r1 => ⟨by rw [r1.length]; exact hn, h _ _ (k1.trans (.push s1 _)) (push_list (O.live.keep fun b o e => k1.keep b o (k b o e)) r1)⟩)

theorem op_add {a b : Int} : Op2 c (binaryOp .Add) (.int a) (.int b) (.int (a + b)) := fun s v1 v2 Q E k r1 r2 h => by
  obtain ⟨t, rfl⟩ := r1.inv_int; obtain ⟨u, rfl⟩ := r2.inv_int; exact add_int (h _ _ (.toks s _) (.int _ _))
theorem op_sub {a b : Int} : Op2 c (binaryOp .Sub) (.int a) (.int b) (.int (a - b)) := fun s v1 v2 Q E k r1 r2 h => by
  obtain ⟨t, rfl⟩ := r1.inv_int; obtain ⟨u, rfl⟩ := r2.inv_int; exact sub_int (h _ _ (.toks s _) (.int _ _))
theorem op_mul {a b : Int} (hm : IntMulOk a b) : Op2 c (binaryOp .Mult) (.int a) (.int b) (.int (a * b)) := fun s v1 v2 Q E k r1 r2 h => by
  obtain ⟨t, rfl⟩ := r1.inv_int; obtain ⟨u, rfl⟩ := r2.inv_int; exact mul_int (h _ _ (.toks s _) (.int _ _)) hm
theorem op_mod {a b : Int} (hb : b ≠ 0) : Op2 c (binaryOp .Mod) (.int a) (.int b) (.int (a.fmod b)) := fun s v1 v2 Q E k r1 r2 h => by
  obtain ⟨t, rfl⟩ := r1.inv_int; obtain ⟨u, rfl⟩ := r2.inv_int; exact mod_int' hb (h _ _ (.toks s _) (.int _ _))
theorem op_pow {a n : Int} (hn : 0 ≤ n) (hsz : (Builtin.Int.intBits a : Int) * n ≤ 2 ^ 27) : Op2 c (binaryOp .Pow) (.int a) (.int n) (.int (a ^ n.toNat)) := fun s v1 v2 Q E k r1 r2 h => by
  obtain ⟨t, rfl⟩ := r1.inv_int; obtain ⟨u, rfl⟩ := r2.inv_int; exact pow_int hn hsz (h _ _ (.toks s _) (.int _ _))
theorem op_lshift {a n : Int} (hn : 0 ≤ n) (hn2 : n ≤ 1000000) (ha : a.natAbs < 2 ^ 64) : Op2 c (binaryOp .LShift) (.int a) (.int n) (.int (a * 2 ^ n.toNat)) := fun s v1 v2 Q E k r1 r2 h => by
  obtain ⟨t, rfl⟩ := r1.inv_int; obtain ⟨u, rfl⟩ := r2.inv_int; exact lshift_int_small hn hn2 ha (h _ _ (.toks s _) (.int _ _))
theorem op_and {a b : Int} : Op2 c (binaryOp .BitAnd) (.int a) (.int b) (.int (Builtin.bitAnd a b)) := fun s v1 v2 Q E k r1 r2 h => by
  obtain ⟨t, rfl⟩ := r1.inv_int; obtain ⟨u, rfl⟩ := r2.inv_int; exact and_int (h _ _ (.toks s _) (.int _ _))
theorem op_neg {a : Int} : Op1 c (unaryOp .USub) (.int a) (.int (-a)) := fun s v1 Q E k r1 h => by
  obtain ⟨t, rfl⟩ := r1.inv_int; exact neg_int (h _ _ (.toks s _) (.int _ _))
theorem op_eq {a b : Int} : Op2 c (compareOp .Eq) (.int a) (.int b) (.bool (a == b)) := fun s v1 v2 Q E k r1 r2 h => by
  obtain ⟨t, rfl⟩ := r1.inv_int; obtain ⟨u, rfl⟩ := r2.inv_int; exact eq_int (h _ _ (.refl s) (.bool _))
theorem op_ne {a b : Int} : Op2 c (compareOp .NotEq) (.int a) (.int b) (.bool (a != b)) := fun s v1 v2 Q E k r1 r2 h => by
  obtain ⟨t, rfl⟩ := r1.inv_int; obtain ⟨u, rfl⟩ := r2.inv_int; exact ne_int (h _ _ (.refl s) (.bool _))
theorem op_ge {a b : Int} : Op2 c (compareOp .GtE) (.int a) (.int b) (.bool (decide (b ≤ a))) := fun s v1 v2 Q E k r1 r2 h => by
  obtain ⟨t, rfl⟩ := r1.inv_int; obtain ⟨u, rfl⟩ := r2.inv_int; exact ge_int (h _ _ (.refl s) (.bool _))
theorem op_le {a b : Int} : Op2 c (compareOp .LtE) (.int a) (.int b) (.bool (decide (a ≤ b))) := fun s v1 v2 Q E k r1 r2 h => by
  obtain ⟨t, rfl⟩ := r1.inv_int; obtain ⟨u, rfl⟩ := r2.inv_int; exact le_int (h _ _ (.refl s) (.bool _))
theorem op_seq {x y : Str} : Op2 c (compareOp .Eq) (.str x) (.str y) (.bool (x == y)) := fun s v1 v2 Q E k r1 r2 h => by
  obtain ⟨t, rfl⟩ := r1.inv_str; obtain ⟨u, rfl⟩ := r2.inv_str; exact eq_str (h _ _ (.refl s) (.bool _))
theorem op_sadd {x y : Str} (hsz : x.length + y.length ≤ sizeLine) : Op2 c (binaryOp .Add) (.str x) (.str y) (.str (x ++ y)) := fun s v1 v2 Q E k r1 r2 h => by
  obtain ⟨t, rfl⟩ := r1.inv_str; obtain ⟨u, rfl⟩ := r2.inv_str; exact add_str (fun t' tk => h _ _ (.toks s _) (.str _ _)) hsz
end
end Mine
end

section
open PySem PySem.W PyProof.Rows
set_option Elab.async false
set_option maxRecDepth 100000
set_option linter.unusedVariables false
namespace Mine

/-- names bound in order -/
def bindTo (m : Str → Option Value) : List Str → List Value → (Str → Option Value)
  | x :: tn, v :: vs => bindTo (fun y => if y = x then some v else m y) tn vs
  | _, _ => m

def localEnv (env : Env) (tn : List Str) : Prop :=
  (∀ y ∈ tn, env.kindOf y = some .local) ∧ (env.scope.kind == .class || (env.scope.kind == .module && env.locals != env.globals)) = false

/-- what an iterator and a target do, turn by turn -/
structure Feed (prog : Program) (w : World) (A : Around) (I : Addr) (target : Expr) (tn : List Str) (fp wr : List Addr) {α : Type} (xs : List α) (G : α → List Value → Prop) (St : Nat → Heap → Prop) : Prop where
  sub : ∀ b ∈ wr, b ∈ fp
  frame : ∀ i h h', St i h → (∀ b ∈ fp, ∀ o, h.get? b = some o → h'.get? b = some o) → St i h'
  live : ∀ i h, St i h → ∀ b ∈ wr, ∃ o, h.get? b = some o
  turn : ∀ (env : Env) i x (s : Shared) m (Q : Shared → Prop) (E : Value → Shared → Prop), localEnv env tn → env.locals ∉ fp → xs[i]? = some x → St i s.heap → s.heap.Ns env.locals m →
    (∀ h' tk vs, St (i + 1) h' → h'.Ns env.locals (bindTo m tn vs) → G x vs → vs.length = tn.length → (∀ b o, b ∉ wr → b ≠ env.locals → s.heap.get? b = some o → h'.get? b = some o) → Q { s with heap := h', toks := tk }) →
    wpAny (model prog w) A (pyNext (.ref I)) (fun r s₁ => match r with
      | none => False
      | some v => wpAny (model prog w) A (letOwnedTupleGo target (.ref I) v) (fun _ s₂ => wpAny (model prog w) A (assign target env v) (fun _ s₃ => Q s₃) E s₂) E s₁) E s
  done : ∀ (s : Shared) (Q : Option Value → Shared → Prop) (E : Value → Shared → Prop), St xs.length s.heap →
    (∀ h' tk, (∀ b o, b ∉ wr → s.heap.get? b = some o → h'.get? b = some o) → Q none { s with heap := h', toks := tk }) → wpAny (model prog w) A (pyNext (.ref I)) Q E s
  self : ∀ i (s : Shared) (Q : Value → Shared → Prop) (E : Value → Shared → Prop), St i s.heap → Q (.ref I) s → wpAny (model prog w) A (pyIter (.ref I)) Q E s

theorem Feed.ofWalks {prog : Program} {w : World} {A : Around} {I : Addr} {fp wr : List Addr} {n : Nat} {P : Nat → Value → Prop} {St : Nat → Heap → Prop} {x : Str} {px : Pos} {α : Type} {xs : List α} {G : α → List Value → Prop}
    (W : Walks prog w A I fp wr n P St) (hlive : ∀ i h, St i h → ∀ b ∈ wr, ∃ o, h.get? b = some o) (hn : xs.length = n) (hG : ∀ i a v, xs[i]? = some a → P i v → G a [v]) : Feed prog w A I (.Name x px) [x] fp wr xs G St where
  sub := W.sub
  frame := W.frame
  self := W.self
  live := hlive
  done := fun s Q E hst h => W.done s Q E (hn ▸ hst) h
  turn := fun env i a s m Q E hl hL hx hst hns h => by
    have hi : i < n := by rw [← hn]; exact (List.getElem?_eq_some_iff.mp hx).1
    have hLw : env.locals ∉ wr := fun q => hL (W.sub _ q)
    refine W.item i s _ _ hi hst fun v h₁ tk hP hst₁ hk₁ => ?_
    refine wpAny_of_eq (show letOwnedTupleGo (.Name x px) (.ref I) v = pure () from rfl) ?_
    refine wpAny_assign_Name (wpAny_storeName_local (hl.1 x (.head _)) (hns.at' fun o e => hk₁ _ o hLw e) (fun h₂ hn₂ hs₂ => ?_) hl.2)
    exact h h₂ _ [v] (W.frame _ _ _ hst₁ fun b hb o e => hs₂.extBut b o (fun q => hL (q ▸ hb)) e) hn₂ (hG i a v hx hP) rfl fun b o hb hbL e => hs₂.extBut b o hbL (hk₁ b o hb e)

theorem Feed.ofWalksT {prog : Program} {w : World} {A : Around} {I : Addr} {fp wr : List Addr} {n : Nat} {Pt : Nat → Array Value → Prop} {St : Nat → Heap → Prop} {Mid : Nat → Addr → Heap → Prop} {xa xb : Str} {pa pb pt : Pos} {kt : Nat} {α : Type} {xs : List α} {G : α → List Value → Prop}
    (hh : A.handled = none) (W : WalksT prog w A I fp wr n Pt St Mid) (hlive : ∀ i h, St i h → ∀ b ∈ wr, ∃ o, h.get? b = some o) (hn : xs.length = n) (hG : ∀ i a vals, xs[i]? = some a → Pt i vals → ∃ va vb, vals = #[va, vb] ∧ G a [va, vb]) : Feed prog w A I (.Tuple [.Name xa pa, .Name xb pb] kt pt) [xa, xb] fp wr xs G St where
  sub := W.sub
  frame := W.frame
  self := W.self
  live := hlive
  done := fun s Q E hst h => W.done s Q E (hn ▸ hst) h
  turn := fun env i a s m Q E hl hL hx hst hns h => by
    have hi : i < n := by rw [← hn]; exact (List.getElem?_eq_some_iff.mp hx).1
    have hLw : env.locals ∉ wr := fun q => hL (W.sub _ q)
    refine W.item i s _ _ hi hst fun T vals h₁ tk hP hTn hT hmid hk₁ => ?_
    obtain ⟨va, vb, rfl, hg⟩ := hG i a vals hx hP
    refine W.go _ _ _ i T _ _ _ hmid fun h₁' hst₁ hk₁' => ?_
    have hT₁' : h₁'.IsTuple T #[va, vb] := let ⟨o, e, r⟩ := hT; ⟨o, hk₁' _ o (W.apart i T _ hmid) e, r⟩
    refine wpAny_assign_Tuple hh hT₁' rfl rfl fun h₁'' hx₁ => ?_
    replace hx₁ : Heap.ExtBut h₁'.objs.size h₁' h₁'' := hx₁
    have old₁ : ∀ b o, h₁'.get? b = some o → h₁''.get? b = some o := fun b o e => hx₁ b o (Nat.ne_of_lt (Heap.lt_size e)) e
    show wpAny _ _ (do holding [vb] (assign (.Name xa pa) env va); do holding [] (assign (.Name xb pb) env vb); pure ()) _ _ _
    refine wpAny_bind (wpAny_holding (wpAny_assign_Name (wpAny_storeName_local (hl.1 xa (.head _)) (hns.at' fun o e => old₁ _ o (hk₁' _ o hLw (hk₁ _ o hLw e))) (fun h₂a hn₂a hs₂a => ?_) hl.2)))
    replace hs₂a : Heap.SameBut env.locals h₁'' h₂a := hs₂a
    refine wpAny_bind (wpAny_holding (wpAny_assign_Name (wpAny_storeName_local (hl.1 xb (.tail _ (.head _))) hn₂a (fun h₂ hn₂ hs₂ => wpAny_pure ?_) hl.2)))
    replace hs₂ : Heap.SameBut env.locals h₂a h₂ := hs₂
    refine h h₂ _ [va, vb] (W.frame _ _ _ hst₁ fun b hb o e => hs₂.extBut b o (fun q => hL (q ▸ hb)) (hs₂a.extBut b o (fun q => hL (q ▸ hb)) (old₁ b o e))) hn₂ hg rfl fun b o hb hbL e => ?_
    exact hs₂.extBut b o hbL (hs₂a.extBut b o hbL (old₁ b o (hk₁' b o hb (hk₁ b o hb e))))

/-- one turn of a block: the next item, the target, the rest -/
def turnB (p : Pos) (target : Expr) (it : Value) (env : Env) (body : Sem Fin) : Sem Fin := do
  standAt p
  match ← pyNext it with
  | none => pure (.done .next)
  | some v =>
    letOwnedTupleGo target it v
    assign target env v
    body
/-- the rest of a turn: the tests, the item appended -/
def bodyL (ifs : List Expr) (elt : Expr) (acc : Value) (env : Env) (next : Code) : Sem Fin := do
  let mut ok := true
  for c in ifs do
    if ok then ok ← isTrue c env (eval c env)
  if ok then
    (do let _ ← call (.builtin "list.append") [acc, ← eval elt env])
  again next
/-- the rest of a turn: a block within -/
def bodyN (i1 : Expr) (e : Expr) (acc : Value) (env : Env) (next : Code) : Sem Fin := do
  let x ← eval i1 env
  standAt i1.pos
  let x ← foldedSetIterable i1 env x
  let _ ← runOwn (.compStart e 1 (← holding [x] (pyIter x)) acc env) env
  again next

theorem turn10 (elt target iter : Expr) (ifs : List Expr) (scope : Scope) (pos : Pos) (it acc : Value) (env : Env) :
    compTurn (.ListComp elt [⟨target, iter, ifs, 0⟩] scope pos) 0 it acc env =
      turnB iter.pos target it env (bodyL ifs elt acc env (.compLoop (.ListComp elt [⟨target, iter, ifs, 0⟩] scope pos) 0 it acc env)) := by rfl
theorem turn21 (elt target iter : Expr) (g : Comprehension) (ifs : List Expr) (scope : Scope) (pos : Pos) (it acc : Value) (env : Env) :
    compTurn (.ListComp elt [g, ⟨target, iter, ifs, 0⟩] scope pos) 1 it acc env =
      turnB iter.pos target it env (bodyL ifs elt acc env (.compLoop (.ListComp elt [g, ⟨target, iter, ifs, 0⟩] scope pos) 1 it acc env)) := by rfl
theorem turn20 (elt target iter t1 i1 : Expr) (f1 : List Expr) (scope : Scope) (pos : Pos) (it acc : Value) (env : Env) :
    compTurn (.ListComp elt [⟨target, iter, [], 0⟩, ⟨t1, i1, f1, 0⟩] scope pos) 0 it acc env =
      turnB iter.pos target it env (bodyN i1 (.ListComp elt [⟨target, iter, [], 0⟩, ⟨t1, i1, f1, 0⟩] scope pos) acc env (.compLoop (.ListComp elt [⟨target, iter, [], 0⟩, ⟨t1, i1, f1, 0⟩] scope pos) 0 it acc env)) := by rfl

section
variable {prog : Program} {w : World} {A : Around} {R : Result → Shared → Prop} {s : Shared}

theorem comp_loop {elt : Expr} {gens : List Comprehension} {scope : Scope} {pos p : Pos} {k : Nat} {I D : Addr} {target : Expr} {tn : List Str} {fp wr : List Addr} {α : Type} {xs : List α} {G : α → List Value → Prop} {St : Nat → Heap → Prop}
    {cenv : Env} {body : Sem Fin} {X : List Addr} {g : α → List PyData} {ds₀ : List PyData} {m : Str → Option Value}
    (hturn : compTurn (.ListComp elt gens scope pos) k (.ref I) (.ref D) cenv = turnB p target (.ref I) cenv body)
    (W : Feed prog w A I target tn fp wr xs G St) (hl : localEnv cenv tn) (hDC : D ≠ cenv.locals) (hDf : D ∉ fp) (hCf : cenv.locals ∉ fp)
    (hX : ∀ b, b = cenv.locals ∨ b = D ∨ b ∈ wr → b ∈ X)
    (hbody : ∀ i x vs (s₂ : Shared) m ys ds (Q : Fin → Shared → Prop) (E : Value → Shared → Prop), xs[i]? = some x → G x vs → vs.length = tn.length → s₂.heap.Ns cenv.locals (bindTo m tn vs) → s₂.heap.PlainList D ys → RdL X s₂.heap ys.toList ds → ds = ds₀ ++ (xs.take i).flatMap g →
      (∀ b o, b ≠ cenv.locals → b ≠ D → b ∉ wr → s.heap.get? b = some o → s₂.heap.get? b = some o) → St (i + 1) s₂.heap →
      (∀ h₃ tk m₃ ys', h₃.Ns cenv.locals m₃ → h₃.PlainList D ys' → RdL X h₃ ys'.toList (ds ++ g x) → (∀ b o, b ≠ cenv.locals → b ≠ D → s₂.heap.get? b = some o → h₃.get? b = some o) →
        Q (.again (.compLoop (.ListComp elt gens scope pos) k (.ref I) (.ref D) cenv)) { s₂ with heap := h₃, toks := tk }) → wpAny (model prog w) A body Q E s₂)
    (hst : St 0 s.heap) {ys₀ : Array Value} (hacc : s.heap.PlainList D ys₀) (hd₀ : RdL X s.heap ys₀.toList ds₀) (hn : s.heap.Ns cenv.locals m)
    (hR : ∀ h' tk m' ys, h'.Ns cenv.locals m' → h'.PlainList D ys → RdL X h' ys.toList (ds₀ ++ xs.flatMap g) → (∀ b o, b ≠ cenv.locals → b ≠ D → b ∉ wr → s.heap.get? b = some o → h'.get? b = some o) →
      R (.ok .next) { s with heap := h', toks := tk }) :
    codeAny (model prog w) A (.compLoop (.ListComp elt gens scope pos) k (.ref I) (.ref D) cenv) R s := by
  have hCw : cenv.locals ∉ wr := fun h => hCf (W.sub _ h)
  have hDw : D ∉ wr := fun h => hDf (W.sub _ h)
  refine codeAny_loop rfl (fun n s' => ∃ h' tk m' ys i, s' = { s with heap := h', toks := tk } ∧ St i h' ∧ h'.PlainList D ys ∧ h'.Ns cenv.locals m' ∧ RdL X h' ys.toList (ds₀ ++ (xs.take i).flatMap g) ∧ i ≤ xs.length ∧ n = xs.length + 1 - i ∧
    ∀ b o, b ≠ cenv.locals → b ≠ D → b ∉ wr → s.heap.get? b = some o → h'.get? b = some o) ?_ (xs.length + 1) ⟨s.heap, s.toks, m, ys₀, 0, rfl, hst, hacc, hn, by simpa using hd₀, Nat.zero_le _, rfl, fun _ _ _ _ _ e => e⟩
  rintro n s' ⟨H, tk, m', ys, i, rfl, hst', hacc', hn', hd, hi, rfl, hk⟩
  show wpAny _ A ((compTurn (.ListComp elt gens scope pos) k (.ref I) (.ref D) cenv).onRaise (fun x => do noteFrame x cenv; theTreesLotGoes x)) _ _ _
  refine wpAny_noted ?_
  rw [hturn]
  unfold turnB
  refine wpAny_bind (wpAny_standAt (wpAny_bind ?_))
  cases hx : xs[i]? with
  | none =>
    have hlen : i = xs.length := Nat.le_antisymm hi (by simpa using hx)
    subst hlen
    refine W.done _ _ _ hst' fun h₁ tk₁ hk₁ => wpAny_pure ?_
    refine hR h₁ tk₁ m' ys (hn'.at' fun o e => hk₁ _ o hCw e) (hacc'.at fun o e => hk₁ _ o hDw e) ?_ fun b o hbC hbD hbw e => hk₁ b o hbw (hk b o hbC hbD hbw e)
    rw [List.take_length] at hd
    exact hd.keepX fun b o hb e => hk₁ b o (fun h => hb (hX b (.inr (.inr h)))) e
  | some x =>
    have hlt : i < xs.length := (List.getElem?_eq_some_iff.mp hx).1
    refine wpAny_mono (W.turn cenv i x { s with heap := H, toks := tk } m' (fun s₃ => wpAny (model prog w) A body (fun fin s' => match fin with
        | .done f => R (.ok f) s'
        | .again c' => c' = (.compLoop (.ListComp elt gens scope pos) k (.ref I) (.ref D) cenv) ∧ ∃ m, m < xs.length + 1 - i ∧ ∃ h' tk m' ys i, s' = { s with heap := h', toks := tk } ∧ St i h' ∧ h'.PlainList D ys ∧ h'.Ns cenv.locals m' ∧ RdL X h' ys.toList (ds₀ ++ (xs.take i).flatMap g) ∧ i ≤ xs.length ∧ m = xs.length + 1 - i ∧
            ∀ b o, b ≠ cenv.locals → b ≠ D → b ∉ wr → s.heap.get? b = some o → h'.get? b = some o) (notedBy (model prog w) A cenv fun e s' => R (.error e) s') s₃)
        (notedBy (model prog w) A cenv fun e s' => R (.error e) s') hl hCf hx hst' hn' ?_) (fun r s₁ h₁ => ?_) fun _ _ e => e
    · intro h₂ tk₂ vs hst₂ hn₂ hG hlen hk₂
      have hacc₂ : h₂.PlainList D ys := hacc'.at fun o e => hk₂ _ o hDw hDC e
      have hd₂ : RdL X h₂ ys.toList (ds₀ ++ (xs.take i).flatMap g) := hd.keepX fun b o hb e => hk₂ b o (fun h => hb (hX b (.inr (.inr h)))) (fun h => hb (hX b (.inl h))) e
      refine hbody i x vs { s with heap := h₂, toks := tk₂ } m' ys _ _ _ hx hG hlen hn₂ hacc₂ hd₂ rfl (fun b o hbC hbD hbw e => hk₂ b o hbw hbC (hk b o hbC hbD hbw e)) hst₂ fun h₃ tk₃ m₃ ys' hn₃ hacc₃ hd₃ hk₃ => ?_
      refine ⟨rfl, xs.length + 1 - (i + 1), by omega, h₃, tk₃, m₃, ys', i + 1, rfl, W.frame _ _ _ hst₂ fun b hb o e => hk₃ b o (fun h => hCf (h ▸ hb)) (fun h => hDf (h ▸ hb)) e, hacc₃, hn₃, ?_, hlt, rfl, fun b o hbC hbD hbw e => hk₃ b o hbC hbD (hk₂ b o hbw hbC (hk b o hbC hbD hbw e))⟩
      rw [List.take_add_one, hx, List.flatMap_append, ← List.append_assoc]
      simpa using hd₃
    · cases r with
      | none => exact h₁.elim
      | some v => exact wpAny_bind (wpAny_mono h₁ (fun _ s₂ h₂ => wpAny_bind (wpAny_mono h₂ (fun _ s₃ h₃ => h₃) fun _ _ e => e)) fun _ _ e => e)
end
end Mine
end

section
open PySem PySem.W PyProof.Rows
set_option Elab.async false
set_option maxRecDepth 100000
set_option linter.unusedVariables false
namespace Mine

/-- a list of the program's own making, with its data -/
def RdP (X : List Addr) (h : Heap) (v : Value) (ds : List PyData) : Prop := ∃ a items, v = .ref a ∧ (hideAll h X).PlainList a items ∧ RdL X h items.toList ds
theorem RdP.rd {X : List Addr} {h : Heap} {v : Value} {ds : List PyData} (r : RdP X h v ds) : Rd X h v (.list ds) := by
  obtain ⟨a, items, rfl, hp, hr⟩ := r; exact .list hp.isList hr
theorem RdP.keepX {X : List Addr} {h h' : Heap} {v : Value} {ds : List PyData} (r : RdP X h v ds) (k : KeepX X h h') : RdP X h' v ds := by
  obtain ⟨a, items, rfl, hp, hr⟩ := r; exact ⟨a, items, rfl, hp.at fun o e => hid_keepX k _ o e, hr.keepX k⟩
theorem RdP.sub {X Y : List Addr} {h : Heap} {v : Value} {ds : List PyData} (r : RdP Y h v ds) (hs : ∀ x ∈ X, x ∈ Y) : RdP X h v ds := by
  obtain ⟨a, items, rfl, hp, hr⟩ := r; exact ⟨a, items, rfl, hp.at fun o e => hid_sub hs _ o e, hr.sub hs⟩

/-- the tests of a clause -/
def Tsts (c : Cx) (ifs : List Expr) (b : Bool) : Prop := ∀ (s : Shared) (Q : Bool → Shared → Prop) (E : Value → Shared → Prop), Keep c.h s.heap → (∀ s', Kp s s' → Q b s') →
  wpAny c.M c.A (forIn ifs true fun t r => if r = true then do let ok ← isTrue t c.env (eval t c.env); pure (ForInStep.yield ok) else pure (ForInStep.yield r)) Q E s
theorem tsts_nil {c : Cx} : Tsts c [] true := fun s Q E k h => wpAny_tests_nil (h s (.refl s))
theorem tsts_one {c : Cx} {e : Expr} {b : Bool} (h1 : Tst c e b) : Tsts c [e] b := fun s Q E k h => wpAny_tests_one (h1 s Q E k h)

/-- where an iterable comes from -/
def Src (c : Cx) (iter target : Expr) (tn : List Str) {α : Type} (xs : List α) (enc : α → List PyData) : Prop :=
  ∀ (s : Shared) (Q : Value → Shared → Prop) (E : Value → Shared → Prop), Keep c.h s.heap →
    (∀ I fp wr St s' h₀, Kp s s' → Keep s.heap h₀ → Keep h₀ s'.heap → (∀ b ∈ fp, (∃ o, s'.heap.get? b = some o) ∧ b ∉ c.X) → (∀ b ∈ wr, h₀.get? b = none) → St 0 s'.heap →
      Feed c.prog c.w c.A I target tn fp wr xs (fun x vs => RdL c.X h₀ vs (enc x)) St → Q (.ref I) s') →
    wpAny c.M c.A (eval iter c.env) (fun x s₁ => wpAny c.M c.A (pyIter x) Q E s₁) E s

/-- what stands in one ground stands in the other -/
def Cx.Sub (c c2 : Cx) : Prop := Keep (hideAll c.h c.X) (hideAll c2.h c2.X)
theorem Cx.Sub.rd {c c2 : Cx} (s : c.Sub c2) {v : Value} {d : PyData} (r : Rd c.X c.h v d) : Rd c2.X c2.h v d := let ⟨as, q⟩ := r; ⟨as, Reads.keeps s q⟩
theorem Cx.Sub.rdl {c c2 : Cx} (s : c.Sub c2) {v : List Value} {d : List PyData} (r : RdL c.X c.h v d) : RdL c2.X c2.h v d := let ⟨as, q⟩ := r; ⟨as, ReadsAll.keeps s q⟩
theorem Cx.Sub.trans {c c2 c3 : Cx} (s : c.Sub c2) (s' : c2.Sub c3) : c.Sub c3 := fun b o e => s' b o (s b o e)

/-- an item of a block: its ground -/
def inner (c : Cx) (env : Env) (X : List Addr) (m : Str → Option Value) (h : Heap) : Cx := { c with env := env, X := X, m := m, h := h }

structure ItemOk (c : Cx) (B : Heap → Prop) (ifs : List Expr) (elt : Expr) (env : Env) (X : List Addr) (m : Str → Option Value) (h : Heap) (p : Bool) (d : PyData) : Prop where
  tests : Tsts (inner c env X m h) ifs p
  elt : p = true → Ev (inner c env X m h) elt d

theorem Live.cons {X : List Addr} {h : Heap} {a : Addr} {o : Obj} (l : Live X h) (e : h.get? a = some o) : Live (a :: X) h := fun x hx => by
  rcases List.mem_cons.mp hx with rfl | hx
  · exact ⟨o, e⟩
  · exact l x hx

section
variable {c : Cx} {B : Heap → Prop}

/-- the rest of a turn with tests and an item, as comp_loop asks it -/
theorem bodyL_ok {ifs : List Expr} {elt : Expr} {D : Addr} {cenv : Env} {next : Code} {X : List Addr} {m : Str → Option Value} {s₂ : Shared} {ys : Array Value} {ds : List PyData} {p : Bool} {d : PyData} {Q : Fin → Shared → Prop} {E : Value → Shared → Prop}
    (hDC : D ≠ cenv.locals) (hDX : D ∈ X) (hn : s₂.heap.Ns cenv.locals m) (hacc : s₂.heap.PlainList D ys) (hd : RdL X s₂.heap ys.toList ds) (hsz : ds.length ≤ sizeLine)
    (hok : ItemOk c B ifs elt cenv X m s₂.heap p d)
    (hQ : ∀ h₃ tk m₃ ys', h₃.Ns cenv.locals m₃ → h₃.PlainList D ys' → RdL X h₃ ys'.toList (ds ++ if p then [d] else []) → (∀ b o, b ≠ cenv.locals → b ≠ D → s₂.heap.get? b = some o → h₃.get? b = some o) →
      Q (.again next) { s₂ with heap := h₃, toks := tk }) : wpAny c.M c.A (bodyL ifs elt (.ref D) cenv next) Q E s₂ := by
  unfold bodyL
  refine wpAny_bind (hok.tests s₂ _ _ (fun _ _ e => e) fun s₃ k₃ => ?_)
  have hr3 := k₃.rest
  cases hp : p with
  | false =>
    subst hp
    simp only [Bool.false_eq_true, if_false]
    refine wpAny_pure ?_
    rw [hr3]
    exact hQ s₃.heap s₃.toks m ys (hn.keeps k₃.keep) (hacc.at fun o e => k₃.keep _ o e) (by simpa using hd.keep k₃.keep) fun b o _ _ e => k₃.keep b o e
  | true =>
    subst hp
    simp only [if_true]
    refine wpAny_bind (wpAny_bind (hok.elt rfl s₃ _ _ k₃.keep fun v s₄ k₄ r₄ => ?_))
    have hr4 := k₄.rest
    have k := k₃.trans k₄
    have hacc₄ : s₄.heap.PlainList D ys := hacc.at fun o e => k.keep _ o e
    refine wpAny_bind (wpAny_list_append_plain (hsz := by have := hd.length; simp at this; omega) hacc₄ fun h₅ hl₅ hs₅ => wpAny_pure (wpAny_pure ?_))
    have e : s₄ = { s₂ with heap := s₄.heap, toks := s₄.toks } := k.rest
    have e' : ({ s₄ with heap := h₅ } : Shared) = { s₂ with heap := h₅, toks := s₄.toks } := by rw [e]
    rw [e']
    refine hQ h₅ _ m (ys.push v) ((hn.keeps k.keep).sameBut hs₅ hDC.symm) hl₅ ?_ fun b o _ hbD e => hs₅.extBut b o hbD (k.keep b o e)
    have r : RdL X s₄.heap (ys.toList ++ [v]) (ds ++ [d]) := (hd.keep k.keep).append (.cons r₄ .nil)
    simpa using r.keepX (KeepX.ofSameBut hs₅ hDX)
end

theorem flat_le {α β : Type} (p : α → Bool) (f : α → β) : ∀ l : List α, (l.flatMap (fun x => if p x then [f x] else [])).length ≤ l.length
  | [] => Nat.le_refl _
  | a :: l => by
    have := flat_le p f l
    rw [List.flatMap_cons, List.length_append, List.length_cons]
    split
    · rw [List.length_singleton]; omega
    · rw [List.length_nil]; omega
theorem flat_eq {α β : Type} (p : α → Bool) (f : α → β) : ∀ l : List α, l.flatMap (fun x => if p x then [f x] else []) = (l.filter p).map f
  | [] => rfl
  | a :: l => by
    rw [List.flatMap_cons, flat_eq p f l, List.filter_cons]
    split <;> simp
def BMono (B : Heap → Prop) : Prop := ∀ h h', Keep h h' → B h → B h'

section
variable {c : Cx} {B : Heap → Prop}

/-- the ground of an item stands -/
theorem inner_ok {env : Env} {X : List Addr} {m : Str → Option Value} {h : Heap} (O : c.Ok B) (hB : BMono B) (hs : c.Sub (inner c env X m h)) (hn : h.Ns env.locals m) (hm : env.locals ∈ X) (hl : Live X h) (hk : env.scope.kind = .function) : (inner c env X m h).Ok B :=
  ⟨O.a, hn, hm, hl, hB _ _ hs O.base, hk⟩

/-- hidden cells that are new hide nothing that stood -/
theorem sub_new {X Y : List Addr} {h h' : Heap} (hY : ∀ b ∈ Y, b ∈ X ∨ h.get? b = none) (hk : ∀ b o, b ∉ Y → h.get? b = some o → h'.get? b = some o) : Keep (hideAll h X) (hideAll h' Y) := fun b o e => by
  obtain ⟨n, e⟩ := hid_get.mp e
  have hbY : b ∉ Y := fun hm => by
    rcases hY b hm with q | q
    · exact n q
    · rw [q] at e; cases e
  exact hid_get.mpr ⟨hbY, hk b o hbY e⟩

theorem comp_core {elt iter target : Expr} {ifs : List Expr} {scope : Scope} {pos : Pos} {tn : List Str} {cl : List (Str × Addr)} {α : Type} {xs : List α} {enc : α → List PyData} {p : α → Bool} {f : α → PyData} {s : Shared} {E : Value → Shared → Prop}
    {RR : Value → Addr → Result → Shared → Prop} (O : c.Ok B) (hB : BMono B) (hsrc : Src c iter target tn xs enc)
    (hcell : ∀ y ∈ scope.names, y.2 ≠ .cell) (hkind : scope.kind = .function) (htn : ∀ y ∈ tn, scope.names.lookup y = some .local) (hsz : xs.length ≤ sizeLine)
    (hel : ∀ x ∈ xs, ∀ C X m vs h, c.Sub (inner c (compEnvC scope cl C c.env) X (bindTo m tn vs) h) → (inner c (compEnvC scope cl C c.env) X (bindTo m tn vs) h).Ok B → RdL X h vs (enc x) → vs.length = tn.length →
      ItemOk c B ifs elt (compEnvC scope cl C c.env) X (bindTo m tn vs) h (p x) (f x))
    (hk : Keep c.h s.heap)
    (hRR : ∀ D C s' m', Kp s s' → s.heap.get? C = none → s'.heap.Ns C m' → RdP (C :: c.X) s'.heap (.ref D) ((xs.filter p).map f) → RR (.ref D) C (.ok .next) s') :
    wpAny c.M c.A (eval iter c.env) (fun x s₁ => wpAny c.M c.A (pyIter x) (fun it s₂ => wpAny c.M c.A (newList []) (fun acc s₃ => wpAny c.M c.A (newFunctionEnv scope c.env.globals cl [] c.env.qual none .none (some c.env)) (fun cenv s₄ =>
      codeAny c.M c.A (.compStart (.ListComp elt [⟨target, iter, ifs, 0⟩] scope pos) 0 it acc { cenv with scope := relabel scope c.env }) (RR acc cenv.locals) s₄) E s₃) E s₂) E s₁) E s := by
  refine hsrc s _ _ hk fun I fp wr St s₂ h₀ K₂ hk₀ hk₂ hfp hwr hst W => ?_
  refine wpAny_newObj_type (hd := by size_fits) (wpAny_newFunctionEnv hcell (by intro y hy; simp at hy) (fun h₁ hns₁ hsb₁ => ?_) hkind)
  dsimp only at hns₁ hsb₁ ⊢
  generalize hH2 : s₂.heap.push { cls := .type "list", dict := none, data := .seq ([] : List Value).toArray } = H2 at hns₁ hsb₁ ⊢
  have hC : H2.objs.size = s₂.heap.objs.size + 1 := by rw [← hH2, Heap.size_push]
  have hDC : s₂.heap.objs.size ≠ H2.objs.size := by rw [hC]; exact Nat.ne_of_lt (Nat.lt_succ_self _)
  have fresh : ∀ a, s₂.heap.objs.size ≤ a → s₂.heap.get? a = none := fun a ha => by
    cases e : s₂.heap.get? a with
    | none => rfl
    | some o' => exact absurd (Heap.lt_size e) (Nat.not_lt.mpr ha)
  have hDn : s₂.heap.get? s₂.heap.objs.size = none := fresh _ (Nat.le_refl _)
  have hCn : s₂.heap.get? H2.objs.size = none := fresh _ (by rw [hC]; exact Nat.le_succ _)
  have none_of : ∀ {b : Addr} {g : Heap}, Keep g s₂.heap → s₂.heap.get? b = none → g.get? b = none := fun {b g} k e => by
    cases q : g.get? b with
    | none => rfl
    | some o => rw [k b o q] at e; cases e
  have below : ∀ b o, s₂.heap.get? b = some o → b ≠ H2.objs.size ∧ b ≠ s₂.heap.objs.size := fun b o e => ⟨fun q => (by rw [q, hCn] at e; cases e), fun q => (by rw [q, hDn] at e; cases e)⟩
  have hDf : s₂.heap.objs.size ∉ fp := fun hm => by obtain ⟨⟨o, e⟩, _⟩ := hfp _ hm; rw [hDn] at e; cases e
  have hCf : H2.objs.size ∉ fp := fun hm => by obtain ⟨⟨o, e⟩, _⟩ := hfp _ hm; rw [hCn] at e; cases e
  have old : ∀ b o, s₂.heap.get? b = some o → h₁.get? b = some o := fun b o e => hsb₁.extBut b o (below b o e).1 (Heap.get?_push_of_some _ (hH2 ▸ Heap.get?_push_of_some _ e))
  have hacc : h₁.PlainList s₂.heap.objs.size #[] := ⟨_, hsb₁.extBut _ _ hDC (Heap.get?_push_of_some _ (hH2 ▸ Heap.get?_push_size _ rfl))⟩
  have hst₁ : St 0 h₁ := W.frame _ _ _ hst fun b _ o e => old b o e
  have hwrs : ∀ b ∈ wr, s.heap.get? b = none := fun b hb => by
    cases q : s.heap.get? b with
    | none => rfl
    | some o => have := hwr b hb; rw [hk₀ b o q] at this; cases this
  have hkc : Keep c.h s₂.heap := fun b o e => K₂.keep b o (hk b o e)
  have loop : ∀ s₃ : Shared, s₃ = { s₂ with heap := h₁, toks := s₂.toks + ([] : List (Str × Value)).length } →
      codeAny c.M c.A (.compLoop (.ListComp elt [⟨target, iter, ifs, 0⟩] scope pos) 0 (.ref I) (.ref s₂.heap.objs.size) (compEnvC scope cl H2.objs.size c.env)) (RR (.ref s₂.heap.objs.size) H2.objs.size) s₃ := by
    rintro s₃ rfl
    refine comp_loop (cenv := compEnvC scope cl H2.objs.size c.env) (X := H2.objs.size :: s₂.heap.objs.size :: (wr ++ c.X)) (g := fun x => if p x then [f x] else []) (ds₀ := []) (turn10 ..) W
      ⟨fun y hy => lookup_relabel_local (htn y hy), by simp [compEnvC, relabel, hkind]⟩ hDC hDf hCf ?_ ?_ hst₁ hacc .nil hns₁ ?_
    · rintro b (rfl | rfl | hb)
      · exact .head _
      · exact .tail _ (.head _)
      · exact .tail _ (.tail _ (List.mem_append.mpr (.inl hb)))
    · intro i x vs s₃ m ys ds Q E' hx hG hlen hn₃ hacc₃ hd₃ hds hk₃ hst₃ hQ
      have hmem : x ∈ xs := List.mem_of_getElem? hx
      have up : ∀ b o, b ∉ (H2.objs.size :: s₂.heap.objs.size :: (wr ++ c.X)) → s₂.heap.get? b = some o → s₃.heap.get? b = some o := fun b o hb e =>
        hk₃ b o (fun q => hb (q ▸ .head _)) (fun q => hb (q ▸ .tail _ (.head _))) (fun q => hb (.tail _ (.tail _ (List.mem_append.mpr (.inl q))))) (old b o e)
      have hnew : ∀ {g : Heap}, Keep s.heap g → Keep g s₂.heap → (∀ b ∈ wr, g.get? b = none) → Keep (hideAll g c.X) (hideAll s₃.heap (H2.objs.size :: s₂.heap.objs.size :: (wr ++ c.X))) := fun {g} k1 k2 k3 =>
        sub_new (fun b hb => by
          rcases List.mem_cons.mp hb with rfl | hb
          · exact .inr (none_of k2 hCn)
          · rcases List.mem_cons.mp hb with rfl | hb
            · exact .inr (none_of k2 hDn)
            · rcases List.mem_append.mp hb with hb | hb
              · exact .inr (k3 b hb)
              · exact .inl hb) fun b o hb e => up b o hb (k2 b o e)
      have hsub : c.Sub (inner c (compEnvC scope cl H2.objs.size c.env) (H2.objs.size :: s₂.heap.objs.size :: (wr ++ c.X)) (bindTo m tn vs) s₃.heap) := fun b o e =>
        hnew (fun _ _ e => e) K₂.keep hwrs b o (hid_keepX (Keep.toX hk) b o e)
      have hlive : Live (H2.objs.size :: s₂.heap.objs.size :: (wr ++ c.X)) s₃.heap := fun b hb => by
        rcases List.mem_cons.mp hb with rfl | hb
        · obtain ⟨o, _, _, e, _⟩ := hn₃; exact ⟨o, e⟩
        · rcases List.mem_cons.mp hb with rfl | hb
          · obtain ⟨_, e⟩ := hacc₃; exact ⟨_, e⟩
          · rcases List.mem_append.mp hb with hb | hb
            · exact W.live _ _ hst₃ b hb
            · obtain ⟨o, e⟩ := O.live b hb
              have e2 := hkc b o e
              refine ⟨o, hk₃ b o (below b o e2).1 (below b o e2).2 (fun q => ?_) (old b o e2)⟩
              have := hwrs b q; rw [hk b o e] at this; cases this
      have hok := inner_ok O hB hsub hn₃ (.head _) hlive (show (relabel scope c.env).kind = .function from hkind)
      have hG' : RdL (H2.objs.size :: s₂.heap.objs.size :: (wr ++ c.X)) s₃.heap vs (enc x) := by
        obtain ⟨as, q⟩ := hG
        exact ⟨as, ReadsAll.keeps (hnew hk₀ hk₂ hwr) q⟩
      have hdl : ds.length ≤ sizeLine := by
        rw [hds, List.nil_append]
        refine Nat.le_trans (flat_le p f _) (Nat.le_trans ?_ hsz)
        rw [List.length_take]; exact Nat.min_le_right _ _
      exact bodyL_ok (c := c) hDC (.tail _ (.head _)) hn₃ hacc₃ hd₃ hdl (hel x hmem _ _ m vs _ hsub hok hG' hlen) hQ
    · intro h' tk m' ys hn' hl' hd' hk'
      have hr := K₂.rest
      have e' : ({ s₂ with heap := h', toks := tk } : Shared) = { s with heap := h', toks := tk } := by rw [hr]
      rw [e']
      refine hRR _ _ _ m' (.both s tk fun b o e => ?_) (none_of K₂.keep hCn) hn' ?_
      · have e2 := K₂.keep b o e
        refine hk' b o (below b o e2).1 (below b o e2).2 (fun q => ?_) (old b o e2)
        have := hwrs b q; rw [e] at this; cases this
      · refine ⟨_, ys, rfl, hl'.at fun o e => hid_get.mpr ⟨fun hm => ?_, e⟩, ?_⟩
        · rcases List.mem_cons.mp hm with q | hm
          · exact hDC q
          · obtain ⟨o, e⟩ := O.live _ hm
            have := hkc _ o e; rw [hDn] at this; cases this
        · rw [List.nil_append, flat_eq] at hd'
          refine hd'.sub fun b hb => ?_
          rcases List.mem_cons.mp hb with rfl | hb
          · exact .head _
          · exact .tail _ (.tail _ (List.mem_append.mpr (.inr hb)))
  exact codeAny_compStart_list (loop _ rfl) (W.self 0 _ _ _ hst₁ (loop _ rfl))

theorem Kp.but {s s' : Shared} {C : Addr} {h' : Heap} (k : Kp s s') (hC : s.heap.get? C = none) (hs : Heap.SameBut C s'.heap h') : Kp s { s' with heap := h' } := by
  obtain ⟨r, k⟩ := k
  refine ⟨by rw [r], fun b o e => hs.extBut b o (fun q => ?_) (k b o e)⟩
  rw [q, hC] at e; cases e
/-- the syntax facts of a block -/
structure CompOk (c : Cx) (scope : Scope) (tn : List Str) (cl : List (Str × Addr)) (iter : Expr) : Prop where
  clos : closureFor scope c.env = pure cl
  cell : ∀ y ∈ scope.names, y.2 ≠ .cell
  kind : scope.kind = .function
  names : ∀ y ∈ scope.names, y.2 = .local → scope.names.lookup y.1 = some .local
  tn : ∀ y ∈ tn, scope.names.lookup y = some .local
  fold : ∀ x, foldedSetIterable iter c.env x = pure x

theorem ev_comp {elt iter target : Expr} {ifs : List Expr} {scope : Scope} {pos : Pos} {tn : List Str} {cl : List (Str × Addr)} {α : Type} {xs : List α} {enc : α → List PyData} {p : α → Bool} {f : α → PyData}
    (O : c.Ok B) (hB : BMono B) (hsrc : Src c iter target tn xs enc) (K : CompOk c scope tn cl iter) (hsz : xs.length ≤ sizeLine)
    (hel : ∀ x ∈ xs, ∀ C X m vs h, c.Sub (inner c (compEnvC scope cl C c.env) X (bindTo m tn vs) h) → (inner c (compEnvC scope cl C c.env) X (bindTo m tn vs) h).Ok B → RdL X h vs (enc x) → vs.length = tn.length →
      ItemOk c B ifs elt (compEnvC scope cl C c.env) X (bindTo m tn vs) h (p x) (f x)) :
    Ev c (.ListComp elt [⟨target, iter, ifs, 0⟩] scope pos) (.list ((xs.filter p).map f)) := fun s Q E hk hQ => by
  show wpAny c.M c.A (comprehension (.ListComp elt [⟨target, iter, ifs, 0⟩] scope pos) scope c.env _ (newList []) false (eval iter c.env) none) Q E s
  refine wpAny_comprehension_free rfl K.fold K.clos K.kind K.names (comp_core O hB hsrc K.cell K.kind K.tn hsz hel hk ?_)
  intro D C s' m' k hC hn r
  refine ⟨m', hn, fun h' hs' => hQ _ _ ?_ ?_⟩
  · exact k.but hC hs'
  · exact ((r.keepX (KeepX.ofSameBut hs' (.head _))).sub fun b hb => .tail _ hb).rd

/-- a name stored: what a statement leaves -/
def StoreTo (c : Cx) (y : Str) (P : Heap → Value → Prop) (Q : Flow → Shared → Prop) (s : Shared) : Prop :=
  ∀ v h' tk, (∀ b o, b ≠ c.env.locals → s.heap.get? b = some o → h'.get? b = some o) → P h' v → h'.Ns c.env.locals (fun z => if z = y then some v else c.m z) → Q .next { s with heap := h', toks := tk }
/-- a statement of a value that a store of the frame's leaves -/
def Stable (c : Cx) (P : Heap → Value → Prop) : Prop := ∀ h h' v, KeepX c.X h h' → P h v → P h' v
theorem stable_rd {d : PyData} : Stable c (fun h v => Rd c.X h v d) := fun h h' v k r => r.keepX k
theorem Ev.toP {e : Expr} {d : PyData} (h : Ev c e d) : EvP c e (fun h v => Rd c.X h v d) := h

theorem st_assign {y : Str} {py spos : Pos} {e : Expr} {P : Heap → Value → Prop} {s : Shared} {Q : Flow → Shared → Prop} {E : Value → Shared → Prop}
    (O : c.Ok B) (hk : Keep c.h s.heap) (he : EvP c e P) (hP : Stable c P) (hy : c.env.kindOf y = some .local) (hs : swapsWith e (some (.Name y py)) spos.line c.env = pure false)
    (h : StoreTo c y P Q s) : wpAny c.M c.A (exec (.Assign [.Name y py] e spos) c.env) Q E s :=
  wpAny_Assign_Name (he s _ _ hk fun v s₁ k₁ r₁ => wpAny_storeName_local hy (O.ns.keeps fun b o e => k₁.keep b o (hk b o e)) (fun h' hn hs' => by
    have e : ({ s₁ with heap := h', toks := s₁.toks + 1 } : Shared) = { s with heap := h', toks := s₁.toks + 1 } := by rw [k₁.rest]
    rw [e]
    exact h v h' _ (fun b o hb e => hs'.extBut b o hb (k₁.keep b o e)) (hP _ _ _ (KeepX.ofSameBut hs' O.mem) r₁) hn) (by rw [O.kind]; rfl)) hs

theorem st_assign_comp {elt iter target : Expr} {ifs : List Expr} {scope : Scope} {pos spos py : Pos} {y : Str} {tn : List Str} {cl : List (Str × Addr)} {α : Type} {xs : List α} {enc : α → List PyData} {p : α → Bool} {f : α → PyData} {s : Shared} {Q : Flow → Shared → Prop} {E : Value → Shared → Prop}
    (O : c.Ok B) (hB : BMono B) (hk : Keep c.h s.heap) (hsrc : Src c iter target tn xs enc) (K : CompOk c scope tn cl iter) (hsz : xs.length ≤ sizeLine)
    (hel : ∀ x ∈ xs, ∀ C X m vs h, c.Sub (inner c (compEnvC scope cl C c.env) X (bindTo m tn vs) h) → (inner c (compEnvC scope cl C c.env) X (bindTo m tn vs) h).Ok B → RdL X h vs (enc x) → vs.length = tn.length →
      ItemOk c B ifs elt (compEnvC scope cl C c.env) X (bindTo m tn vs) h (p x) (f x))
    (hy : c.env.kindOf y = some .local) (hs : swapsWith (.ListComp elt [⟨target, iter, ifs, 0⟩] scope pos) (some (.Name y py)) spos.line c.env = pure true)
    (h : StoreTo c y (fun h' v => RdP c.X h' v ((xs.filter p).map f)) Q s) :
    wpAny c.M c.A (exec (.Assign [.Name y py] (.ListComp elt [⟨target, iter, ifs, 0⟩] scope pos) spos) c.env) Q E s := by
  rw [exec_Assign_Name_used _ _ _ _ hs]
  refine wpAny_bind (wpAny_standAt (wpAny_bind ?_))
  show wpAny c.M c.A (do let _ ← comprehension (.ListComp elt [⟨target, iter, ifs, 0⟩] scope pos) scope c.env _ (newList []) false (eval iter c.env) (some (assign (.Name y py) c.env))) _ _ s
  refine wpAny_bind (wpAny_mono (wpAny_comprehension_free (Q := fun _ s' => Q .next s') rfl K.fold K.clos K.kind K.names (comp_core O hB hsrc K.cell K.kind K.tn hsz hel hk ?_)) (fun _ s' hq => wpAny_pure (wpAny_pure hq)) fun _ _ e => e)
  intro D C s' m' k hC hn r
  have hLC : c.env.locals ≠ C := by rintro e; obtain ⟨o, _, _, ho, _⟩ := O.ns; have := hk _ _ ho; rw [e, hC] at this; cases this
  refine wpAny_assign_Name (wpAny_storeName_local hy (O.ns.keeps fun b o e => k.keep b o (hk b o e)) (fun h₂ hn₂ hs₂ => ?_) (by rw [O.kind]; rfl))
  refine ⟨m', hn.sameBut hs₂ (Ne.symm hLC), fun h₃ hs₃ => ?_⟩
  have e : ({ s' with heap := h₃, toks := s'.toks + 1 } : Shared) = { s with heap := h₃, toks := s'.toks + 1 } := by rw [k.rest]
  show Q .next { s' with heap := h₃, toks := s'.toks + 1 }
  rw [e]
  refine h _ h₃ _ (fun b o hb e => hs₃.extBut b o (fun q => ?_) (hs₂.extBut b o hb (k.keep b o e))) ?_ (hn₂.sameBut hs₃ hLC)
  · rw [q, hC] at e; cases e
  · exact ((r.keepX (KeepX.ofSameBut hs₂ (.tail _ O.mem))).keepX (KeepX.ofSameBut hs₃ (.head _))).sub fun b hb => .tail _ hb
end
end Mine
end

section
open PySem PySem.W PyProof.Rows
set_option Elab.async false
set_option maxRecDepth 100000
set_option linter.unusedVariables false
namespace Mine

/-- what a call gives for data -/
def CallP (c : Cx) (f : Value) (ds : List PyData) (P : Heap → Value → Prop) : Prop := ∀ (s : Shared) (vs : List Value) (Q : Value → Shared → Prop) (E : Value → Shared → Prop), Keep c.h s.heap →
  RdL c.X s.heap vs ds → (∀ v s', Kp s s' → P s'.heap v → Q v s') → wpAny c.M c.A (call f vs) Q E s
abbrev CallD (c : Cx) (f : Value) (ds : List PyData) (d : PyData) : Prop := CallP c f ds (fun h v => Rd c.X h v d)

section
variable {c : Cx} {B : Heap → Prop}

theorem evp_call_builtin {x : Str} {p pos : Pos} {e : Expr} {es : List Expr} {id : String} {ds : List PyData} {P : Heap → Value → Prop} (hf : EvP c (.Name x p) (fun _ u => u = .builtin id)) (ha : EvL c pos (e :: es) ds) (hc : CallP c (.builtin id) ds P)
    (he : starEach (e :: es) c.env = (false, eval e c.env) :: starEach es c.env) (hplain : (backTo pos (starEach es c.env)).any (·.1) = false) : EvP c (.Call (.Name x p) (e :: es) [] pos) P := fun s Q E k h =>
  Call_Name rfl (hf s _ _ k fun v s₁ k₁ r₁ => by
    subst r₁
    exact callWith_builtin1 (ha s₁ _ _ (fun b o e => k₁.keep b o (k b o e)) fun vs s₂ k₂ r₂ => hc s₂ vs _ _ (fun b o e => k₂.keep b o (k₁.keep b o (k b o e))) r₂ fun v s' k' r' => h v s' ((k₁.trans k₂).trans k') r') he hplain)
theorem evp_call_type {x : Str} {p pos : Pos} {e : Expr} {es : List Expr} {T : String} {ds : List PyData} {P : Heap → Value → Prop} (hf : EvP c (.Name x p) (fun _ u => u = .type T)) (ha : EvL c pos (e :: es) ds) (hc : CallP c (.type T) ds P)
    (he : starEach (e :: es) c.env = (false, eval e c.env) :: starEach es c.env) (hplain : (backTo pos (starEach es c.env)).any (·.1) = false) : EvP c (.Call (.Name x p) (e :: es) [] pos) P := fun s Q E k h =>
  Call_Name rfl (hf s _ _ k fun v s₁ k₁ r₁ => by
    subst r₁
    exact PyProof.Rows.callWith_type1 (ha s₁ _ _ (fun b o e => k₁.keep b o (k b o e)) fun vs s₂ k₂ r₂ => hc s₂ vs _ _ (fun b o e => k₂.keep b o (k₁.keep b o (k b o e))) r₂ fun v s' k' r' => h v s' ((k₁.trans k₂).trans k') r') he hplain)
theorem evp_call_fn {x : Str} {p pos : Pos} {e : Expr} {es : List Expr} {a : Addr} {o : Obj} {fd : FuncData} {ds : List PyData} {P : Heap → Value → Prop} (hf : EvP c (.Name x p) (fun _ u => u = .ref a)) (ho : c.h.get? a = some o) (hd : o.data = .func fd) (ha : EvL c pos (e :: es) ds) (hc : CallP c (.ref a) ds P)
    (he : starEach (e :: es) c.env = (false, eval e c.env) :: starEach es c.env) : EvP c (.Call (.Name x p) (e :: es) [] pos) P := fun s Q E k h =>
  Call_Name rfl (hf s _ _ k fun v s₁ k₁ r₁ => by
    subst r₁
    exact callWith_def hd (ha s₁ _ _ (fun b o e => k₁.keep b o (k b o e)) fun vs s₂ k₂ r₂ => ⟨k₂.keep _ _ (k₁.keep _ _ (k _ _ ho)), hc s₂ vs _ _ (fun b o e => k₂.keep b o (k₁.keep b o (k b o e))) r₂ fun v s' k' r' => h v s' ((k₁.trans k₂).trans k') r'⟩) he)

theorem call_len {ds : List PyData} (hfit : ds.length ≤ sizeLine) : CallD c (.builtin "len") [.list ds] (.int ds.length) := fun s vs Q E k r h => by
  obtain ⟨v, vs', rfl, r1, r2⟩ := r.inv_cons
  rw [r2.inv_nil]
  obtain ⟨a, items, rfl, hl, hr⟩ := r1.inv_list
  have e : items.size = ds.length := by have := hr.length; simpa using this
  refine Calls.call_len_list (of_hid_list hl).2 (by rw [e]; rw [sizeLine_eq] at hfit; omega) ?_
  rw [e]
  exact h _ _ (.toks s _) (.int _ _)
theorem call_tuple {ds : List PyData} (O : c.Ok B) (hfit : ds.length ≤ sizeLine) : CallD c (.type "tuple") [.list ds] (.tuple ds) := fun s vs Q E k r h => by
  obtain ⟨v, vs', rfl, r1, r2⟩ := r.inv_cons
  rw [r2.inv_nil]
  obtain ⟨a, items, rfl, hl, hr⟩ := r1.inv_list
  have e : items.size = ds.length := by have := hr.length; simpa using this
  refine call_tuple_list (of_hid_list hl).2 (fun h' hk => ?_) (by rw [e]; exact hfit)
  have k1 : Kp s { s with heap := h' } := .heap s hk
  refine h _ _ (k1.trans (.push { s with heap := h' } _)) ?_
  have := push_tuple (s := { s with heap := h' }) (vs := items.toList) ((O.live.keep k).keep hk) (hr.keep hk)
  simpa using this
theorem call_min {a b : Int} (O : c.Ok B) : CallD c (.builtin "min") [.int a, .int b] (.int (min a b)) := fun s vs Q E k r h => by
  obtain ⟨v, vs', rfl, r1, r2⟩ := r.inv_cons
  obtain ⟨v2, vs'', rfl, r3, r4⟩ := r2.inv_cons
  rw [r4.inv_nil]
  obtain ⟨t, rfl⟩ := r1.inv_int; obtain ⟨u, rfl⟩ := r3.inv_int
  refine min_two_ints O.a.handled fun h' tk hk => h _ _ (.both s tk hk) ?_
  by_cases hb : b < a
  · rw [if_pos hb, show min a b = b by omega]; exact .int _ _
  · rw [if_neg hb, show min a b = a by omega]; exact .int _ _

theorem ints_val {X : List Addr} {h : Heap} {vs : List Value} {ns : List Int} (r : RdL X h vs (ns.map PyData.int)) : ∀ i v, vs[i]? = some v → ∃ t, v = Value.int (ns.getD i 0) t := fun i v hv => by
  have hlen := r.length
  rw [List.length_map] at hlen
  have hi : i < ns.length := by rw [← hlen]; exact (List.getElem?_eq_some_iff.mp hv).1
  obtain ⟨v', hv', rv⟩ := r.get (i := i) (d := .int (ns.getD i 0)) (by simp [List.getElem?_eq_getElem hi])
  rw [hv] at hv'; cases hv'
  exact rv.inv_int
theorem preSum_take (ns : List Int) : ∀ j, j ≤ ns.length → preSum (fun i => ns.getD i 0) j = (ns.take j).sum
  | 0, _ => by simp [preSum]
  | j + 1, hj => by
    have e : ns[j]? = some (ns.getD j 0) := by simp [List.getElem?_eq_getElem (show j < ns.length by omega)]
    rw [preSum, preSum_take ns j (by omega), List.take_add_one, e, List.sum_append]
    simp
theorem call_sum {ns : List Int} (O : c.Ok B) : CallD c (.builtin "sum") [.list (ns.map PyData.int)] (.int ns.sum) := fun s vs Q E k r h => by
  obtain ⟨v, vs', rfl, r1, r2⟩ := r.inv_cons
  rw [r2.inv_nil]
  obtain ⟨a, items, rfl, hl, hr⟩ := r1.inv_list
  have hl' := (of_hid_list hl).2
  have hlt : a < s.heap.objs.size := by obtain ⟨o, e, _⟩ := hl'; exact Heap.lt_size e
  refine call_sum_walkG (wpAny_pyIter_list hl' ⟨s.heap.objs.size, [s.heap.objs.size, a], [s.heap.objs.size], items.size, _, _, (fun i => ns.getD i 0), rfl, Walks.list (A := c.A.in1) O.a.handled _ a (Nat.ne_of_lt hlt) items, ⟨⟨_, Heap.get?_push_size _ rfl, rfl, rfl⟩, hl'.push _⟩, ?_, ?_, ?_⟩)
  · intro b hb
    rw [Heap.size_push]
    rcases List.mem_cons.mp hb with rfl | hb
    · exact Nat.lt_succ_self _
    · rw [List.mem_singleton.mp hb]; exact Nat.lt_succ_of_lt hlt
  · intro i v hv
    exact ints_val hr i v (by rw [Array.getElem?_toList]; exact hv)
  · intro h' tk t' hk
    have e : items.size = ns.length := by have := hr.length; simpa using this
    rw [e, preSum_take ns _ (Nat.le_refl _), List.take_length]
    refine h _ _ (.both s tk fun b o e => hk b o ?_ (Heap.get?_push_of_some _ e)) (.int _ _)
    simp; exact Nat.ne_of_lt (Heap.lt_size e)

/-- the greatest of a list that is not empty -/
def maxL (ns : List Int) : Int := ns.foldl max (ns.headD 0)
theorem argBest_max (ns : List Int) : ∀ k, k < ns.length → argBest (fun i j => decide (ns.getD i 0 > ns.getD j 0)) k < ns.length ∧ ns.getD (argBest (fun i j => decide (ns.getD i 0 > ns.getD j 0)) k) 0 = (ns.take (k + 1)).foldl max (ns.headD 0)
  | 0, hk => by
    cases ns with
    | nil => simp at hk
    | cons a l => simp [argBest]
  | k + 1, hk => by
    obtain ⟨h1, h2⟩ := argBest_max ns k (by omega)
    have e : ns[k + 1]? = some (ns.getD (k + 1) 0) := by simp [List.getElem?_eq_getElem hk]
    rw [argBest, List.take_add_one (l := ns) (i := k + 1), e, List.foldl_append, ← h2]
    simp only [Option.toList, List.foldl_cons, List.foldl_nil]
    by_cases hc : ns.getD (k + 1) 0 > ns.getD (argBest (fun i j => decide (ns.getD i 0 > ns.getD j 0)) k) 0
    · rw [decide_eq_true hc, if_pos rfl]; exact ⟨hk, by omega⟩
    · rw [decide_eq_false hc, if_neg Bool.false_ne_true]; exact ⟨h1, by omega⟩
theorem call_max {ns : List Int} (O : c.Ok B) (hne : 0 < ns.length) : CallD c (.builtin "max") [.list (ns.map PyData.int)] (.int (maxL ns)) := fun s vs Q E k r h => by
  obtain ⟨v, vs', rfl, r1, r2⟩ := r.inv_cons
  rw [r2.inv_nil]
  obtain ⟨a, items, rfl, hl, hr⟩ := r1.inv_list
  have hl' := (of_hid_list hl).2
  have hlt : a < s.heap.objs.size := by obtain ⟨o, e, _⟩ := hl'; exact Heap.lt_size e
  have e : items.size = ns.length := by have := hr.length; simpa using this
  refine call_max_walk (wpAny_pyIter_list hl' ⟨s.heap.objs.size, [s.heap.objs.size, a], [s.heap.objs.size], items.size, _, _, _, rfl, Walks.list (A := c.A.in1) O.a.handled _ a (Nat.ne_of_lt hlt) items, ⟨⟨_, Heap.get?_push_size _ rfl, rfl, rfl⟩, hl'.push _⟩, ?_, by rw [e]; exact hne,
    CmpOf.ints_gt (fun i => ns.getD i 0) (fun i v hv => ints_val hr i v (by rw [Array.getElem?_toList]; exact hv)), ?_⟩)
  · intro b hb
    rw [Heap.size_push]
    rcases List.mem_cons.mp hb with rfl | hb
    · exact Nat.lt_succ_self _
    · rw [List.mem_singleton.mp hb]; exact Nat.lt_succ_of_lt hlt
  · intro v h' tk hv hk
    obtain ⟨t, rfl⟩ := ints_val hr _ v (by rw [Array.getElem?_toList]; exact hv)
    obtain ⟨_, h2⟩ := argBest_max ns (ns.length - 1) (by omega)
    rw [e, h2, show ns.length - 1 + 1 = ns.length by omega, List.take_length]
    refine h _ _ (.both s tk fun b o e => hk b o ?_ (Heap.get?_push_of_some _ e)) (.int _ _)
    simp; exact Nat.ne_of_lt (Heap.lt_size e)
end
end Mine
end

section
open PySem PySem.W PyProof.Rows
open AutoSeq1 (wpAny_loadPart')
set_option Elab.async false
set_option maxRecDepth 100000
set_option linter.unusedVariables false
namespace Mine

section
variable {prog : Program} {w : World} {A : Around} {E : Value → Shared → Prop} {s : Shared}

theorem nextOf_tuple_item {it t : Addr} {i : Nat} {items : Array Value} {x : Value} {Q : Value → Shared → Prop} (hit : s.heap.IsTupleIter it t i) (ht : s.heap.IsTuple t items) (hx : items[i]? = some x)
    (hQ : ∀ h', h'.IsTupleIter it t (i + 1) → Heap.SameBut it s.heap h' → Q x { s with heap := h' }) :
    wpAny (model prog w) A (Builtin.SmallTypes.nextOf (.ref it)) Q E s := by
  obtain ⟨o, ho, hc, hd⟩ := id hit
  obtain ⟨ol, hol, _, nl, hdl⟩ := ht
  unfold Builtin.SmallTypes.nextOf
  refine wpAny_bind (wpAny_callSpecial?_slot (name := Str.ofString "__next__") hit.typeIs F.slot_tuple_iterator_next
    (wpAny_call_entry F.slot_tuple_iterator_next hit.typeIs F.entry_tuple_iterator_next ?_ (F.args_tuple_iterator_next_1 _)))
  show wpAny _ _ (field (.ref it) 0 >>= _) _ _ s
  refine wpAny_bind (wpAny_field ho hd (x := .ref t) rfl ?_)
  show wpAny _ _ (if (Value.ref t == Value.none) = true then _ else _) _ _ s
  rw [if_neg (show ¬ ((Value.ref t == Value.none) = true) from Bool.false_ne_true)]
  show wpAny _ _ (field (.ref it) 1 >>= _) _ _ s
  refine wpAny_bind (wpAny_field ho hd (x := .int i 0) rfl ?_)
  show wpAny _ _ (seqItems? (.ref t) >>= _) _ _ s
  refine wpAny_bind (wpAny_seqItems hol hdl ?_)
  simp only [Int.toNat_natCast, hx]
  refine wpAny_bind (wpAny_setField ho hd (by simp) (wpAny_pure ⟨x, rfl, wpAny_pure (hQ _ ?_ (Heap.SameBut.update ..))⟩))
  exact ⟨_, Heap.get?_update_self _ ho (Obj.isFreed_of_fields (Obj.data_mapFields hd _)), (Obj.cls_mapFields ..).trans hc, by
    rw [Obj.data_mapFields hd]; simp [rawInt]⟩

theorem nextOf_tuple_end {it t : Addr} {i : Nat} {items : Array Value} {Q : Value → Shared → Prop} (hh : A.handled = none) (hit : s.heap.IsTupleIter it t i) (ht : s.heap.IsTuple t items) (hx : items[i]? = none)
    (hE : ∀ h' e, Heap.ExtBut it s.heap h' → (∃ o, h'.get? e = some o ∧ o.cls = .type "StopIteration") → E (.ref e) { s with heap := h' }) :
    wpAny (model prog w) A (Builtin.SmallTypes.nextOf (.ref it)) Q E s := by
  obtain ⟨o, ho, hc, hd⟩ := id hit
  obtain ⟨ol, hol, _, nl, hdl⟩ := ht
  unfold Builtin.SmallTypes.nextOf
  refine wpAny_bind (wpAny_callSpecial?_slot (name := Str.ofString "__next__") hit.typeIs F.slot_tuple_iterator_next
    (wpAny_call_entry F.slot_tuple_iterator_next hit.typeIs F.entry_tuple_iterator_next ?_ (F.args_tuple_iterator_next_1 _)))
  show wpAny _ _ (field (.ref it) 0 >>= _) _ _ s
  refine wpAny_bind (wpAny_field ho hd (x := .ref t) rfl ?_)
  show wpAny _ _ (if (Value.ref t == Value.none) = true then _ else _) _ _ s
  rw [if_neg (show ¬ ((Value.ref t == Value.none) = true) from Bool.false_ne_true)]
  show wpAny _ _ (field (.ref it) 1 >>= _) _ _ s
  refine wpAny_bind (wpAny_field ho hd (x := .int i 0) rfl ?_)
  show wpAny _ _ (seqItems? (.ref t) >>= _) _ _ s
  refine wpAny_bind (wpAny_seqItems hol hdl ?_)
  simp only [Int.toNat_natCast, hx]
  refine wpAny_bind (wpAny_rule (wpAny_bind (wpAny_setField ho hd (by simp) ?_)))
  show wpAny _ _ (newExc (.type "StopIteration") [] >>= _) _ _ _
  refine wpAny_bind ?_
  simp only [newExc, newTuple]
  refine wpAny_bind (wpAny_newObj_type ?_ (by size_fits))
  refine wpAny_bind (m := firstArgMember _ _) (wpAny_of_eq (a := Value.none) (by first | rfl | (simp only [firstArgMember]; rfl)) ?_)
  refine wpAny_newObj_type ?_ (by size_fits)
  simp only [raiseNew]
  refine wpAny_bind (wpAny_handled ?_)
  first | rw [show A.in1.handled = none from hh] | rw [hh]
  refine wpAny_bind (wpAny_pure (wpAny_throw ?_))
  exact hE _ _ (((Heap.SameBut.update ..).extBut.push _).push _) ⟨_, Heap.get?_push_size _ rfl, rfl⟩
end

theorem draws_tuple {prog : Program} {w : World} {A : Around} (hh : A.handled = none) (it l : Addr) (hne : l ≠ it) (items : Array Value) :
    Draws prog w A it [it, l] items.size (fun i v => items[i]? = some v) (fun i h => h.IsTupleIter it l i ∧ h.IsTuple l items) where
  live := fun _ _ st => let ⟨o, ho, _⟩ := st.1; ⟨o, ho⟩
  frame := fun _ _ _ st hk => ⟨st.1.at fun o e => hk it (by simp) o e, st.2.at fun o e => hk l (by simp) o e⟩
  item := fun i s Q E hi st hQ => by
    refine nextOf_tuple_item st.1 st.2 (x := items[i]) (by simp [hi]) fun h' hit' hs' => ?_
    exact hQ _ h' s.toks (by simp [hi]) ⟨hit', st.2.extBut hs'.extBut hne⟩ hs'
  done := fun s Q E st hE => nextOf_tuple_end hh st.1 st.2 (by simp) hE

section
variable {prog : Program} {w : World} {A : Around} {E : Value → Shared → Prop} {s : Shared}

/-- the parts of a zip of two lie apart -/
structure ZApart (z TI TO i1 i2 : Addr) (f1 f2 : List Addr) : Prop where
  TIz : TI ≠ z
  TOz : TO ≠ z
  TITO : TI ≠ TO
  TIi1 : TI ≠ i1
  TIi2 : TI ≠ i2
  z1 : z ∉ f1
  z2 : z ∉ f2
  TO1 : TO ∉ f1
  TO2 : TO ∉ f2
  i1m : i1 ∈ f1
  i2m : i2 ∈ f2
  i12 : i1 ∉ f2
  i21 : i2 ∉ f1

theorem zipNext_item {z TI TO i1 i2 : Addr} {f1 f2 : List Addr} {n1 n2 k : Nat} {P1 P2 : Nat → Value → Prop} {S1 S2 : Nat → Heap → Prop} {a b : Value} {Q : Value → Shared → Prop} (D1 : Draws prog w A i1 f1 n1 P1 S1) (D2 : Draws prog w A i2 f2 n2 P2 S2) (D : ZApart z TI TO i1 i2 f1 f2)
    (hz : IsZip s.heap z TI TO .none) (hTI : IsPair s.heap TI (.ref i1) (.ref i2)) (hTO : IsPair s.heap TO a b) (h1 : S1 k s.heap) (h2 : S2 k s.heap) (hk1 : k < n1) (hk2 : k < n2)
    (hQ : ∀ x y h' tk, P1 k x → P2 k y → IsZip h' z TI TO (rawInt s.heap.objs.size) → IsPair h' TO x y → S1 (k + 1) h' → S2 (k + 1) h' → IsPair h' s.heap.objs.size x y →
      (∀ c o, c ≠ z → c ≠ TO → c ≠ i1 → c ≠ i2 → s.heap.get? c = some o → h'.get? c = some o) → Q (.ref s.heap.objs.size) { s with heap := h', toks := tk }) :
    wpAny (model prog w) A (Builtin.«zip.__next__» ⟨[.ref z], []⟩) (fun fin s' => ∃ v, fin = .done (.ret v) ∧ Q v s') E s := by
  have TOi1 : TO ≠ i1 := fun e => D.TO1 (e ▸ D.i1m)
  have TOi2 : TO ≠ i2 := fun e => D.TO2 (e ▸ D.i2m)
  have i1z : i1 ≠ z := fun e => D.z1 (e ▸ D.i1m)
  have i2z : i2 ≠ z := fun e => D.z2 (e ▸ D.i2m)
  show wpAny _ _ (field (.ref z) 2 >>= _) _ _ _
  refine wpAny_bind (wpAny_field hz rfl (x := .bool false) rfl ?_)
  show wpAny _ _ (field (.ref z) 3 >>= _) _ _ _
  refine wpAny_bind (wpAny_field hz rfl (x := .ref TI) rfl ?_)
  refine wpAny_bind (wpAny_seqItems hTI rfl ?_)
  show wpAny _ _ (Builtin.SmallTypes.ownedTupleIsFree (.ref z) >>= _) _ _ _
  refine wpAny_bind ?_
  unfold Builtin.SmallTypes.ownedTupleIsFree
  refine wpAny_bind (wpAny_field hz rfl (x := .none) rfl (wpAny_pure ?_))
  simp only [if_true]
  refine wpAny_bind (wpAny_rule ?_)
  refine wpAny_bind (wpAny_field hz rfl (x := .ref TO) rfl ?_)
  refine wpAny_bind (wpAny_setField_rec hz (by simp) fun h₁ hz₁ hs₁ => ?_)
  replace hz₁ : IsZip h₁ z TI TO .ellipsis := hz₁
  refine wpAny_bind ?_
  simp only [List.zipIdx_cons, List.zipIdx_nil, List.forIn_cons, List.forIn_nil]
  refine wpAny_bind (wpAny_bind (wpAny_onRaise ?_))
  show wpAny _ _ (Builtin.SmallTypes.nextOf (.ref i1) >>= _) _ _ _
  refine wpAny_bind (D1.item k _ _ _ hk1 (D1.frame _ _ _ h1 fun b hb o e => hs₁.extBut b o (fun q => D.z1 (q ▸ hb)) e) fun x h₂ tk₂ hx h1₂ hs₂ => wpAny_pure ?_)
  replace hs₂ : Heap.SameBut i1 h₁ h₂ := hs₂
  have hTO₂ : IsPair h₂ TO a b := hs₂.extBut _ _ TOi1 (hs₁.extBut _ _ D.TOz hTO)
  refine wpAny_bind (wpAny_seqItems hTO₂ rfl ?_)
  refine wpAny_bind (wpAny_updateSeq_pair hTO₂ fun h₃ hTO₃ hs₃ => ?_)
  replace hTO₃ : IsPair h₃ TO x b := hTO₃
  replace hs₃ : Heap.SameBut TO h₂ h₃ := hs₃
  refine wpAny_bind (wpAny_letGo (wpAny_pure ?_))
  refine wpAny_bind (wpAny_bind (wpAny_onRaise ?_))
  show wpAny _ _ (Builtin.SmallTypes.nextOf (.ref i2) >>= _) _ _ _
  refine wpAny_bind (D2.item k _ _ _ hk2 (D2.frame _ _ _ h2 fun b hb o e => hs₃.extBut b o (fun q => D.TO2 (q ▸ hb)) (hs₂.extBut b o (fun q => D.i12 (q ▸ hb)) (hs₁.extBut b o (fun q => D.z2 (q ▸ hb)) e))) fun y h₄ tk₄ hy h2₄ hs₄ => wpAny_pure ?_)
  replace hs₄ : Heap.SameBut i2 h₃ h₄ := hs₄
  have hTO₄ : IsPair h₄ TO x b := hs₄.extBut _ _ TOi2 hTO₃
  refine wpAny_bind (wpAny_seqItems hTO₄ rfl ?_)
  refine wpAny_bind (wpAny_updateSeq_pair hTO₄ fun h₅ hTO₅ hs₅ => ?_)
  replace hTO₅ : IsPair h₅ TO x y := hTO₅
  replace hs₅ : Heap.SameBut TO h₄ h₅ := hs₅
  refine wpAny_bind (wpAny_letGo (wpAny_pure (wpAny_pure ?_)))
  refine wpAny_bind (wpAny_seqItems hTO₅ rfl ?_)
  refine wpAny_bind (wpAny_newTuple ?_)
  have hsz : h₅.objs.size = s.heap.objs.size := by rw [hs₅.1, hs₄.1, hs₃.1, hs₂.1, hs₁.1]
  have hz₅ : IsZip h₅ z TI TO .ellipsis := hs₅.extBut _ _ D.TOz.symm (hs₄.extBut _ _ i2z.symm (hs₃.extBut _ _ D.TOz.symm (hs₂.extBut _ _ i1z.symm hz₁)))
  have hk₅ : ∀ c o, c ≠ z → c ≠ TO → c ≠ i1 → c ≠ i2 → s.heap.get? c = some o → h₅.get? c = some o := fun c o c1 c2 c3 c4 e =>
    hs₅.extBut _ _ c2 (hs₄.extBut _ _ c4 (hs₃.extBut _ _ c2 (hs₂.extBut _ _ c3 (hs₁.extBut _ _ c1 e))))
  have hzlt : z < h₅.objs.size := Heap.lt_size hz₅
  show wpAny _ _ (Builtin.SmallTypes.ownedTupleHandOut (.ref z) (.ref h₅.objs.size) >>= _) _ _ _
  refine wpAny_bind ?_
  unfold Builtin.SmallTypes.ownedTupleHandOut
  have hz₆ : IsZip (h₅.push { cls := .type "tuple", data := .seq #[x, y] }) z TI TO .ellipsis := Heap.get?_push_of_some _ hz₅
  refine wpAny_bind (wpAny_setField_rec hz₆ (by simp) fun h₇ hz₇ hs₇ => ?_)
  replace hz₇ : IsZip h₇ z TI TO (rawInt h₅.objs.size) := hz₇
  refine wpAny_setField_rec hz₇ (by simp) fun h₈ hz₈ hs₈ => ?_
  replace hz₈ : IsZip h₈ z TI TO (rawInt h₅.objs.size) := hz₈
  have up : ∀ c o, c ≠ z → h₅.get? c = some o → h₈.get? c = some o := fun c o c1 e => hs₈.extBut _ _ c1 (hs₇.extBut _ _ c1 (Heap.get?_push_of_some _ e))
  have hT₈ : IsPair h₈ h₅.objs.size x y := hs₈.extBut _ _ (Nat.ne_of_gt hzlt) (hs₇.extBut _ _ (Nat.ne_of_gt hzlt) (Heap.get?_push_size _ rfl))
  rw [hsz] at hz₈ hT₈
  refine wpAny_pure ⟨_, rfl, ?_⟩
  show Q (.ref h₅.objs.size) _
  rw [hsz]
  refine hQ x y h₈ _ hx hy hz₈ (up _ _ D.TOz hTO₅) (D1.frame _ _ _ h1₂ fun b hb o e => ?_) (D2.frame _ _ _ h2₄ fun b hb o e => ?_) hT₈ fun c o c1 c2 c3 c4 e => up c o c1 (hk₅ c o c1 c2 c3 c4 e)
  · exact up b o (fun q => D.z1 (q ▸ hb)) (hs₅.extBut b o (fun q => D.TO1 (q ▸ hb)) (hs₄.extBut b o (fun q => D.i21 (q ▸ hb)) (hs₃.extBut b o (fun q => D.TO1 (q ▸ hb)) e)))
  · exact up b o (fun q => D.z2 (q ▸ hb)) (hs₅.extBut b o (fun q => D.TO2 (q ▸ hb)) e)

theorem zipNext_end {z TI TO i1 i2 : Addr} {f1 f2 : List Addr} {n : Nat} {P1 P2 : Nat → Value → Prop} {S1 S2 : Nat → Heap → Prop} {a b : Value} {Q : Fin → Shared → Prop} (D1 : Draws prog w A i1 f1 n P1 S1) (D2 : Draws prog w A i2 f2 n P2 S2) (D : ZApart z TI TO i1 i2 f1 f2)
    (hz : IsZip s.heap z TI TO .none) (hTI : IsPair s.heap TI (.ref i1) (.ref i2)) (hTO : IsPair s.heap TO a b) (h1 : S1 n s.heap)
    (hE : ∀ h' e, (∀ c o, c ≠ z → c ≠ TO → c ≠ i1 → c ≠ i2 → s.heap.get? c = some o → h'.get? c = some o) → (∃ o, h'.get? e = some o ∧ o.cls = .type "StopIteration") → E (.ref e) { s with heap := h' }) :
    wpAny (model prog w) A (Builtin.«zip.__next__» ⟨[.ref z], []⟩) Q E s := by
  have i1z : i1 ≠ z := fun e => D.z1 (e ▸ D.i1m)
  show wpAny _ _ (field (.ref z) 2 >>= _) _ _ _
  refine wpAny_bind (wpAny_field hz rfl (x := .bool false) rfl ?_)
  show wpAny _ _ (field (.ref z) 3 >>= _) _ _ _
  refine wpAny_bind (wpAny_field hz rfl (x := .ref TI) rfl ?_)
  refine wpAny_bind (wpAny_seqItems hTI rfl ?_)
  show wpAny _ _ (Builtin.SmallTypes.ownedTupleIsFree (.ref z) >>= _) _ _ _
  refine wpAny_bind ?_
  unfold Builtin.SmallTypes.ownedTupleIsFree
  refine wpAny_bind (wpAny_field hz rfl (x := .none) rfl (wpAny_pure ?_))
  simp only [if_true]
  refine wpAny_bind (wpAny_rule ?_)
  refine wpAny_bind (wpAny_field hz rfl (x := .ref TO) rfl ?_)
  refine wpAny_bind (wpAny_setField_rec hz (by simp) fun h₁ hz₁ hs₁ => ?_)
  replace hz₁ : IsZip h₁ z TI TO .ellipsis := hz₁
  refine wpAny_bind ?_
  simp only [List.zipIdx_cons, List.zipIdx_nil, List.forIn_cons, List.forIn_nil]
  refine wpAny_bind (wpAny_bind (wpAny_onRaise ?_))
  show wpAny _ _ (Builtin.SmallTypes.nextOf (.ref i1) >>= _) _ _ _
  refine wpAny_bind (D1.done _ _ _ (D1.frame _ _ _ h1 fun b hb o e => hs₁.extBut b o (fun q => D.z1 (q ▸ hb)) e) fun h₂ e hs₂ he => ?_)
  obtain ⟨oe, hoe, hce⟩ := he
  have hz₂ : IsZip h₂ z TI TO .ellipsis := hs₂ _ _ i1z.symm hz₁
  have hez : e ≠ z := fun x => by subst x; rw [hz₂] at hoe; cases hoe; simp at hce
  refine wpAny_setField_rec hz₂ (by simp) fun h₃ _ hs₃ => hE h₃ e (fun c o c1 _ c3 _ x => hs₃.extBut _ _ c1 (hs₂ _ _ c3 (hs₁.extBut _ _ c1 x))) ⟨oe, hs₃.extBut _ _ hez hoe, hce⟩
end

/-- a zip of two draws of one length, as it is walked -/
theorem walksT_zip {prog : Program} {w : World} {A : Around} (hh : A.handled = none) {z TI TO i1 i2 : Addr} {f1 f2 : List Addr} {n : Nat} {P1 P2 : Nat → Value → Prop} {S1 S2 : Nat → Heap → Prop} (D1 : Draws prog w A.in1 i1 f1 n P1 S1) (D2 : Draws prog w A.in1 i2 f2 n P2 S2) (D : ZApart z TI TO i1 i2 f1 f2) :
    WalksT prog w A z (z :: TI :: TO :: (f1 ++ f2)) [z, TO, i1, i2] n
      (fun i vals => ∃ x y, P1 i x ∧ P2 i y ∧ vals = #[x, y])
      (fun i h => IsZip h z TI TO .none ∧ IsPair h TI (.ref i1) (.ref i2) ∧ (∃ a b, IsPair h TO a b) ∧ S1 i h ∧ S2 i h)
      (fun i T h => IsZip h z TI TO (rawInt T) ∧ IsPair h TI (.ref i1) (.ref i2) ∧ (∃ a b, IsPair h TO a b) ∧ S1 (i + 1) h ∧ S2 (i + 1) h ∧ T ≠ z ∧ T ≠ TO ∧ T ≠ i1 ∧ T ≠ i2) where
  sub := fun c hc => by
    simp only [List.mem_cons, List.not_mem_nil, or_false, List.mem_append] at hc ⊢
    rcases hc with rfl | rfl | rfl | rfl
    · exact .inl rfl
    · exact .inr (.inr (.inl rfl))
    · exact .inr (.inr (.inr (.inl D.i1m)))
    · exact .inr (.inr (.inr (.inr D.i2m)))
  frame := fun i h h' hst hk => by
    obtain ⟨hz, hTI, ⟨a, b, hTO⟩, h1, h2⟩ := hst
    exact ⟨hk z (by simp) _ hz, hk TI (by simp) _ hTI, ⟨a, b, hk TO (by simp) _ hTO⟩, D1.frame _ _ _ h1 fun b hb o e => hk b (by simp [hb]) o e, D2.frame _ _ _ h2 fun b hb o e => hk b (by simp [hb]) o e⟩
  item := fun i s Q E hi hst hQ => by
    obtain ⟨hz, hTI, ⟨a, b, hTO⟩, h1, h2⟩ := hst
    have hT : s.TypeIs (.ref z) "zip" := ⟨_, hz, rfl⟩
    have lt : ∀ {c o}, s.heap.get? c = some o → s.heap.objs.size ≠ c := fun e => Nat.ne_of_gt (Heap.lt_size e)
    unfold pyNext
    refine wpAny_bind (wpAny_attempt (wpAny_callSpecial?_slot (name := Str.ofString "__next__") hT F.slot_zip_next
      (wpAny_call_entry F.slot_zip_next hT F.entry_zip_next (zipNext_item D1 D2 D hz hTI hTO h1 h2 hi hi fun x y h' tk hx hy a1 a2 a3 a4 a5 hk => wpAny_pure ?_) (F.args_zip_next_1 _))))
    exact hQ s.heap.objs.size #[x, y] h' tk ⟨_, _, hx, hy, rfl⟩ (Nat.le_refl _) ⟨_, a5, rfl, _, rfl⟩
      ⟨a1, hk _ _ D.TIz D.TITO D.TIi1 D.TIi2 hTI, ⟨_, _, a2⟩, a3, a4, lt hz, lt hTO, (by obtain ⟨_, e⟩ := D1.live _ _ h1; exact lt e), (by obtain ⟨_, e⟩ := D2.live _ _ h2; exact lt e)⟩
      fun c o hc e => hk c o (fun x => hc (by simp [x])) (fun x => hc (by simp [x])) (fun x => hc (by simp [x])) (fun x => hc (by simp [x])) e
  go := fun elts k pos i T s Q E hm hQ => by
    obtain ⟨hz, hTI, ⟨a, b, hTO⟩, h1, h2, _⟩ := hm
    refine wpAny_letOwnedTupleGo_zip hz fun h' hz' hs' => hQ h' ⟨hz', hs'.extBut _ _ D.TIz hTI, ⟨a, b, hs'.extBut _ _ D.TOz hTO⟩, D1.frame _ _ _ h1 fun b hb o e => hs'.extBut b o (fun q => D.z1 (q ▸ hb)) e, D2.frame _ _ _ h2 fun b hb o e => hs'.extBut b o (fun q => D.z2 (q ▸ hb)) e⟩
      fun c o hc e => hs'.extBut _ _ (fun x => hc (by simp [x])) e
  apart := fun i T h hm hT => by
    obtain ⟨_, _, _, _, _, t1, t2, t3, t4⟩ := hm
    simp at hT
    rcases hT with rfl | rfl | rfl | rfl
    · exact t1 rfl
    · exact t2 rfl
    · exact t3 rfl
    · exact t4 rfl
  done := fun s Q E hst hQ => by
    obtain ⟨hz, hTI, ⟨a, b, hTO⟩, h1, h2⟩ := hst
    have hT : s.TypeIs (.ref z) "zip" := ⟨_, hz, rfl⟩
    unfold pyNext
    refine wpAny_bind (wpAny_attempt (wpAny_callSpecial?_slot (name := Str.ofString "__next__") hT F.slot_zip_next
      (wpAny_call_entry F.slot_zip_next hT F.entry_zip_next (zipNext_end D1 D2 D hz hTI hTO h1 fun h' e hk he => ?_) (F.args_zip_next_1 _))))
    obtain ⟨o, ho, hc⟩ := he
    refine wpAny_bind (wpAny_isInstance (T := "StopIteration") (b := true) ⟨o, ho, hc⟩ isSubtype_stop ?_)
    exact wpAny_pure (hQ h' s.toks fun c o hc e => hk c o (fun x => hc (by simp [x])) (fun x => hc (by simp [x])) (fun x => hc (by simp [x])) (fun x => hc (by simp [x])) e)
  self := fun i s Q E hst hQ => wpAny_pyIter_zip hst.1 hQ

/-- asked for its iterator, a value makes one new object -/
def IterPush (h : Heap) (v : Value) (o : Obj) : Prop := ∀ (prog : Program) (w : World) (A : Around) (s : Shared) (Q : Value → Shared → Prop) (E : Value → Shared → Prop), Keep h s.heap → Q (.ref s.heap.objs.size) { s with heap := s.heap.push o } → wpAny (model prog w) A (pyIter v) Q E s
theorem iterPush_tuple {h : Heap} {t : Addr} {items : Array Value} (ht : h.IsTuple t items) : IterPush h (.ref t) { cls := .type "tuple_iterator", data := .fields #[.ref t, .int 0 0] } :=
  fun prog w A s Q E k hq => wpAny_pyIter_tuple (let ⟨o, e, r⟩ := ht; ⟨o, k _ _ e, r⟩) hq
theorem iterPush_str {h : Heap} {x : Str} {t : Tok} (ha : x.cps.all (· < 128) = true) : IterPush h (.str x t) { cls := .type "str_ascii_iterator", data := .fields #[.str x t, .int 0 0] } :=
  fun prog w A s Q E k hq => wpAny_pyIter_ascii ha hq

abbrev zp3 (h : Heap) (o1 o2 : Obj) : Heap := ((h.push o1).push o2).push { cls := .type "tuple", data := .seq #[.ref h.objs.size, .ref (h.push o1).objs.size] }
abbrev zp4 (h : Heap) (o1 o2 : Obj) : Heap := (zp3 h o1 o2).push { cls := .type "tuple", data := .seq #[.none, .none] }
abbrev zp5 (h : Heap) (o1 o2 : Obj) : Heap := (zp4 h o1 o2).push { cls := .type "zip", data := .fields #[.none, .bool false, .bool false, .ref ((h.push o1).push o2).objs.size, .ref (zp3 h o1 o2).objs.size] }

theorem meets_zip {v1 v2 : Value} {o1 o2 : Obj} :
    Meets (Builtin.«zip.__new__» ⟨[.type "zip", v1, v2], []⟩) (fun _ R s => IterPush s.heap v1 o1 ∧ IterPush s.heap v2 o2 ∧ R (.ok (.ret (.ref (zp4 s.heap o1 o2).objs.size))) { s with heap := zp5 s.heap o1 o2 }) :=
  .of_wp fun prog w A R s h => by
    obtain ⟨hp, g, d, tk, os⟩ := s; obtain ⟨p1, p2, h⟩ := h
    have hsub := sub_zip
    have q1 : ∀ {A : Around} {E : Value → Shared → Prop} {Q : Value → Shared → Prop}, Q (.ref hp.objs.size) ⟨hp.push o1, g, d, tk, os⟩ → wpAny (model prog w) A (pyIter v1) Q E ⟨hp, g, d, tk, os⟩ := fun hq => p1 _ _ _ _ _ _ (fun _ _ e => e) hq
    have q2 : ∀ {A : Around} {E : Value → Shared → Prop} {Q : Value → Shared → Prop}, Q (.ref (hp.push o1).objs.size) ⟨(hp.push o1).push o2, g, d, tk, os⟩ → wpAny (model prog w) A (pyIter v2) Q E ⟨hp.push o1, g, d, tk, os⟩ := fun hq => p2 _ _ _ _ _ _ (fun _ _ e => Heap.get?_push_of_some _ e) hq
    wp_walk using q1, q2
    exact ⟨_, rfl, h⟩
end Mine
end

section
open PySem PySem.W PyProof.Rows
open AutoSeq1 (wpAny_loadPart')
set_option Elab.async false
set_option maxRecDepth 100000
set_option linter.unusedVariables false
namespace Mine

section
variable {prog : Program} {w : World} {A : Around} {E : Value → Shared → Prop} {s : Shared}

theorem call_zip {v1 v2 : Value} {o1 o2 : Obj} {Q : Value → Shared → Prop} (p1 : IterPush s.heap v1 o1) (p2 : IterPush s.heap v2 o2) (f1 : o1.isFreed = false) (f2 : o2.isFreed = false)
    (h : ∀ h', IsZip h' (s.heap.objs.size + 4) (s.heap.objs.size + 2) (s.heap.objs.size + 3) .none → IsPair h' (s.heap.objs.size + 2) (.ref s.heap.objs.size) (.ref (s.heap.objs.size + 1)) →
      IsPair h' (s.heap.objs.size + 3) .none .none → h'.get? s.heap.objs.size = some o1 → h'.get? (s.heap.objs.size + 1) = some o2 →
      (∀ c o, s.heap.get? c = some o → h'.get? c = some o) → Q (.ref (s.heap.objs.size + 4)) { s with heap := h' }) :
    wpAny (model prog w) A (call (.type "zip") [v1, v2]) Q E s := by
  refine callType_new F.called_zip (by decide) (F.typeCall_zip_2 _ _) (F.newCall_zip_2 _ _) (fun obj => F.args_object_init_3 obj _ _) F.entry_zip_new meets_zip ⟨p1, p2, ?_⟩
  have z1 : (s.heap.push o1).objs.size = s.heap.objs.size + 1 := Heap.size_push ..
  have z2 : ((s.heap.push o1).push o2).objs.size = s.heap.objs.size + 2 := by rw [Heap.size_push, z1]
  have z3 : (zp3 s.heap o1 o2).objs.size = s.heap.objs.size + 3 := by rw [Heap.size_push, z2]
  have z4 : (zp4 s.heap o1 o2).objs.size = s.heap.objs.size + 4 := by rw [Heap.size_push, z3]
  have g5 : (zp5 s.heap o1 o2).get? (zp4 s.heap o1 o2).objs.size = some _ := Heap.get?_push_size _ rfl
  have g4 : (zp5 s.heap o1 o2).get? (zp3 s.heap o1 o2).objs.size = some _ := Heap.get?_push_of_some _ (Heap.get?_push_size _ rfl)
  have g3 : (zp5 s.heap o1 o2).get? ((s.heap.push o1).push o2).objs.size = some _ := Heap.get?_push_of_some _ (Heap.get?_push_of_some _ (Heap.get?_push_size _ rfl))
  have g2 : (zp5 s.heap o1 o2).get? (s.heap.push o1).objs.size = some _ := Heap.get?_push_of_some _ (Heap.get?_push_of_some _ (Heap.get?_push_of_some _ (Heap.get?_push_size _ f2)))
  have g1 : (zp5 s.heap o1 o2).get? s.heap.objs.size = some _ := Heap.get?_push_of_some _ (Heap.get?_push_of_some _ (Heap.get?_push_of_some _ (Heap.get?_push_of_some _ (Heap.get?_push_size _ f1))))
  show _ ∧ _
  rw [z2, z3, z4] at g5
  rw [z1, z2] at g3
  rw [z3] at g4
  rw [z1] at g2
  rw [z4]
  exact ⟨⟨_, g5, rfl⟩, h _ g5 g3 g4 g1 g2 fun c o x => Heap.get?_push_of_some _ (Heap.get?_push_of_some _ (Heap.get?_push_of_some _ (Heap.get?_push_of_some _ (Heap.get?_push_of_some _ x))))⟩
end

set_option maxHeartbeats 1000000 in
theorem meets_enumT (l : Addr) (items : Array Value) (n : Nat) (dct : Option Addr) (sl : Array (Option Value)) :
    Meets (Builtin.«enumerate.__new__» ⟨[.type "enumerate", .ref l], []⟩) (fun _ R s => s.heap.get? l = some { cls := .type "tuple", dict := dct, data := .seq items n, slots := sl } ∧
      R (.ok (.ret (.ref (s.heap.push { cls := .type "tuple_iterator", data := .fields #[.ref l, .int 0 0] }).objs.size)))
        { s with heap := (s.heap.push { cls := .type "tuple_iterator", data := .fields #[.ref l, .int 0 0] }).push { cls := .type "enumerate", data := .fields #[.none, .bool false, .ref s.heap.objs.size, rawInt 0, .none, .none] } }) :=
  .of_wp fun prog w A R s h => by
    obtain ⟨hp, g, d, tk, os⟩ := s; obtain ⟨hl, h⟩ := h
    have hsub := sub_enumerate
    have hL : Heap.IsTuple (Shared.heap ⟨hp, g, d, tk, os⟩) l items := ⟨_, hl, rfl, n, rfl⟩
    wp_walk using wpAny_loadPart' hl
    refine wpAny_stack_any fun st => wpAny_pure ?_
    split
    · rename_i c _ _ _ _ _
      cases (c == Value.type "enumerate")
      · wp_walk using wpAny_loadPart' hl, wpAny_pyIter_tuple hL
        exact ⟨_, rfl, h⟩
      · wp_walk using wpAny_loadPart' hl, wpAny_pyIter_tuple hL
        exact ⟨_, rfl, h⟩
    · wp_walk using wpAny_loadPart' hl, wpAny_pyIter_tuple hL
      exact ⟨_, rfl, h⟩

theorem call_enum {prog : Program} {w : World} {A : Around} {E : Value → Shared → Prop} {s : Shared} {l : Addr} {items : Array Value} {Q : Value → Shared → Prop} (hL : s.heap.IsTuple l items)
    (h : ∀ h', IsEnum h' (s.heap.objs.size + 1) s.heap.objs.size 0 .none → h'.IsTupleIter s.heap.objs.size l 0 →
      (∀ b o, s.heap.get? b = some o → h'.get? b = some o) → Q (.ref (s.heap.objs.size + 1)) { s with heap := h' }) :
    wpAny (model prog w) A (call (.type "enumerate") [.ref l]) Q E s := by
  obtain ⟨⟨c, dct, dt, sl⟩, hl, hc, n, hd⟩ := hL
  replace hc : c = .type "tuple" := hc
  replace hd : dt = .seq items n := hd
  subst hc hd
  refine callType_new F.called_enumerate (by decide) (F.typeCall_enumerate_1 _) (F.newCall_enumerate_1 _) (fun obj => F.args_object_init_2 obj _) F.entry_enumerate_new
    (meets_enumT l items n dct sl) ⟨hl, ?_⟩
  have hz : (s.heap.push { cls := .type "tuple_iterator", data := .fields #[.ref l, .int 0 0] }).objs.size = s.heap.objs.size + 1 := Heap.size_push ..
  show _ ∧ _
  rw [hz]
  have he : IsEnum ((s.heap.push { cls := .type "tuple_iterator", data := .fields #[.ref l, .int 0 0] }).push
      { cls := .type "enumerate", data := .fields #[.none, .bool false, .ref s.heap.objs.size, rawInt 0, .none, .none] }) (s.heap.objs.size + 1) s.heap.objs.size 0 .none := by
    have := Heap.get?_push_size (s.heap.push { cls := .type "tuple_iterator", data := .fields #[.ref l, .int 0 0] })
      (o := { cls := .type "enumerate", data := .fields #[.none, .bool false, .ref s.heap.objs.size, rawInt 0, .none, .none] }) rfl
    rw [hz] at this; exact this
  exact ⟨⟨_, he, rfl⟩, h _ he ⟨_, Heap.get?_push_of_some _ (Heap.get?_push_size _ rfl), rfl, rfl⟩ fun b o x => Heap.get?_push_of_some _ (Heap.get?_push_of_some _ x)⟩

section
variable {c : Cx} {B : Heap → Prop}

theorem src_list {iter : Expr} {x : Str} {px : Pos} {α : Type} {xs : List α} {enc : α → PyData} (O : c.Ok B) (he : Ev c iter (.list (xs.map enc))) : Src c iter (.Name x px) [x] xs (fun a => [enc a]) := fun s Q E k h =>
  he s _ _ k fun v s₁ k₁ r₁ => by
    obtain ⟨a, items, rfl, hl, hr⟩ := r₁.inv_list
    have hl' := (of_hid_list hl).2
    have hlt : a < s₁.heap.objs.size := by obtain ⟨o, e, _⟩ := hl'; exact Heap.lt_size e
    have hsz : items.size = xs.length := by have := hr.length; simpa using this
    refine wpAny_pyIter_list hl' (h s₁.heap.objs.size [s₁.heap.objs.size, a] [s₁.heap.objs.size] _ _ s₁.heap (k₁.trans (.push s₁ _)) k₁.keep (fun _ _ e => Heap.get?_push_of_some _ e) ?_ ?_ ?_
      (Feed.ofWalks (Walks.list O.a.handled _ a (Nat.ne_of_lt hlt) items) ?_ hsz.symm ?_))
    · intro b hb
      rcases List.mem_cons.mp hb with rfl | hb
      · exact ⟨⟨_, Heap.get?_push_size _ rfl⟩, (O.live.keep fun b o e => k₁.keep b o (k b o e)).fresh (Nat.le_refl _)⟩
      · rw [List.mem_singleton.mp hb]; obtain ⟨o, e, _⟩ := hl'; exact ⟨⟨o, Heap.get?_push_of_some _ e⟩, (of_hid_list hl).1⟩
    · intro b hb
      rw [List.mem_singleton.mp hb]
      cases q : s₁.heap.get? s₁.heap.objs.size with
      | none => rfl
      | some o => exact absurd (Heap.lt_size q) (Nat.lt_irrefl _)
    · exact ⟨⟨_, Heap.get?_push_size _ rfl, rfl, rfl⟩, hl'.push _⟩
    · intro i h hst b hb
      rw [List.mem_singleton.mp hb]
      obtain ⟨⟨o, e, _⟩, _⟩ := hst
      exact ⟨o, e⟩
    · intro i a' v hx hv
      obtain ⟨v', hv', rv⟩ := hr.get (i := i) (d := enc a') (by simp [hx])
      have : v' = v := by
        have e1 : items.toList[i]? = some v := by rw [Array.getElem?_toList]; exact hv
        rw [e1] at hv'; exact (Option.some.inj hv').symm
      subst this
      exact .cons rv .nil

theorem src_tuple {iter : Expr} {x : Str} {px : Pos} {α : Type} {xs : List α} {enc : α → PyData} (O : c.Ok B) (he : Ev c iter (.tuple (xs.map enc))) : Src c iter (.Name x px) [x] xs (fun a => [enc a]) := fun s Q E k h =>
  he s _ _ k fun v s₁ k₁ r₁ => by
    obtain ⟨a, items, rfl, hl, hr⟩ := r₁.inv_tuple
    have hl' := (of_hid_tuple hl).2
    have hlt : a < s₁.heap.objs.size := by obtain ⟨o, e, _⟩ := hl'; exact Heap.lt_size e
    have hsz : items.size = xs.length := by have := hr.length; simpa using this
    refine wpAny_pyIter_tuple hl' (h s₁.heap.objs.size [s₁.heap.objs.size, a] [s₁.heap.objs.size] _ _ s₁.heap (k₁.trans (.push s₁ _)) k₁.keep (fun _ _ e => Heap.get?_push_of_some _ e) ?_ ?_ ?_
      (Feed.ofWalks (Walks.tuple O.a.handled _ a (Nat.ne_of_lt hlt) items) ?_ hsz.symm ?_))
    · intro b hb
      rcases List.mem_cons.mp hb with rfl | hb
      · exact ⟨⟨_, Heap.get?_push_size _ rfl⟩, (O.live.keep fun b o e => k₁.keep b o (k b o e)).fresh (Nat.le_refl _)⟩
      · rw [List.mem_singleton.mp hb]; obtain ⟨o, e, _⟩ := hl'; exact ⟨⟨o, Heap.get?_push_of_some _ e⟩, (of_hid_tuple hl).1⟩
    · intro b hb
      rw [List.mem_singleton.mp hb]
      cases q : s₁.heap.get? s₁.heap.objs.size with
      | none => rfl
      | some o => exact absurd (Heap.lt_size q) (Nat.lt_irrefl _)
    · exact ⟨⟨_, Heap.get?_push_size _ rfl, rfl, rfl⟩, hl'.push _⟩
    · intro i h hst b hb
      rw [List.mem_singleton.mp hb]
      obtain ⟨⟨o, e, _⟩, _⟩ := hst
      exact ⟨o, e⟩
    · intro i a' v hx hv
      obtain ⟨v', hv', rv⟩ := hr.get (i := i) (d := enc a') (by simp [hx])
      have : v' = v := by
        have e1 : items.toList[i]? = some v := by rw [Array.getElem?_toList]; exact hv
        rw [e1] at hv'; exact (Option.some.inj hv').symm
      subst this
      exact .cons rv .nil

def upto (n : Nat) : List Int := (List.range n).map fun (i : Nat) => (i : Int)
theorem upto_length (n : Nat) : (upto n).length = n := by simp [upto]
theorem upto_get {n i : Nat} {a : Int} (h : (upto n)[i]? = some a) : a = (i : Int) ∧ i < n := by
  unfold upto at h
  rw [List.getElem?_map] at h
  obtain ⟨j, hj, rfl⟩ := Option.map_eq_some_iff.mp h
  obtain ⟨h1, h2⟩ := List.getElem?_eq_some_iff.mp hj
  simp at h1 h2
  exact ⟨by omega, h1⟩

theorem src_range {x r : Str} {px p pos : Pos} {e : Expr} {n : Nat} (O : c.Ok B) (hf : EvP c (.Name r p) (fun _ u => u = .type "range")) (he : Ev c e (.int n)) (hn : n ≤ sizeLine)
    (hs : starEach [e] c.env = [(false, eval e c.env)]) : Src c (.Call (.Name r p) [e] [] pos) (.Name x px) [x] (upto n) (fun a => [.int a]) := fun s Q E k h => by
  have hl : EvL c pos [e] [.int n] := evl_cons he evl_nil hs
  refine Call_Name rfl (hf s _ _ k fun v s₁ k₁ r₁ => ?_)
  subst r₁
  refine PyProof.Rows.callWith_type1 (hl s₁ _ _ (fun b o e => k₁.keep b o (k b o e)) fun vs s₂ k₂ r₂ => ?_) (by rw [hs]; rfl) rfl
  obtain ⟨v, vs', rfl, r3, r4⟩ := r₂.inv_cons
  rw [r4.inv_nil]
  obtain ⟨t, rfl⟩ := r3.inv_int
  refine call_range_1 ?_
  rw [sizeLine_eq] at hn
  have k2 := k₁.trans k₂
  refine wpAny_pyIter_range (Heap.get?_push_size _ rfl) (small_one (by omega) (by omega) (by omega) (by omega)) ?_
  have hrs : Builtin.Range.rangeSize 0 (n : Int) 1 = (n : Int) := by rw [rangeSize_nat]; omega
  rw [hrs]
  have k3 : Kp s₂ { s₂ with heap := (s₂.heap.push { cls := .type "range", data := .fields #[.int 0 s₂.toks, .int n t, .int 1 (s₂.toks + 1)] }), toks := s₂.toks + 1 + 1 } := .both s₂ _ fun _ _ e => Heap.get?_push_of_some _ e
  refine h _ [_] [_] (fun i h => IsRangeIter h (s₂.heap.push { cls := .type "range", data := .fields #[.int 0 s₂.toks, .int n t, .int 1 (s₂.toks + 1)] }).objs.size (0 + (i : Nat) * 1) ((n : Int) - (i : Nat)) 1) _ (s₂.heap.push { cls := .type "range", data := .fields #[.int 0 s₂.toks, .int n t, .int 1 (s₂.toks + 1)] })
    ((k2.trans k3).trans (.push _ _)) (fun b o e => Heap.get?_push_of_some _ (k2.keep b o e)) (fun b o e => Heap.get?_push_of_some _ e) ?_ ?_ ?_ (Feed.ofWalks (Walks.range O.a.handled _ 0 1 n) ?_ (upto_length n) ?_)
  · intro b hb; rw [List.mem_singleton.mp hb]; exact ⟨⟨_, Heap.get?_push_size _ rfl⟩, (O.live.keep fun b o e => Heap.get?_push_of_some _ (k2.keep b o (k b o e))).fresh (Nat.le_refl _)⟩
  · intro b hb; rw [List.mem_singleton.mp hb]
    exact Heap.get?_none_of_le (Nat.le_refl _)
  · have : ((0 : Nat) : Int) = 0 := rfl
    show IsRangeIter _ _ (0 + ((0 : Nat) : Int) * 1) ((n : Int) - ((0 : Nat) : Int)) 1
    rw [this, show (0 : Int) + 0 * 1 = 0 from rfl, Int.sub_zero]
    exact Heap.get?_push_size _ rfl
  · intro i h hst b hb
    rw [List.mem_singleton.mp hb]
    exact ⟨_, hst⟩
  · rintro i a v hx ⟨t', rfl⟩
    obtain ⟨rfl, _⟩ := upto_get hx
    have : (0 : Int) + (i : Int) * 1 = (i : Int) := by omega
    rw [this]
    exact .cons (.int _ _) .nil
end
end Mine
end

section
open PySem PySem.W PyProof.Rows
set_option Elab.async false
set_option maxRecDepth 100000
set_option linter.unusedVariables false
namespace Mine

theorem Draws.weaken {prog : Program} {w : World} {A : Around} {it : Addr} {fp : List Addr} {n m : Nat} {P P' : Nat → Value → Prop} {St : Nat → Heap → Prop} (D : Draws prog w A it fp n P St) (hn : n = m) (hP : ∀ i v, P i v → P' i v) : Draws prog w A it fp m P' St where
  live := D.live
  frame := D.frame
  item := fun i s Q E hi st hQ => D.item i s Q E (hn ▸ hi) st fun x h' tk hx => hQ x h' tk (hP i x hx)
  done := fun s Q E st hE => D.done s Q E (hn ▸ st) hE

/-- what an iterator over data does -/
structure ItD (X : List Addr) (h : Heap) (v : Value) (ds : List PyData) (o : Obj) (fp : Addr → List Addr) (S : Addr → Nat → Heap → Prop) : Prop where
  push : IterPush h v o
  free : o.isFreed = false
  draws : ∀ (prog : Program) (w : World) (A : Around) (I : Addr), A.handled = none → h.get? I = none → Draws prog w A I (fp I) ds.length (fun i u => ∃ d, ds[i]? = some d ∧ Rd X h u d) (S I)
  start : ∀ h' I, Keep h h' → h'.get? I = some o → S I 0 h'
  self : ∀ I, I ∈ fp I
  old : ∀ I b, b ∈ fp I → b = I ∨ ((∃ oo, h.get? b = some oo) ∧ b ∉ X)

inductive IterD : PyData → List PyData → Prop
  | tuple (ds : List PyData) : IterD (.tuple ds) ds
  | str (x : Str) (ha : x.cps.all (· < 128) = true) : IterD (.str x) (x.cps.toList.map fun c => .str ⟨#[c]⟩)

theorem itd_of {X : List Addr} {h : Heap} {v : Value} {d : PyData} {ds : List PyData} (r : Rd X h v d) (hi : IterD d ds) : ∃ o fp S, ItD X h v ds o fp S := by
  cases hi with
  | tuple =>
    obtain ⟨a, items, rfl, hl, hr⟩ := r.inv_tuple
    have ht := (of_hid_tuple hl).2
    have hsz : items.size = ds.length := by have := hr.length; simpa using this
    refine ⟨_, fun I => [I, a], fun I i h => h.IsTupleIter I a i ∧ h.IsTuple a items, iterPush_tuple ht, rfl, fun prog w A I hh hI => ?_, fun h' I k e => ⟨⟨_, e, rfl, rfl⟩, let ⟨o, q, r⟩ := ht; ⟨o, k _ _ q, r⟩⟩, fun I => .head _, fun I b hb => ?_⟩
    · refine Draws.weaken (draws_tuple hh I a (fun e => ?_) items) hsz fun i u hu => ?_
      · obtain ⟨o, q, _⟩ := ht; rw [e, hI] at q; cases q
      · have e1 : items.toList[i]? = some u := by rw [Array.getElem?_toList]; exact hu
        have hlt : i < ds.length := by rw [← hsz]; exact (Array.getElem?_eq_some_iff.mp hu).1
        obtain ⟨v', hv', rv⟩ := hr.get (List.getElem?_eq_getElem hlt)
        rw [e1] at hv'; cases hv'
        exact ⟨_, List.getElem?_eq_getElem hlt, rv⟩
    · rcases List.mem_cons.mp hb with rfl | hb
      · exact .inl rfl
      · rw [List.mem_singleton.mp hb]; obtain ⟨o, q, _⟩ := ht; exact .inr ⟨⟨o, q⟩, (of_hid_tuple hl).1⟩
  | str x ha =>
    obtain ⟨t, rfl⟩ := r.inv_str
    refine ⟨_, fun I => [I], fun I i h => h.IsStrIter I "str_ascii_iterator" x t i, iterPush_str ha, rfl, fun prog w A I hh hI => ?_, fun h' I k e => ⟨_, e, rfl, rfl⟩, fun I => .head _, fun I b hb => .inl (List.mem_singleton.mp hb)⟩
    refine Draws.weaken (Draws.strAscii hh I x t) (by simp) fun i u hu => ?_
    obtain ⟨cc, uu, hc, rfl⟩ := hu
    exact ⟨.str ⟨#[cc]⟩, by simp [hc], .str _ _⟩

section
variable {c : Cx} {B : Heap → Prop}

theorem src_zip {z xa xb : Str} {p pa pb pt pos : Pos} {kt : Nat} {e1 e2 : Expr} {d1 d2 : PyData} {α : Type} {xs : List α} {f1 f2 : α → PyData} (O : c.Ok B) (hf : EvP c (.Name z p) (fun _ u => u = .type "zip"))
    (h1 : Ev c e1 d1) (h2 : Ev c e2 d2) (i1 : IterD d1 (xs.map f1)) (i2 : IterD d2 (xs.map f2)) (hs : starEach [e1, e2] c.env = [(false, eval e1 c.env), (false, eval e2 c.env)]) (hs2 : starEach [e2] c.env = [(false, eval e2 c.env)]) :
    Src c (.Call (.Name z p) [e1, e2] [] pos) (.Tuple [.Name xa pa, .Name xb pb] kt pt) [xa, xb] xs (fun a => [f1 a, f2 a]) := fun s Q E k h => by
  have hl : EvL c pos [e1, e2] [d1, d2] := evl_cons h1 (evl_cons h2 evl_nil hs2) (by rw [hs, hs2])
  refine Call_Name rfl (hf s _ _ k fun v s₁ k₁ r₁ => ?_)
  subst r₁
  refine PyProof.Rows.callWith_type1 (hl s₁ _ _ (fun b o e => k₁.keep b o (k b o e)) fun vs s₂ k₂ r₂ => ?_) (by rw [hs, hs2]) (by rw [hs2]; rfl)
  obtain ⟨v1, vs', rfl, r3, r4⟩ := r₂.inv_cons
  obtain ⟨v2, vs'', rfl, r5, r6⟩ := r4.inv_cons
  rw [r6.inv_nil]
  obtain ⟨o1, fp1, S1, D1⟩ := itd_of r3 i1
  obtain ⟨o2, fp2, S2, D2⟩ := itd_of r5 i2
  have k2 := k₁.trans k₂
  refine call_zip D1.push D2.push D1.free D2.free fun h' a1 a2 a3 a4 a5 a6 => ?_
  have hnone : ∀ a, s₂.heap.objs.size ≤ a → s₂.heap.get? a = none := fun a ha => Heap.get?_none_of_le ha
  have fresh : ∀ {a b : Addr} {oo : Obj}, s₂.heap.get? b = some oo → s₂.heap.objs.size ≤ a → a ≠ b := fun {a b oo} e ha q => by rw [← q, hnone a ha] at e; cases e
  have notIn : ∀ {fp : Addr → List Addr} {I a : Addr} (old : ∀ I b, b ∈ fp I → b = I ∨ ((∃ oo, s₂.heap.get? b = some oo) ∧ b ∉ c.X)), s₂.heap.objs.size ≤ a → a ≠ I → a ∉ fp I := fun {fp I a} old ha hne hm => by
    rcases old I a hm with q | ⟨⟨oo, e⟩, _⟩
    · exact hne q
    · exact fresh e ha rfl
  have le : ∀ j : Nat, s₂.heap.objs.size ≤ s₂.heap.objs.size + j := fun j => Nat.le_add_right _ _
  have ne : ∀ {i j : Nat}, i ≠ j → s₂.heap.objs.size + i ≠ s₂.heap.objs.size + j := fun h e => h (Nat.add_left_cancel e)
  have D : ZApart (s₂.heap.objs.size + 4) (s₂.heap.objs.size + 2) (s₂.heap.objs.size + 3) s₂.heap.objs.size (s₂.heap.objs.size + 1) (fp1 s₂.heap.objs.size) (fp2 (s₂.heap.objs.size + 1)) := {
    TIz := ne (by decide), TOz := ne (by decide), TITO := ne (by decide), TIi1 := ne (i := 2) (j := 0) (by decide), TIi2 := ne (by decide)
    z1 := notIn D1.old (le 4) (ne (i := 4) (j := 0) (by decide)), z2 := notIn D2.old (le 4) (ne (by decide))
    TO1 := notIn D1.old (le 3) (ne (i := 3) (j := 0) (by decide)), TO2 := notIn D2.old (le 3) (ne (by decide))
    i1m := D1.self _, i2m := D2.self _
    i12 := notIn D2.old (le 0) (ne (i := 0) (j := 1) (by decide)), i21 := notIn D1.old (le 1) (ne (i := 1) (j := 0) (by decide)) }
  have W1 := D1.draws c.prog c.w c.A.in1 s₂.heap.objs.size O.a.handled (hnone _ (le 0))
  have W2 := D2.draws c.prog c.w c.A.in1 (s₂.heap.objs.size + 1) O.a.handled (hnone _ (le 1))
  rw [List.length_map] at W1 W2
  have st1 := D1.start h' _ a6 a4
  have st2 := D2.start h' _ a6 a5
  have W := walksT_zip O.a.handled W1 W2 D
  refine wpAny_pyIter_zip a1 (h (s₂.heap.objs.size + 4) _ _ _ { s₂ with heap := h' } s₂.heap (k2.trans (.heap s₂ a6)) k2.keep a6 ?_ ?_ ⟨a1, a2, ⟨_, _, a3⟩, st1, st2⟩ (Feed.ofWalksT O.a.handled W ?_ rfl ?_))
  · intro b hb
    have L := O.live.keep fun b o e => k2.keep b o (k b o e)
    have live1 : ∀ b ∈ fp1 s₂.heap.objs.size, (∃ o, h'.get? b = some o) ∧ b ∉ c.X := fun b hb => by
      rcases D1.old _ b hb with rfl | ⟨⟨oo, e⟩, q⟩
      · exact ⟨⟨_, a4⟩, L.fresh (le 0)⟩
      · exact ⟨⟨oo, a6 _ _ e⟩, q⟩
    have live2 : ∀ b ∈ fp2 (s₂.heap.objs.size + 1), (∃ o, h'.get? b = some o) ∧ b ∉ c.X := fun b hb => by
      rcases D2.old _ b hb with rfl | ⟨⟨oo, e⟩, q⟩
      · exact ⟨⟨_, a5⟩, L.fresh (le 1)⟩
      · exact ⟨⟨oo, a6 _ _ e⟩, q⟩
    simp only [List.mem_cons, List.mem_append] at hb
    rcases hb with rfl | rfl | rfl | hb | hb
    · exact ⟨⟨_, a1⟩, L.fresh (le 4)⟩
    · exact ⟨⟨_, a2⟩, L.fresh (le 2)⟩
    · exact ⟨⟨_, a3⟩, L.fresh (le 3)⟩
    · exact live1 b hb
    · exact live2 b hb
  · intro b hb
    simp only [List.mem_cons, List.not_mem_nil, or_false] at hb
    rcases hb with rfl | rfl | rfl | rfl
    · exact hnone _ (le 4)
    · exact hnone _ (le 3)
    · exact hnone _ (le 0)
    · exact hnone _ (le 1)
  · rintro i g ⟨b1, b2, ⟨x, y, b3⟩, b4, b5⟩ b hb
    simp only [List.mem_cons, List.not_mem_nil, or_false] at hb
    rcases hb with rfl | rfl | rfl | rfl
    · exact ⟨_, b1⟩
    · exact ⟨_, b3⟩
    · exact W1.live _ _ b4
    · exact W2.live _ _ b5
  · rintro i a vals hx ⟨x, y, ⟨dx, hdx, rx⟩, ⟨dy, hdy, ry⟩, rfl⟩
    rw [List.getElem?_map, hx] at hdx hdy
    cases hdx; cases hdy
    exact ⟨x, y, rfl, .cons rx (.cons ry .nil)⟩

/-- places and items -/
theorem src_enum {z xa xb : Str} {p pa pb pt pos : Pos} {kt : Nat} {e1 : Expr} {ns : List Int} (O : c.Ok B) (hf : EvP c (.Name z p) (fun _ u => u = .type "enumerate")) (h1 : Ev c e1 (.tuple (ns.map PyData.int)))
    (hs : starEach [e1] c.env = [(false, eval e1 c.env)]) :
    Src c (.Call (.Name z p) [e1] [] pos) (.Tuple [.Name xa pa, .Name xb pb] kt pt) [xa, xb] ((upto ns.length).zip ns) (fun a => [.int a.1, .int a.2]) := fun s Q E k h => by
  have hl : EvL c pos [e1] [.tuple (ns.map PyData.int)] := evl_cons h1 evl_nil hs
  refine Call_Name rfl (hf s _ _ k fun v s₁ k₁ r₁ => ?_)
  subst r₁
  refine PyProof.Rows.callWith_type1 (hl s₁ _ _ (fun b o e => k₁.keep b o (k b o e)) fun vs s₂ k₂ r₂ => ?_) (by rw [hs]; rfl) rfl
  obtain ⟨v1, vs', rfl, r3, r4⟩ := r₂.inv_cons
  rw [r4.inv_nil]
  obtain ⟨a, items, rfl, hl', hr⟩ := r3.inv_tuple
  have ht := (of_hid_tuple hl').2
  have hsz : items.size = ns.length := by have := hr.length; simpa using this
  have k2 := k₁.trans k₂
  have hnone : ∀ a, s₂.heap.objs.size ≤ a → s₂.heap.get? a = none := fun a ha => Heap.get?_none_of_le ha
  have hane : ∀ j : Nat, s₂.heap.objs.size + j ≠ a := fun j q => by obtain ⟨o, e, _⟩ := ht; rw [← q, hnone _ (Nat.le_add_right _ _)] at e; cases e
  refine call_enum ht fun h' a1 a2 a6 => ?_
  have D := draws_tuple (prog := c.prog) (w := c.w) (A := c.A.in1) O.a.handled s₂.heap.objs.size a (hane 0).symm items
  have W := WalksT.enumerateD D (s₂.heap.objs.size + 1) (by exact Nat.succ_ne_self _) (by
    intro hm
    rcases List.mem_cons.mp hm with q | hm
    · exact absurd q (Nat.succ_ne_self _)
    · exact hane 1 (List.mem_singleton.mp hm)) (.head _)
  refine wpAny_pyIter_enum a1 (h (s₂.heap.objs.size + 1) _ _ _ { s₂ with heap := h' } s₂.heap (k2.trans (.heap s₂ a6)) k2.keep a6 ?_ ?_ ⟨⟨_, a1⟩, a2, let ⟨o, e, r⟩ := ht; ⟨o, a6 _ _ e, r⟩⟩ (Feed.ofWalksT O.a.handled W ?_ ?_ ?_))
  · intro b hb
    have L := O.live.keep fun b o e => k2.keep b o (k b o e)
    simp only [List.mem_cons, List.not_mem_nil, or_false] at hb
    rcases hb with rfl | rfl | rfl
    · exact ⟨⟨_, a1⟩, L.fresh (Nat.le_succ _)⟩
    · obtain ⟨o, e, _⟩ := a2; exact ⟨⟨o, e⟩, L.fresh (Nat.le_refl _)⟩
    · obtain ⟨o, e, _⟩ := ht; exact ⟨⟨o, a6 _ _ e⟩, (of_hid_tuple hl').1⟩
  · intro b hb
    simp only [List.mem_cons, List.not_mem_nil, or_false] at hb
    rcases hb with rfl | rfl
    · exact hnone _ (Nat.le_succ _)
    · exact hnone _ (Nat.le_refl _)
  · rintro i g ⟨⟨old, b1⟩, b2, b3⟩ b hb
    simp only [List.mem_cons, List.not_mem_nil, or_false] at hb
    rcases hb with rfl | rfl
    · exact ⟨_, b1⟩
    · obtain ⟨o, e, _⟩ := b2; exact ⟨o, e⟩
  · rw [List.length_zip, upto_length, hsz, Nat.min_self]
  · rintro i q vals hx ⟨t, x, hxi, rfl⟩
    obtain ⟨qa, qb⟩ := q
    have hx' := List.getElem?_zip_eq_some.mp hx
    obtain ⟨rfl, _⟩ := upto_get hx'.1
    obtain ⟨t', rfl⟩ := ints_val hr i x (by rw [Array.getElem?_toList]; exact hxi)
    have e2 : ns.getD i 0 = qb := by rw [List.getD_eq_getElem?_getD, hx'.2]; rfl
    rw [e2]
    exact ⟨_, _, rfl, .cons (.int _ _) (.cons (.int _ _) .nil)⟩
end
end Mine
end

section
open PySem PySem.W PyProof.Rows PySem.SeqAt
open Builtin.Str (tooLong)
set_option Elab.async false
set_option maxRecDepth 100000
set_option linter.unusedVariables false
namespace Mine

section
variable {c : Cx} {B : Heap → Prop}

theorem ev_index_list {val idx : Expr} {pos : Pos} {ds : List PyData} {i : Nat} {d : PyData} (h1 : Ev c val (.list ds)) (h2 : Ev c idx (.int i)) (hd : ds[i]? = some d) (hi : i ≤ sizeLine)
    (hs : ∀ o j, subscripted idx false o j = operate [o, j] (getItem o j)) : Ev c (.Subscript val idx pos) d := fun s Q E k h =>
  Subscript_ (h1 s _ _ k fun v s₁ k₁ r₁ => h2 s₁ _ _ (fun b o e => k₁.keep b o (k b o e)) fun j s₂ k₂ r₂ => by
    obtain ⟨t, rfl⟩ := r₂.inv_int
    obtain ⟨a, items, rfl, hl, hr⟩ := (r₁.keep k₂.keep).inv_list
    obtain ⟨x, hx, rx⟩ := hr.get hd
    have hl' := (of_hid_list hl).2
    rw [sizeLine_eq] at hi
    exact tail_any hl'.typeIs slot_list_getitem.lookup (wpAny_getItem_list hl' (by omega) (by omega) (by rw [Int.toNat_natCast, ← Array.getElem?_toList]; exact hx) (h _ _ (k₁.trans k₂) rx)) (hs _ _))
theorem ev_index_tuple {val idx : Expr} {pos : Pos} {ds : List PyData} {i : Nat} {d : PyData} (h1 : Ev c val (.tuple ds)) (h2 : Ev c idx (.int i)) (hd : ds[i]? = some d) (hi : i ≤ sizeLine)
    (hs : ∀ o j, subscripted idx false o j = operate [o, j] (getItem o j)) : Ev c (.Subscript val idx pos) d := fun s Q E k h =>
  Subscript_ (h1 s _ _ k fun v s₁ k₁ r₁ => h2 s₁ _ _ (fun b o e => k₁.keep b o (k b o e)) fun j s₂ k₂ r₂ => by
    obtain ⟨t, rfl⟩ := r₂.inv_int
    obtain ⟨a, items, rfl, hl, hr⟩ := (r₁.keep k₂.keep).inv_tuple
    obtain ⟨x, hx, rx⟩ := hr.get hd
    have hl' : IsTup s₂.heap a items := (of_hid_tuple hl).2
    rw [sizeLine_eq] at hi
    have hlt : i < items.size := by have := (List.getElem?_eq_some_iff.mp hx).1; simpa using this
    exact tail_any hl'.typeIs slot_tuple_getitem.lookup (getItem_tuple (j := i) hl' (by omega) (by omega) (by unfold seqIndex?; simp; omega) (by rw [← Array.getElem?_toList]; exact hx) (h _ _ (k₁.trans k₂) rx)) (hs _ _))

/-- a part of a slice -/
def EvPart (c : Cx) (e : Option Expr) (n : Option Int) : Prop := ∀ (s : Shared) (Q : Value → Shared → Prop) (E : Value → Shared → Prop), Keep c.h s.heap → (∀ v s', Kp s s' → IsPart v n → Q v s') → wpAny c.M c.A (evalPart e c.env) Q E s
theorem part_none : EvPart c none none := fun s Q E k h => wpAny_evalPart_none (h _ _ (.refl s) .none)
theorem part_some {e : Expr} {i : Int} (he : Ev c e (.int i)) : EvPart c (some e) (some i) := fun s Q E k h => wpAny_evalPart_some (he s _ _ k fun v s' k' r => by obtain ⟨t, rfl⟩ := r.inv_int; exact h _ _ k' (.int i t))

theorem ev_slice {val : Expr} {lo hi : Option Expr} {p pos : Pos} {ds es : List PyData} {nl nh : Option Int} (O : c.Ok B) (h1 : Ev c val (.list ds)) (h2 : EvPart c lo nl) (h3 : EvPart c hi nh) (hsz : ds.length ≤ sizeLine)
    (hp : ∀ items : Array Value, ∀ X h, RdL X h items.toList ds → RdL X h (slicePick items nl nh none).toList es) : Ev c (.Subscript val (.Slice lo hi none p) pos) (.list es) := fun s Q E k h =>
  Subscript_ (h1 s _ _ k fun v s₁ k₁ r₁ => by
    refine wpAny_Slice (h2 s₁ _ _ (fun b o e => k₁.keep b o (k b o e)) fun vl s₂ k₂ p₂ => h3 s₂ _ _ (fun b o e => k₂.keep b o (k₁.keep b o (k b o e))) fun vu s₃ k₃ p₃ => ?_)
    have K := (k₁.trans k₂).trans k₃
    rw [evalPart_none]
    refine wpAny_pure ?_
    obtain ⟨a, items, rfl, hl, hr⟩ := (r₁.keep (k₂.trans k₃).keep).inv_list
    have hl' := (of_hid_list hl).2
    have e : items.size = ds.length := by have := hr.length; simpa using this
    refine tail_any (T := "list") (hl'.push _).typeIs slot_list_getitem.lookup (wpAny_getItem_list_slice (hl'.push _) (Heap.IsSliceOf.new ..) p₂ p₃ .none (by simp) ?_ (by rw [e]; exact hsz)) rfl
    have k4 : Kp s₃ { s₃ with heap := s₃.heap.push { cls := .type "slice", data := .fields #[vl, vu, .none] } } := .push s₃ _
    refine h _ _ ((K.trans k4).trans (.push _ _)) ?_
    have L := O.live.keep fun b o e => k4.keep b o (K.keep b o (k b o e))
    have := push_list (s := { s₃ with heap := s₃.heap.push { cls := .type "slice", data := .fields #[vl, vu, .none] } }) (vs := (slicePick items nl nh none).toList) L (hp items _ _ (hr.keep k4.keep))
    simpa using this)
theorem RdL.take {X : List Addr} {h : Heap} {vs : List Value} {ds : List PyData} (r : RdL X h vs ds) : ∀ n, RdL X h (vs.take n) (ds.take n) := fun n => by
  induction ds generalizing vs n with
  | nil => rw [r.inv_nil]; simp; exact .nil
  | cons d ds ih =>
    obtain ⟨v, vs', rfl, r1, r2⟩ := r.inv_cons
    cases n with
    | zero => exact .nil
    | succ n => exact .cons r1 (ih r2 n)
theorem RdL.drop {X : List Addr} {h : Heap} {vs : List Value} {ds : List PyData} (r : RdL X h vs ds) : ∀ n, RdL X h (vs.drop n) (ds.drop n) := fun n => by
  induction ds generalizing vs n with
  | nil => rw [r.inv_nil]; simp; exact .nil
  | cons d ds ih =>
    obtain ⟨v, vs', rfl, r1, r2⟩ := r.inv_cons
    cases n with
    | zero => exact r
    | succ n => exact ih r2 n
theorem ev_upto {val e : Expr} {p pos : Pos} {ds : List PyData} {n : Nat} (O : c.Ok B) (h1 : Ev c val (.list ds)) (h2 : Ev c e (.int n)) (hsz : ds.length ≤ sizeLine) : Ev c (.Subscript val (.Slice none (some e) none p) pos) (.list (ds.take n)) :=
  ev_slice O h1 part_none (part_some h2) hsz fun items X h r => by rw [slicePick_upto']; exact r.take n
theorem ev_from {val e : Expr} {p pos : Pos} {ds : List PyData} {n : Nat} (O : c.Ok B) (h1 : Ev c val (.list ds)) (h2 : Ev c e (.int n)) (hsz : ds.length ≤ sizeLine) : Ev c (.Subscript val (.Slice (some e) none none p) pos) (.list (ds.drop n)) :=
  ev_slice O h1 (part_some h2) part_none hsz fun items X h r => by rw [slicePick_from']; exact r.drop n

theorem op_ladd {ds es : List PyData} (O : c.Ok B) (hsz : ds.length + es.length ≤ sizeLine) : Op2 c (binaryOp .Add) (.list ds) (.list es) (.list (ds ++ es)) := fun s v1 v2 Q E k r1 r2 h => by
  obtain ⟨l, items, rfl, hl, hr⟩ := r1.inv_list
  obtain ⟨b, items2, rfl, hb, hr2⟩ := r2.inv_list
  have e1 : items.size = ds.length := by have := hr.length; simpa using this
  have e2 : items2.size = es.length := by have := hr2.length; simpa using this
  obtain ⟨⟨cls, dd, data, sl⟩, ho, hc, n, hd⟩ := (of_hid_list hl).2
  obtain ⟨⟨cls2, dd2, data2, sl2⟩, ho2, hc2, n2, hd2⟩ := (of_hid_list hb).2
  simp only at hc hd hc2 hd2
  subst hc hd hc2 hd2
  refine concat_meets ⟨_, ho, rfl⟩ ⟨_, ho2, rfl⟩ noFill_list_add seq_list_add PySem.F.slot_list_add PySem.F.entry_list_add (PySem.F.args_list_add_2 _ _) (list_addW l b items items2 n n2 dd dd2 sl sl2 (by rw [e1, e2]; exact hsz)) ⟨ho, ho2, ?_⟩
  refine h _ _ (.push s _) ?_
  have := push_list (s := s) (vs := items.toList ++ items2.toList) (O.live.keep k) (hr.append hr2)
  have e3 : (items.toList ++ items2.toList).toArray = items ++ items2 := by simp
  rw [e3] at this
  exact this

theorem mul_list_at {prog : Program} {w : World} {A : Around} {E : Value → Shared → Prop} {s : Shared} {l : Addr} {items : Array Value} {x : Int} {u : Tok} {Q : Value → Shared → Prop} (hl : s.heap.IsList l items)
    (hlo : -(2 ^ 63 : Int) ≤ x) (hhi : x < 2 ^ 63) (hsz : items.size * x.toNat ≤ 2 ^ 24)
    (h : Q (.ref s.heap.objs.size) { s with heap := s.heap.push { cls := .type "list", data := .seq (List.replicate x.toNat items.toList).flatten.toArray } }) :
    wpAny (model prog w) A (binaryOp .Mult (.ref l) (.int x u)) Q E s := by
  obtain ⟨⟨cls, d, data, sl⟩, ho, hcl, k, hd⟩ := id hl
  simp only at hcl hd
  subst hcl hd
  refine wpAny_binaryOp_repeat_ref (T := "list") (U := "int") (by decide) ⟨_, ho, rfl⟩ (fun s' => typeIs_int s' x u) noFill_list_mul F.fills_int_mul F.slot_int_rmul repeat_list F.slot_int_index.lookup
    (call_meets F.slot_int_rmul (typeIs_int s x u) F.entry_int_rmul (F.args_int_rmul_2 _ _) (lm_int_rmul_list_any x u l items k d sl)
      ⟨ho, rfl, ⟨_, ho, rfl⟩, call_meets F.slot_list_mul ⟨_, ho, rfl⟩ F.entry_list_mul (F.args_list_mul_2 _ _)
        (lm_list_mul_any l items k d sl x u (by simp [Builtin.List.listFitsIndex]; omega) (by omega) (by simp [Builtin.List.listTooLong, sizeLine]; omega))
        ⟨ho, ?_⟩⟩)
  rw [listMul_foldl_if]
  exact h
theorem op_lmul {ds : List PyData} {x : Int} (O : c.Ok B) (h0 : 0 ≤ x) (hn : x ≤ 1000) (hd : ds.length ≤ 1000) : Op2 c (binaryOp .Mult) (.list ds) (.int x) (.list (List.replicate x.toNat ds).flatten) := fun s v1 v2 Q E k r1 r2 h => by
  obtain ⟨l, items, rfl, hl, hr⟩ := r1.inv_list
  obtain ⟨u, rfl⟩ := r2.inv_int
  have e1 : items.size = ds.length := by have := hr.length; simpa using this
  refine mul_list_at (of_hid_list hl).2 (by omega) (by omega) ?_ ?_
  · rw [e1]
    have : ds.length * x.toNat ≤ 1000 * 1000 := Nat.mul_le_mul hd (by omega)
    omega
  refine h _ _ (.push s _) ?_
  have rr : ∀ j : Nat, RdL c.X s.heap (List.replicate j items.toList).flatten (List.replicate j ds).flatten := fun j => by
    induction j with
    | zero => exact .nil
    | succ j ih => rw [List.replicate_succ, List.replicate_succ, List.flatten_cons, List.flatten_cons]; exact hr.append ih
  exact push_list (s := s) (O.live.keep k) (rr _)

theorem op_smul {x : Str} {n : Nat} (hn : n ≤ 1000) (hx : x.length ≤ 1000) : Op2 c (binaryOp .Mult) (.str x) (.int n) (.str (Txt.mul x n)) := fun s v1 v2 Q E k r1 r2 h => by
  obtain ⟨t, rfl⟩ := r1.inv_str; obtain ⟨u, rfl⟩ := r2.inv_int
  refine SB.mul ⟨by simp; omega, fun h1 h2 => ?_, fun h1 h2 => ?_⟩ fun t' kk => h _ _ (.toks s _) (.str _ _)
  · have : (9223372036854775807 : Int) / n ≥ 1000 := by
      have : (0 : Int) < n := by omega
      exact (Int.le_ediv_iff_mul_le this).mpr (by omega)
    have e : (2 : Int) ^ 63 - 1 = 9223372036854775807 := by decide
    rw [e]; omega
  · unfold tooLong
    have : x.length * n ≤ 1000 * 1000 := Nat.mul_le_mul hx hn
    simp [sizeLine]; omega

theorem op_in {ds : List PyData} {d : PyData} (O : c.Ok B) (h1 : PyData.canLayAll0 ds = true) (h2 : d.canLay0 = true) (h3 : d.depth ≤ 64) : Op2 c (compareOp .In) d (.list ds) (.bool (ds.any fun y => PyData.eqv y d)) := fun s v1 v2 Q E k r1 r2 h => by
  obtain ⟨_, q1⟩ := r1.here; obtain ⟨_, q2⟩ := r2.here
  have := O.a.units
  have hm : min (PyData.depthAll ds) d.depth ≤ d.depth := Nat.min_le_right _ _
  exact in_list_reads q2 q1 h1 h2 (by omega) (h _ _ (.refl s) (.bool _))
theorem op_notin {ds : List PyData} {d : PyData} (O : c.Ok B) (h1 : PyData.canLayAll0 ds = true) (h2 : d.canLay0 = true) (h3 : d.depth ≤ 64) : Op2 c (compareOp .NotIn) d (.list ds) (.bool (!ds.any fun y => PyData.eqv y d)) := fun s v1 v2 Q E k r1 r2 h => by
  obtain ⟨_, q1⟩ := r1.here; obtain ⟨_, q2⟩ := r2.here
  have := O.a.units
  have hm : min (PyData.depthAll ds) d.depth ≤ d.depth := Nat.min_le_right _ _
  exact notIn_list_reads q2 q1 h1 h2 (by omega) (h _ _ (.refl s) (.bool _))
theorem op_deq {d1 d2 : PyData} (O : c.Ok B) (h1 : shaped d1 = true) (h2 : shaped d2 = true) : Op2 c (compareOp .Eq) d1 d2 (.bool (PyData.eqv d1 d2)) := fun s v1 v2 Q E k r1 r2 h => by
  obtain ⟨_, q1⟩ := r1.here; obtain ⟨_, q2⟩ := r2.here
  have := O.a.units
  exact eq_dataH q1 q2 h1 h2 (by omega) (h _ _ (.refl s) (.bool _))
theorem op_dne {d1 d2 : PyData} (O : c.Ok B) (h1 : shaped d1 = true) (h2 : shaped d2 = true) : Op2 c (compareOp .NotEq) d1 d2 (.bool (!PyData.eqv d1 d2)) := fun s v1 v2 Q E k r1 r2 h => by
  obtain ⟨_, q1⟩ := r1.here; obtain ⟨_, q2⟩ := r2.here
  have := O.a.units
  exact ne_dataH q1 q2 h1 h2 (by omega) (h _ _ (.refl s) (.bool _))

/-- a method of a text -/
theorem ev_smeth0 {o : Expr} {name : Str} {apos pos : Pos} {id : String} {x y : Str} (h1 : Ev c o (.str x)) (slot : Slot "str" name id) (hty : typeOf (.builtin id) = pure (.type "method_descriptor"))
    (hc : ∀ (s : Shared) (t : Tok) (Q : Value → Shared → Prop) (E : Value → Shared → Prop), Q (.str y s.toks) { s with toks := s.toks + 1 } → wpAny c.M c.A (call (.builtin id) [.str x t]) Q E s)
    (hbase : attributeBase o name c.env (eval o c.env) = eval o c.env) (hline : (apos.endLine == pos.line) = true) : Ev c (.Call (.Attribute o name apos) [] [] pos) (.str y) := fun s Q E k h =>
  Call_method0 hbase hline (h1 s _ _ k fun v s₁ k₁ r₁ => by
    obtain ⟨t, rfl⟩ := r₁.inv_str
    refine ⟨"str", id, F.plainAttrs_str, slot, hty, typeIs_str _ _ _, (fun _ e => nomatch e), ?_⟩
    exact Calls.callWith_builtin rfl (evalArgs_nil3 (hc s₁ t _ _ (h _ _ (k₁.trans (.toks s₁ _)) (.str _ _)))))
theorem ev_upper {o : Expr} {apos pos : Pos} {x : Str} (h1 : Ev c o (.str x)) (hfit : tooLong (Txt.upper x).length = false) (hbase : attributeBase o (Str.ofString "upper") c.env (eval o c.env) = eval o c.env) (hline : (apos.endLine == pos.line) = true) :
    Ev c (.Call (.Attribute o (Str.ofString "upper") apos) [] [] pos) (.str (Txt.upper x)) :=
  ev_smeth0 h1 F.slot_str_upper F.type_str_upper (fun s t Q E hq => SC.upper hfit hq) hbase hline
theorem ev_lower {o : Expr} {apos pos : Pos} {x : Str} (h1 : Ev c o (.str x)) (hfit : tooLong (Txt.lower x).length = false) (hbase : attributeBase o (Str.ofString "lower") c.env (eval o c.env) = eval o c.env) (hline : (apos.endLine == pos.line) = true) :
    Ev c (.Call (.Attribute o (Str.ofString "lower") apos) [] [] pos) (.str (Txt.lower x)) :=
  ev_smeth0 h1 F.slot_str_lower F.type_str_lower (fun s t Q E hq => SC.lower hfit hq) hbase hline

theorem strs_val {X : List Addr} {h : Heap} {vs : List Value} {ys : List Str} (r : RdL X h vs (ys.map PyData.str)) : ∃ l : List (Str × Tok), vs = strValues l ∧ l.map (·.1) = ys := by
  induction ys generalizing vs with
  | nil => exact ⟨[], r.inv_nil, rfl⟩
  | cons y ys ih =>
    obtain ⟨v, vs', rfl, r1, r2⟩ := r.inv_cons
    obtain ⟨t, rfl⟩ := r1.inv_str
    obtain ⟨l, rfl, rfl⟩ := ih r2
    exact ⟨(y, t) :: l, rfl, rfl⟩
theorem ev_join {o e : Expr} {apos pos : Pos} {x : Str} {ys : List Str} (h1 : Ev c o (.str x)) (h2 : Ev c e (.list (ys.map PyData.str))) (hok : JoinOk x ys = true) (hbase : attributeBase o (Str.ofString "join") c.env (eval o c.env) = eval o c.env) (hline : (apos.endLine == pos.line) = true)
    (hs : starEach [e] c.env = [(false, eval e c.env)]) : Ev c (.Call (.Attribute o (Str.ofString "join") apos) [e] [] pos) (.str (Txt.join x ys)) := fun s Q E k h =>
  Call_method1 hbase hs hline (h1 s _ _ k fun v s₁ k₁ r₁ => by
    obtain ⟨t, rfl⟩ := r₁.inv_str
    refine ⟨"str", _, F.plainAttrs_str, F.slot_str_join, F.type_str_join, typeIs_str _ _ _, (fun _ e => nomatch e), ?_⟩
    refine Calls.callWith_builtin rfl (Calls.evalArgs_plain (Calls.spliced_cons (h2 s₁ _ _ (fun b o e => k₁.keep b o (k b o e)) fun v2 s₂ k₂ r₂ => Calls.spliced_nil ?_)))
    obtain ⟨a, items, rfl, hl, hr⟩ := r₂.inv_list
    obtain ⟨l, hl1, hl2⟩ := strs_val hr
    have hl' := (of_hid_list hl).2
    have e : items = (strValues l).toArray := by rw [← hl1]
    rw [e] at hl'
    exact SC.join hl' hl2 hok fun t' kk => h _ _ ((k₁.trans k₂).trans (.toks s₂ _)) (.str _ _))
theorem ev_split {o e : Expr} {apos pos : Pos} {x y : Str} (O : c.Ok B) (h1 : Ev c o (.str x)) (h2 : Ev c e (.str y)) (hy : (y.length == 0) = false) (hsz : x.length ≤ sizeLine) (hsz2 : (Builtin.Str.partsBetween x (Builtin.Str.occurrences x y 0 x.length (x.length + 1)) y.length).length ≤ sizeLine)
    (hn1 : (decide (x.length < y.length) || decide (Builtin.Str.strKind x < Builtin.Str.strKind y)) = false) (hn2 : (Builtin.Str.occurrences x y 0 x.length (x.length + 1)).isEmpty = false)
    (hbase : attributeBase o (Str.ofString "split") c.env (eval o c.env) = eval o c.env) (hline : (apos.endLine == pos.line) = true) (hs : starEach [e] c.env = [(false, eval e c.env)]) :
    Ev c (.Call (.Attribute o (Str.ofString "split") apos) [e] [] pos) (.list ((Txt.split x y).map PyData.str)) := fun s Q E k h =>
  Call_method1 hbase hs hline (h1 s _ _ k fun v s₁ k₁ r₁ => by
    obtain ⟨t, rfl⟩ := r₁.inv_str
    refine ⟨"str", _, F.plainAttrs_str, F.slot_str_split, F.type_str_split, typeIs_str _ _ _, (fun _ e => nomatch e), ?_⟩
    refine Calls.callWith_builtin rfl (Calls.evalArgs_plain (Calls.spliced_cons (h2 s₁ _ _ (fun b o e => k₁.keep b o (k b o e)) fun v2 s₂ k₂ r₂ => Calls.spliced_nil ?_)))
    obtain ⟨u, rfl⟩ := r₂.inv_str
    have K := k₁.trans k₂
    have L := O.live.keep fun b o e => K.keep b o (k b o e)
    refine call_meets F.slot_str_split (typeIs_str _ _ _) F.entry_str_split (F.args_str_split_2 _ _) (meets_str_split_sep x y t u hn1 hy hn2 hsz hsz2) ?_
    show wants Q E _ { s₂ with toks := _, heap := s₂.heap.push { cls := .type "list", data := .seq (strsFrom s₂.toks (Builtin.Str.partsBetween x (Builtin.Str.occurrences x y 0 x.length (x.length + 1)) y.length)).toArray } }
    refine h _ _ (K.trans (.both s₂ _ fun _ _ e => Heap.get?_push_of_some _ e)) ?_
    refine push_list (s := s₂) L ?_
    have e4 : Txt.split x y = Builtin.Str.partsBetween x (Builtin.Str.occurrences x y 0 x.length (x.length + 1)) y.length := (if_neg (ne_true_of_eq_false hn1)).trans (if_neg (ne_true_of_eq_false hn2))
    rw [e4]
    generalize Builtin.Str.partsBetween x (Builtin.Str.occurrences x y 0 x.length (x.length + 1)) y.length = ps
    rw [strsFrom_eq]
    generalize s₂.toks = tk
    clear h hsz2 e4
    induction ps generalizing tk with
    | nil => exact .nil
    | cons q ps ih => exact .cons (.str _ _) (ih _))
end
end Mine
end

section
open PySem PySem.W PyProof.Rows PySem.SeqAt
set_option Elab.async false
set_option maxRecDepth 100000
set_option linter.unusedVariables false
namespace Mine

/-- what stands of the program's top -/
structure Bs (K : Frag) (mg mb : Str → Option Value) (h : Heap) : Prop where
  k : K.In h
  g : h.Ns mainGlobals mg
  b : h.Ns builtinsNs mb
  boot : ∀ x : Str, x ≠ "__name__" → mb x = bootBuiltins x
  lim : h.NoLimit
theorem bs_mono {K : Frag} {mg mb : Str → Option Value} : BMono (Bs K mg mb) := fun h h' k x => ⟨x.k.keeps k, x.g.keeps k, x.b.keeps k, x.boot, x.lim.keeps k⟩

def Cx.at (c : Cx) (m : Str → Option Value) (h : Heap) : Cx := { c with m := m, h := h }
def Cx.hid (c : Cx) (X : List Addr) (m : Str → Option Value) (h : Heap) : Cx := { c with X := X, m := m, h := h }

section
variable {c : Cx} {B : Heap → Prop}

theorem Live.but {X : List Addr} {h h' : Heap} {m : Str → Option Value} {L : Addr} (l : Live X h) (hk : ∀ b o, b ≠ L → h.get? b = some o → h'.get? b = some o) (hn : h'.Ns L m) : Live X h' := fun x hx => by
  by_cases e : x = L
  · subst e; obtain ⟨o, _, _, q, _⟩ := hn; exact ⟨o, q⟩
  · obtain ⟨o, q⟩ := l x hx; exact ⟨o, hk x o e q⟩

/-- a store into the frame's names: the ground after it -/
theorem Cx.Ok.step (O : c.Ok B) (hB : BMono B) {m' : Str → Option Value} {h' : Heap} (hk : ∀ b o, b ≠ c.env.locals → c.h.get? b = some o → h'.get? b = some o) (hn : h'.Ns c.env.locals m') : (c.at m' h').Ok B :=
  ⟨O.a, hn, O.mem, O.live.but hk hn, hB _ _ (hid_keepX fun b o n e => hk b o (fun q => n (q ▸ O.mem)) e) O.base, O.kind⟩
theorem step_keep (O : c.Ok B) {h' : Heap} (hk : ∀ b o, b ≠ c.env.locals → c.h.get? b = some o → h'.get? b = some o) : KeepX c.X c.h h' := fun b o n e => hk b o (fun q => n (q ▸ O.mem)) e
theorem Cx.Ok.later (O : c.Ok B) (hB : BMono B) {h' : Heap} (hk : Keep c.h h') : (c.at c.m h').Ok B :=
  ⟨O.a, O.ns.keeps hk, O.mem, O.live.keep hk, hB _ _ (hid_keepX (Keep.toX hk)) O.base, O.kind⟩

/-- a for: the turns keep an invariant over the hidden cells, the names and the heap -/
theorem st_for {target iter : Expr} {body orelse : List Stmt} {pos : Pos} {tn : List Str} {α : Type} {xs : List α} {enc : α → List PyData} {s : Shared} {Q : Flow → Shared → Prop} {E : Value → Shared → Prop}
    (O : c.Ok B) (hB : BMono B) (hc : c.h = s.heap) (hsrc : Src c iter target tn xs enc) (W : List Addr) (hWX : ∀ b ∈ W, b ∈ c.X) (hWL : c.env.locals ∈ W) (hl : localEnv c.env tn) (hfold : ∀ x, foldedSetIterable iter c.env x = pure x)
    (Inv : List Addr → Nat → (Str → Option Value) → Heap → Prop)
    (h0 : ∀ wr h, (∀ b ∈ wr, c.h.get? b = none) → (c.hid (wr ++ c.X) c.m h).Ok B → c.Sub (c.hid (wr ++ c.X) c.m h) → Keep c.h h → Inv (wr ++ c.X) 0 c.m h)
    (turn : ∀ wr i x m h m₁ h₁ vs tk (QQ : Flow → Shared → Prop) (EE : Value → Shared → Prop), (∀ b ∈ wr, c.h.get? b = none) → xs[i]? = some x → Inv (wr ++ c.X) i m h → m₁ = bindTo m tn vs → vs.length = tn.length →
      (∀ b o, b ∉ wr → b ≠ c.env.locals → h.get? b = some o → h₁.get? b = some o) → RdL (wr ++ c.X) h₁ vs (enc x) → (c.hid (wr ++ c.X) m₁ h₁).Ok B → c.Sub (c.hid (wr ++ c.X) m₁ h₁) → KeepX W c.h h₁ →
      (∀ m' h' tk', KeepX W h₁ h' → h'.Ns c.env.locals m' → (c.hid (wr ++ c.X) m' h').Ok B → Inv (wr ++ c.X) (i + 1) m' h' → QQ .next { s with heap := h', toks := tk' }) →
      (∀ f m' h' tk', KeepX W c.h h' → h'.Ns c.env.locals m' → Q (match f with | .brk => .next | f => f) { s with heap := h', toks := tk' } → (f = .brk ∨ ∃ v, f = .ret v) → QQ f { s with heap := h', toks := tk' }) →
      wpAny c.M c.A (execs body c.env) QQ EE { s with heap := h₁, toks := tk })
    (done : ∀ wr m h h' tk (EE : Value → Shared → Prop), (∀ b ∈ wr, c.h.get? b = none) → Inv (wr ++ c.X) xs.length m h → (∀ b o, b ∉ wr → h.get? b = some o → h'.get? b = some o) → (c.hid (wr ++ c.X) m h).Ok B → h'.Ns c.env.locals m → KeepX W c.h h' →
      wpAny c.M c.A (execs orelse c.env) Q EE { s with heap := h', toks := tk }) :
    wpAny c.M c.A (exec (.For target iter body orelse pos) c.env) Q E s := by
  refine wpAny_For ?_ hfold
  refine hsrc s _ _ (hc ▸ fun _ _ e => e) fun I fp wr St s₂ h₀ K₂ hk₀ hk₂ hfp hwr hst F => ?_
  rw [← hc] at hk₀
  have hwrs : ∀ b ∈ wr, c.h.get? b = none := fun b hb => by
    cases q : c.h.get? b with
    | none => rfl
    | some o => have := hwr b hb; rw [hk₀ b o q] at this; cases this
  have hkc : Keep c.h s₂.heap := fun b o e => hk₂ b o (hk₀ b o e)
  have hLf : c.env.locals ∉ fp := fun hm => (hfp _ hm).2 O.mem
  have hLw : c.env.locals ∉ wr := fun hm => hLf (F.sub _ hm)
  have subOf : ∀ {m h}, KeepX c.X c.h h → c.Sub (c.hid (wr ++ c.X) m h) := fun {m h} k => sub_new (fun b hb => by
      rcases List.mem_append.mp hb with hb | hb
      · exact .inr (hwrs b hb)
      · exact .inl hb) fun b o hb e => k b o (fun q => hb (List.mem_append.mpr (.inr q))) e
  have liveOf : ∀ {i h}, St i h → Live c.X h → Live (wr ++ c.X) h := fun {i h} st l b hb => by
      rcases List.mem_append.mp hb with hb | hb
      · exact F.live _ _ st b hb
      · exact l b hb
  have okOf : ∀ {m h}, KeepX c.X c.h h → h.Ns c.env.locals m → Live (wr ++ c.X) h → (c.hid (wr ++ c.X) m h).Ok B := fun {m h} k n l =>
      ⟨O.a, n, List.mem_append.mpr (.inr O.mem), l, hB _ _ (subOf (m := m) k) O.base, O.kind⟩
  have e₂ : s₂ = { s with heap := s₂.heap, toks := s₂.toks } := K₂.rest
  refine codeAny_forLoop_any (fun n s' => ∃ h' tk m' i, s' = { s with heap := h', toks := tk } ∧ St i h' ∧ h'.Ns c.env.locals m' ∧ Live c.X h' ∧ KeepX W c.h h' ∧ KeepX (wr ++ c.X) h₀ h' ∧ Inv (wr ++ c.X) i m' h' ∧ i ≤ xs.length ∧ n = xs.length + 1 - i) ?_ (xs.length + 1)
    ⟨s₂.heap, s₂.toks, c.m, 0, e₂, hst, O.ns.keeps hkc, O.live.keep hkc, Keep.toX hkc, Keep.toX hk₂, h0 wr _ hwrs (okOf (Keep.toX hkc) (O.ns.keeps hkc) (liveOf hst (O.live.keep hkc))) (subOf (Keep.toX hkc)) hkc, Nat.zero_le _, rfl⟩
  rintro n s' ⟨H, tk, m', i, rfl, hst', hn', hlv', hk', hk0', hI, hi, rfl⟩
  have hok' := okOf (hk'.mono hWX) hn' (liveOf hst' hlv')
  cases hx : xs[i]? with
  | none =>
    have hlen : i = xs.length := Nat.le_antisymm hi (by simpa using hx)
    subst hlen
    refine F.done _ _ _ hst' fun h₁ tk₁ hk₁ => ?_
    have hn₁ : h₁.Ns c.env.locals m' := hn'.at' fun o e => hk₁ _ o hLw e
    refine done wr m' H h₁ tk₁ _ hwrs hI hk₁ hok' hn₁ fun b o hb e => hk₁ b o (fun q => ?_) (hk' b o hb e)
    have := hwrs b q; rw [e] at this; cases this
  | some x =>
    have hlt : i < xs.length := (List.getElem?_eq_some_iff.mp hx).1
    refine wpAny_mono (F.turn c.env i x { s with heap := H, toks := tk } m' (fun s₃ => wpAny c.M c.A (execs body c.env) (fun f s₃ => match f with
        | .next | .cont => ∃ k, k < xs.length + 1 - i ∧ ∃ h' tk m' j, s₃ = { s with heap := h', toks := tk } ∧ St j h' ∧ h'.Ns c.env.locals m' ∧ Live c.X h' ∧ KeepX W c.h h' ∧ KeepX (wr ++ c.X) h₀ h' ∧ Inv (wr ++ c.X) j m' h' ∧ j ≤ xs.length ∧ k = xs.length + 1 - j
        | .brk => (match (Except.ok Flow.next : Result) with | .ok f => Q f s₃ | .error e => cameBackBy c.M c.A c.env E e s₃)
        | .ret v => (match (Except.ok (Flow.ret v) : Result) with | .ok f => Q f s₃ | .error e => cameBackBy c.M c.A c.env E e s₃)) (notedBy c.M c.A c.env fun e s' => cameBackBy c.M c.A c.env E e s') s₃) (notedBy c.M c.A c.env fun e s' => cameBackBy c.M c.A c.env E e s') hl hLf hx hst' hn' ?_) (fun r s₁ h₁ => ?_) fun _ _ e => e
    · intro h₂ tk₂ vs hst₂ hn₂ hG hlen hk₂
      have hk2c : KeepX W c.h h₂ := fun b o hb e => by
        have hbw : b ∉ wr := fun q => by have := hwrs b q; rw [e] at this; cases this
        exact hk₂ b o hbw (fun q => hb (q ▸ hWL)) (hk' b o hb e)
      have hlv₂ : Live c.X h₂ := fun b hb => by
        by_cases q : b = c.env.locals
        · subst q; obtain ⟨o, _, _, e, _⟩ := hn₂; exact ⟨o, e⟩
        · obtain ⟨o, e⟩ := hlv' b hb
          refine ⟨o, hk₂ b o (fun q' => ?_) q e⟩
          obtain ⟨o', e'⟩ := O.live b hb
          have := hwrs b q'; rw [e'] at this; cases this
      have hG' : RdL (wr ++ c.X) h₂ vs (enc x) := by
        obtain ⟨as, q⟩ := hG
        refine ⟨as, ReadsAll.keeps (sub_new (fun b hb => ?_) fun b o hb e => ?_) q⟩
        · rcases List.mem_append.mp hb with hb | hb
          · exact .inr (hwr b hb)
          · exact .inl hb
        · have hbw : b ∉ wr := fun q => hb (List.mem_append.mpr (.inl q))
          have hbX : b ∉ c.X := fun q => hb (List.mem_append.mpr (.inr q))
          exact hk₂ b o hbw (fun q => hbX (q ▸ O.mem)) (hk0' b o hb e)
      refine turn wr i x m' H _ h₂ vs tk₂ _ _ hwrs hx hI rfl hlen (fun b o hb hbL e => hk₂ b o hb hbL e) hG' (okOf (hk2c.mono hWX) hn₂ (liveOf hst₂ hlv₂)) (subOf (hk2c.mono hWX)) hk2c ?_ ?_
      · intro m₃ h₃ tk₃ hk₃ hn₃ hok₃ hI₃
        refine ⟨xs.length + 1 - (i + 1), by omega, h₃, tk₃, m₃, i + 1, rfl, F.frame _ _ _ hst₂ fun b hb o e => hk₃ b o (fun q => (hfp b hb).2 (hWX b q)) e, hn₃, fun b hb => hok₃.live b (List.mem_append.mpr (.inr hb)), hk2c.trans hk₃, fun b o hb e => hk₃ b o (fun q => hb (List.mem_append.mpr (.inr (hWX b q)))) (hk₂ b o (fun q => hb (List.mem_append.mpr (.inl q))) (fun q => hb (List.mem_append.mpr (.inr (q ▸ O.mem)))) (hk0' b o hb e)), hI₃, hlt, rfl⟩
      · intro f m₃ h₃ tk₃ hk₃ hn₃ hq hf
        rcases hf with rfl | ⟨v, rfl⟩ <;> exact hq
    · cases r with
      | none => exact h₁.elim
      | some v => exact h₁

/-- an owned list grows -/
theorem ev_append {o e : Expr} {apos pos : Pos} {a : Addr} {items : Array Value} {d : PyData} {s : Shared} {Q : Value → Shared → Prop} {E : Value → Shared → Prop} (hk : Keep c.h s.heap) (h1 : EvP c o (fun _ v => v = .ref a)) (ha : c.h.PlainList a items) (h2 : Ev c e d) (hsz : items.size ≤ sizeLine)
    (hbase : attributeBase o (Str.ofString "append") c.env (eval o c.env) = eval o c.env) (hline : (apos.endLine == pos.line) = true) (hs : starEach [e] c.env = [(false, eval e c.env)])
    (h : ∀ v h₁ h' tk, Keep s.heap h₁ → Rd c.X h₁ v d → h'.PlainList a (items.push v) → Heap.SameBut a h₁ h' → Q .none { s with heap := h', toks := tk }) :
    wpAny c.M c.A (eval (.Call (.Attribute o (Str.ofString "append") apos) [e] [] pos) c.env) Q E s :=
  wpAny_Call_append hbase (by rw [hs]; rfl) hline (by rw [hs]; rfl) (h1 s _ _ hk fun v s₁ k₁ r₁ => by
    have hp : s₁.heap.PlainList a items := ha.at fun o e => k₁.keep _ _ (hk _ o e)
    obtain ⟨n, hp'⟩ := id hp
    refine ⟨a, items, r₁, ⟨_, n, hp', rfl, rfl, rfl⟩, h2 s₁ _ _ (fun b o e => k₁.keep b o (hk b o e)) fun v s₂ k₂ r₂ => ?_⟩
    refine wpAny_list_append_plain (hsz := hsz) (hp.at fun o e => k₂.keep _ o e) fun h₅ hl₅ hs₅ => ?_
    have K := k₁.trans k₂
    have e : ({ s₂ with heap := h₅ } : Shared) = { s with heap := h₅, toks := s₂.toks } := by rw [K.rest]
    rw [e]
    exact h v s₂.heap h₅ _ K.keep r₂ hl₅ hs₅)

def retV : Flow → Value
  | .ret v => v
  | _ => .none
def retOk : Flow → Prop
  | .ret _ => True
  | .next => True
  | _ => False
/-- what a body of a def leaves: its value, and the cells that it may have changed -/
def BodyOk (c : Cx) (W : List Addr) (body : List Stmt) (P : Heap → Value → Prop) : Prop := ∀ (s : Shared) (Q : Flow → Shared → Prop) (E : Value → Shared → Prop), s.heap = c.h →
  (∀ f h' tk, KeepX W c.h h' → P h' (retV f) → retOk f → Q f { s with heap := h', toks := tk }) → wpAny c.M c.A (execs body c.env) Q E s

/-- the ground of a def that is called -/
def calleeCx (c : Cx) (fd : FuncData) (a L : Addr) (binds : List (Str × Value)) (h : Heap) : Cx :=
  { prog := c.prog, w := c.w, A := c.A.deeper (callEnv fd L a), env := callEnv fd L a, X := L :: c.X, m := fun x => binds.reverse.lookup x, h := h }

structure Room (A : Around) (n : Nat) : Prop where
  handled : A.handled = none
  depth : A.depth + n ≤ 900
  units : A.units + 10 * n ≤ 9000
theorem Room.aok {A : Around} {n : Nat} (r : Room A n) : AOk A := ⟨r.handled, by have := r.depth; show A.depth + 20 < 1000; omega, by have := r.units; show A.units + 200 < 9900; omega⟩
theorem Room.deeper {A : Around} {n : Nat} (r : Room A (n + 1)) (env : Env) : Room (A.deeper env) n := ⟨r.handled, by have := r.depth; show A.depth + 1 + n ≤ 900; omega, by have := r.units; show A.units + 3 + 10 * n ≤ 9000; omega⟩
theorem Room.less {A : Around} {n m : Nat} (r : Room A n) (h : m ≤ n) : Room A m := ⟨r.handled, by have := r.depth; omega, by have := r.units; omega⟩

theorem code_fn {K : Frag} {mg mb : Str → Option Value} {a : Addr} {o : Obj} {fd : FuncData} {body : List Stmt} {names : List Str} {vs : List Value} {n : Nat} {W : List Addr} {P : Heap → Value → Prop} {s : Shared} {R : Result → Shared → Prop} (O : c.Ok (Bs K mg mb)) (hr : Room c.A (n + 1)) (hk : Keep c.h s.heap)
    (ho : K.lookup a = some o) (hd : o.data = .func fd) (hcode : codeIn K fd.code fd.qualname = true) (hbody : fd.body = .stmts body)
    (hbind : bindArgs fd ⟨vs, []⟩ = pure (names.zip vs)) (hloc : ∀ x ∈ names, fd.scope.names.lookup x = some .local) (hcell : ∀ x ∈ fd.scope.names, x.2 ≠ .cell)
    (hco : fd.scope.isCoroutine = false) (hgen : fd.scope.isGenerator = false) (hkd : fd.scope.kind = .function)
    (hb : ∀ L h₁, s.heap.get? L = none → Keep s.heap h₁ → (calleeCx c fd a L (names.zip vs) h₁).Ok (Bs K mg mb) → c.Sub (calleeCx c fd a L (names.zip vs) h₁) → Room (c.A.deeper (callEnv fd L a)) n →
      BodyOk (calleeCx c fd a L (names.zip vs) h₁) (L :: W) body P)
    (h : ∀ v h' tk, KeepX W s.heap h' → P h' v → R (.ok (.ret v)) { s with heap := h', toks := tk }) :
    codeAny c.M c.A (.call (.ref a) ⟨vs, []⟩) R s := by
  have B1 : Bs K mg mb s.heap := bs_mono _ _ (fun b o e => hk b o (of_hideAll _ e)) O.base
  refine codeAny_call_def (fd := fd) (body := body) (binds := names.zip vs) (by have := hr.depth; show c.A.depth < 1000; omega) (B1.k _ _ ho) hd B1.lim (codeRec_of B1.k hcode) hbody (BindsTo.of_eq hbind) hcell (fun x hx => hloc x.1 (List.of_mem_zip hx).1) ?_ hco hgen hkd
  intro h₁ hns hk₁
  have hLn : s.heap.get? s.heap.objs.size = none := Heap.get?_none_of_le (Nat.le_refl _)
  have hsub : c.Sub (calleeCx c fd a s.heap.objs.size (names.zip vs) h₁) := sub_new (fun b hb => by
      rcases List.mem_cons.mp hb with rfl | hb
      · refine .inr ?_
        cases q : c.h.get? s.heap.objs.size with
        | none => rfl
        | some o => have := hk _ o q; rw [hLn] at this; cases this
      · exact .inl hb) fun b o hb e => hk₁ b o (hk b o e)
  have hok : (calleeCx c fd a s.heap.objs.size (names.zip vs) h₁).Ok (Bs K mg mb) := by
    refine ⟨(hr.deeper _).aok, hns, .head _, ?_, bs_mono _ _ hsub O.base, hkd⟩
    obtain ⟨oL, _, _, e, _⟩ := hns
    exact Live.cons (O.live.keep fun b o e => hk₁ b o (hk b o e)) e
  refine hb _ h₁ hLn hk₁ hok hsub (hr.deeper _) { s with heap := h₁, toks := s.toks + (names.zip vs).length } _ _ rfl fun f h' tk hkw hp _ => ?_
  refine h _ h' tk (fun b o hb e => hkw b o (fun hm => ?_) (hk₁ b o e)) hp
  rcases List.mem_cons.mp hm with rfl | hm
  · rw [hLn] at e; cases e
  · exact hb hm

theorem call_fn {K : Frag} {mg mb : Str → Option Value} {a : Addr} {o : Obj} {fd : FuncData} {body : List Stmt} {names : List Str} {ds : List PyData} {n : Nat} {P : Heap → Value → Prop} (O : c.Ok (Bs K mg mb)) (hr : Room c.A (n + 1))
    (ho : K.lookup a = some o) (hd : o.data = .func fd) (hcode : codeIn K fd.code fd.qualname = true) (hbody : fd.body = .stmts body) (hlen : names.length = ds.length)
    (hbind : ∀ vs : List Value, vs.length = ds.length → bindArgs fd ⟨vs, []⟩ = pure (names.zip vs)) (hloc : ∀ x ∈ names, fd.scope.names.lookup x = some .local) (hcell : ∀ x ∈ fd.scope.names, x.2 ≠ .cell)
    (hco : fd.scope.isCoroutine = false) (hgen : fd.scope.isGenerator = false) (hkd : fd.scope.kind = .function)
    (hb : ∀ vs L h₁, (calleeCx c fd a L (names.zip vs) h₁).Ok (Bs K mg mb) → c.Sub (calleeCx c fd a L (names.zip vs) h₁) → Room (c.A.deeper (callEnv fd L a)) n → vs.length = ds.length → RdL (L :: c.X) h₁ vs ds →
      BodyOk (calleeCx c fd a L (names.zip vs) h₁) [L] body P) : CallP c (.ref a) ds P := fun s vs Q E k r h => by
  refine wpAny_call (code_fn (W := []) (P := P) O hr k ho hd hcode hbody (hbind vs r.length) hloc hcell hco hgen hkd ?_ ?_)
  · intro L h₁ hLn hk₁ hok hsub hroom
    refine hb vs L h₁ hok hsub hroom r.length ?_
    obtain ⟨as, q⟩ := r
    refine ⟨as, ReadsAll.keeps (sub_new (fun b hb => ?_) fun b o hb e => hk₁ b o e) q⟩
    rcases List.mem_cons.mp hb with rfl | hb
    · exact .inr hLn
    · exact .inl hb
  · intro v h' tk hkw hp
    exact h v _ (.both s tk fun b o e => hkw b o (fun hm => nomatch hm) e) hp
end
end Mine
end

section
open PySem PySem.W PyProof.Rows PySem.SeqAt
set_option Elab.async false
set_option maxRecDepth 100000
set_option linter.unusedVariables false
namespace Mine

def upd (m : Str → Option Value) (y : Str) (v : Value) : Str → Option Value := fun z => if z = y then some v else m z
structure Up (m m' : Str → Option Value) (y : Str) (v : Value) : Prop where
  self : m' y = some v
  other : ∀ z, (z == y) = false → m' z = m z
theorem up_upd (m : Str → Option Value) (y : Str) (v : Value) : Up m (upd m y v) y v := ⟨if_pos rfl, fun z h => if_neg fun q => by rw [q] at h; simp at h⟩
theorem Up.get {m m' : Str → Option Value} {y z : Str} {v w : Value} (u : Up m m' y v) (h : (z == y) = false) (e : m z = some w) : m' z = some w := (u.other z h).trans e
theorem bind1 (m : Str → Option Value) (x : Str) (v : Value) : Up m (bindTo m [x] [v]) x v := up_upd m x v
theorem bind2a (m : Str → Option Value) (x y : Str) (v w : Value) (h : (x == y) = false) : bindTo m [x, y] [v, w] x = some v := (up_upd (upd m x v) y w).get h (up_upd m x v).self
theorem bind2b (m : Str → Option Value) (x y : Str) (v w : Value) : bindTo m [x, y] [v, w] y = some w := (up_upd (upd m x v) y w).self
structure Stp (c c' : Cx) (W : List Addr) : Prop where
  sub : c.Sub c'
  keep : KeepX W c.h c'.h
theorem Stp.trans {c c2 c3 : Cx} {W : List Addr} (a : Stp c c2 W) (b : Stp c2 c3 W) : Stp c c3 W := ⟨a.sub.trans b.sub, a.keep.trans b.keep⟩

theorem sub_new_of {c : Cx} {X : List Addr} {m : Str → Option Value} {h' : Heap} (hX : ∀ b ∈ X, b ∈ c.X ∨ c.h.get? b = none) (hk : KeepX X c.h h') : c.Sub (c.hid X m h') := sub_new hX hk

section
variable {c : Cx} {B : Heap → Prop}

theorem Cx.Ok.move (O : c.Ok B) (hB : BMono B) {X : List Addr} {m : Str → Option Value} {h' : Heap} (hs : c.Sub (c.hid X m h')) (hn : h'.Ns c.env.locals m) (hm : c.env.locals ∈ X) (hl : Live X h') : (c.hid X m h').Ok B :=
  ⟨O.a, hn, hm, hl, hB _ _ hs O.base, O.kind⟩

theorem st_let {y : Str} {py spos : Pos} {e : Expr} {P : Heap → Value → Prop} {s : Shared} {Q : Flow → Shared → Prop} {E : Value → Shared → Prop} (O : c.Ok B) (hB : BMono B) (hk : Keep c.h s.heap) (he : EvP c e P) (hP : Stable c P) (hy : c.env.kindOf y = some .local) (hs : swapsWith e (some (.Name y py)) spos.line c.env = pure false)
    (h : ∀ v m' h' tk, Up c.m m' y v → (c.at m' h').Ok B → Stp c (c.at m' h') [c.env.locals] → P h' v → Q .next { s with heap := h', toks := tk }) : wpAny c.M c.A (exec (.Assign [.Name y py] e spos) c.env) Q E s :=
  st_assign O hk he hP hy hs fun v h' tk hk' hp hn => by
    have hk2 : ∀ b o, b ≠ c.env.locals → c.h.get? b = some o → h'.get? b = some o := fun b o hb e => hk' b o hb (hk b o e)
    exact h v _ h' tk (up_upd _ _ _) (O.step hB hk2 hn) ⟨hid_keepX (step_keep O hk2), fun b o hb e => hk2 b o (fun q => hb (q ▸ .head _)) e⟩ hp
theorem st_letD {y : Str} {py spos : Pos} {e : Expr} {d : PyData} {s : Shared} {Q : Flow → Shared → Prop} {E : Value → Shared → Prop} (O : c.Ok B) (hB : BMono B) (hk : Keep c.h s.heap) (he : Ev c e d) (hy : c.env.kindOf y = some .local) (hs : swapsWith e (some (.Name y py)) spos.line c.env = pure false)
    (h : ∀ v m' h' tk, Up c.m m' y v → (c.at m' h').Ok B → Stp c (c.at m' h') [c.env.locals] → Rd c.X h' v d → Q .next { s with heap := h', toks := tk }) : wpAny c.M c.A (exec (.Assign [.Name y py] e spos) c.env) Q E s :=
  st_let O hB hk he.toP stable_rd hy hs h

theorem st_letC {elt iter target : Expr} {ifs : List Expr} {scope : Scope} {pos spos py : Pos} {y : Str} {tn : List Str} {cl : List (Str × Addr)} {α : Type} {xs : List α} {enc : α → List PyData} {p : α → Bool} {f : α → PyData} {s : Shared} {Q : Flow → Shared → Prop} {E : Value → Shared → Prop}
    (O : c.Ok B) (hB : BMono B) (hk : Keep c.h s.heap) (hsrc : Src c iter target tn xs enc) (K : CompOk c scope tn cl iter) (hsz : xs.length ≤ sizeLine)
    (hel : ∀ x ∈ xs, ∀ C X m vs h, c.Sub (inner c (compEnvC scope cl C c.env) X (bindTo m tn vs) h) → (inner c (compEnvC scope cl C c.env) X (bindTo m tn vs) h).Ok B → RdL X h vs (enc x) → vs.length = tn.length →
      ItemOk c B ifs elt (compEnvC scope cl C c.env) X (bindTo m tn vs) h (p x) (f x))
    (hy : c.env.kindOf y = some .local) (hs : swapsWith (.ListComp elt [⟨target, iter, ifs, 0⟩] scope pos) (some (.Name y py)) spos.line c.env = pure true)
    (h : ∀ v m' h' tk, Up c.m m' y v → (c.at m' h').Ok B → Stp c (c.at m' h') [c.env.locals] → RdP c.X h' v ((xs.filter p).map f) → Q .next { s with heap := h', toks := tk }) :
    wpAny c.M c.A (exec (.Assign [.Name y py] (.ListComp elt [⟨target, iter, ifs, 0⟩] scope pos) spos) c.env) Q E s :=
  st_assign_comp O hB hk hsrc K hsz hel hy hs fun v h' tk hk' hp hn => by
    have hk2 : ∀ b o, b ≠ c.env.locals → c.h.get? b = some o → h'.get? b = some o := fun b o hb e => hk' b o hb (hk b o e)
    exact h v _ h' tk (up_upd _ _ _) (O.step hB hk2 hn) ⟨hid_keepX (step_keep O hk2), fun b o hb e => hk2 b o (fun q => hb (q ▸ .head _)) e⟩ hp

/-- a new list under a name: the cell is hidden from then on -/
theorem st_letNew {y : Str} {py spos lpos : Pos} {s : Shared} {Q : Flow → Shared → Prop} {E : Value → Shared → Prop} (O : c.Ok B) (hB : BMono B) (hk : Keep c.h s.heap) (hy : c.env.kindOf y = some .local)
    (h : ∀ a m' h' tk, c.h.get? a = none → a ∉ c.X → h'.PlainList a #[] → Up c.m m' y (.ref a) → (c.hid (a :: c.X) m' h').Ok B → Stp c (c.hid (a :: c.X) m' h') [c.env.locals] → Q .next { s with heap := h', toks := tk }) :
    wpAny c.M c.A (exec (.Assign [.Name y py] (.List [] lpos) spos) c.env) Q E s := by
  refine wpAny_Assign_Name (wpAny_List (wpAny_items_nil ⟨Nat.zero_le _, ?_⟩)) rfl
  have hsn : s.heap.get? s.heap.objs.size = none := Heap.get?_none_of_le (Nat.le_refl _)
  have ha : c.h.get? s.heap.objs.size = none := by
    cases q : c.h.get? s.heap.objs.size with
    | none => rfl
    | some o => have := hk _ o q; rw [hsn] at this; cases this
  have haX := O.live.new ha
  have haL : s.heap.objs.size ≠ c.env.locals := fun e => haX (e ▸ O.mem)
  refine wpAny_storeName_local hy (O.ns.keeps fun b o e => Heap.get?_push_of_some _ (hk b o e)) (fun h' hn hs' => ?_) (by rw [O.kind]; rfl)
  have hp : h'.PlainList s.heap.objs.size #[] := ⟨_, hs'.extBut _ _ haL (Heap.get?_push_size _ rfl)⟩
  have hk2 : ∀ b o, b ≠ c.env.locals → c.h.get? b = some o → h'.get? b = some o := fun b o hb e => hs'.extBut b o hb (Heap.get?_push_of_some _ (hk b o e))
  have hsub : c.Sub (c.hid (s.heap.objs.size :: c.X) (upd c.m y (.ref s.heap.objs.size)) h') := sub_new_of (fun b hb => by
      rcases List.mem_cons.mp hb with rfl | hb
      · exact .inr ha
      · exact .inl hb) fun b o hb e => hk2 b o (fun q => hb (.tail _ (q ▸ O.mem))) e
  refine h _ _ h' (s.toks + 1) ha haX hp (up_upd _ _ _) (O.move hB hsub hn (.tail _ O.mem) (Live.cons (O.live.but hk2 hn) hp.choose_spec)) ⟨hsub, fun b o hb e => hk2 b o (fun q => hb (q ▸ .head _)) e⟩

/-- a statement that appends to an owned list -/
theorem st_append {o e : Expr} {apos pos spos : Pos} {a : Addr} {items : Array Value} {d : PyData} {s : Shared} {Q : Flow → Shared → Prop} {E : Value → Shared → Prop} (O : c.Ok B) (hB : BMono B) (hk : Keep c.h s.heap) (h1 : EvP c o (fun _ v => v = .ref a)) (ha : c.h.PlainList a items) (haX : a ∈ c.X) (haL : a ≠ c.env.locals) (h2 : Ev c e d) (hsz : items.size ≤ sizeLine)
    (hbase : attributeBase o (Str.ofString "append") c.env (eval o c.env) = eval o c.env) (hline : (apos.endLine == pos.line) = true) (hs : starEach [e] c.env = [(false, eval e c.env)]) (hi : interactive c.env = false)
    (h : ∀ v h' tk, Rd c.X h' v d → h'.PlainList a (items.push v) → (c.at c.m h').Ok B → Stp c (c.at c.m h') [a] → Q .next { s with heap := h', toks := tk }) :
    wpAny c.M c.A (exec (.Expr (.Call (.Attribute o (Str.ofString "append") apos) [e] [] pos) spos) c.env) Q E s := by
  refine wpAny_Expr (ev_append hk h1 ha h2 hsz hbase hline hs fun v h₁ h' tk k₁ r hp hsb => ?_) hi rfl
  have hk2 : ∀ b o, b ≠ a → c.h.get? b = some o → h'.get? b = some o := fun b o hb e => hsb.extBut b o hb (k₁ b o (hk b o e))
  have hkX : KeepX c.X c.h h' := fun b o hb e => hk2 b o (fun q => hb (q ▸ haX)) e
  have hsub : c.Sub (c.at c.m h') := hid_keepX hkX
  refine h v h' tk (r.keepX (KeepX.ofSameBut hsb haX)) hp (O.move hB hsub ((O.ns.keeps fun b o e => k₁ b o (hk b o e)).sameBut hsb haL.symm) O.mem ?_) ⟨hsub, fun b o hb e => hk2 b o (fun q => hb (q ▸ .head _)) e⟩
  intro b hb
  by_cases q : b = a
  · subst q; exact ⟨_, hp.choose_spec⟩
  · obtain ⟨o, e⟩ := O.live b hb; exact ⟨o, hk2 b o q e⟩

/-- exclusive or into a name -/
theorem st_xor {y : Str} {py spos : Pos} {e : Expr} {i j : Int} {t : Tok} {s : Shared} {Q : Flow → Shared → Prop} {E : Value → Shared → Prop} (O : c.Ok B) (hB : BMono B) (hk : Keep c.h s.heap) (hm : c.m y = some (.int i t)) (he : Ev c e (.int j)) (hy : c.env.kindOf y = some .local)
    (h : ∀ t' m' h' tk, Up c.m m' y (.int (Builtin.bitXor i j) t') → (c.at m' h').Ok B → Stp c (c.at m' h') [c.env.locals] → Q .next { s with heap := h', toks := tk }) :
    wpAny c.M c.A (exec (.AugAssign (.Name y py) .BitXor e spos) c.env) Q E s := by
  refine wpAny_AugAssign_Name (wpAny_loadName_local O.kind hy (O.ns.keeps hk) hm (he s _ _ hk fun v s₁ k₁ r₁ => ?_))
  obtain ⟨u, rfl⟩ := r₁.inv_int
  refine ixor_int (wpAny_storeName_local hy (O.ns.keeps fun b o e => k₁.keep b o (hk b o e)) (fun h' hn hs' => ?_) (by rw [O.kind]; rfl))
  have hk2 : ∀ b o, b ≠ c.env.locals → c.h.get? b = some o → h'.get? b = some o := fun b o hb e => hs'.extBut b o hb (k₁.keep b o (hk b o e))
  show Q .next { s₁ with heap := h', toks := _ }
  rw [show ({ s₁ with heap := h', toks := s₁.toks + 1 + 1 } : Shared) = { s with heap := h', toks := s₁.toks + 1 + 1 } by rw [k₁.rest]]
  exact h _ _ h' _ (up_upd _ _ _) (O.step hB hk2 hn) ⟨hid_keepX (step_keep O hk2), fun b o hb e => hk2 b o (fun q => hb (q ▸ .head _)) e⟩

/-- dict.get with a default, on a table of the text with int keys -/
theorem ev_get {o e1 e2 : Expr} {apos pos : Pos} {a : Addr} {D : List (Int × PyData)} {k : Int} {d dd : PyData} (h1 : EvP c o (fun _ v => v = .ref a)) (T : KTD.Keyed c.h a D) (h2 : Ev c e1 (.int k)) (h3 : Ev c e2 dd) (hfl : ∀ v X h, Rd X h v dd → PyProof.V.Flat v dd) (hat : KTD.datumAt k D = some d) (hd : ∀ v X h, PyProof.V.Flat v d → Rd X h v d)
    (hbase : attributeBase o (Str.ofString "get") c.env (eval o c.env) = eval o c.env) (hline : (apos.endLine == pos.line) = true) (hs : starEach [e1, e2] c.env = [(false, eval e1 c.env), (false, eval e2 c.env)]) :
    Ev c (.Call (.Attribute o (Str.ofString "get") apos) [e1, e2] [] pos) d := fun s Q E k h => by
  refine Call_method2 hbase hs hline (h1 s _ _ k fun v s₁ k₁ r₁ => ?_)
  subst r₁
  have T₁ := T.keep fun b o e => k₁.keep b o (k b o e)
  obtain ⟨_, kvs, ⟨ob, es, ep, ho, hc, _⟩, _⟩ := T₁ c.prog c.w
  refine ⟨"dict", _, F.plainAttrs_dict, F.slot_dict_get, F.type_dict_get, ⟨ob, ho, hc.1⟩, (fun b e => by injection e with e; subst e; exact ⟨ob, ho, hc.2.1⟩), ?_⟩
  refine Calls.callWith_builtin rfl (Calls.evalArgs_plain (Calls.spliced_cons (h2 s₁ _ _ (fun b o e => k₁.keep b o (k b o e)) fun v2 s₂ k₂ r₂ => Calls.spliced_cons (h3 s₂ _ _ (fun b o e => k₂.keep b o (k₁.keep b o (k b o e))) fun v3 s₃ k₃ r₃ => Calls.spliced_nil ?_))))
  obtain ⟨t, rfl⟩ := r₂.inv_int
  refine call_get2_intTab ((T₁.keep fun b o e => k₃.keep b o (k₂.keep b o e)) c.prog c.w) (hfl _ _ _ r₃) fun v hv => ?_
  rw [KTD.lookup_keyed, hat] at hv
  exact h _ _ (((k₁.trans k₂).trans k₃).trans (.toks s₃ _)) (hd _ _ _ hv)

theorem flat_str {v : Value} {x : Str} {X : List Addr} {h : Heap} (r : Rd X h v (.str x)) : PyProof.V.Flat v (.str x) := by obtain ⟨t, rfl⟩ := r.inv_str; exact .str _ _
theorem rd_flat_str {v : Value} {x : Str} {X : List Addr} {h : Heap} (r : PyProof.V.Flat v (.str x)) : Rd X h v (.str x) := by obtain ⟨t, rfl⟩ := r.str_inv; exact .str _ _

theorem ev_split1 {o e : Expr} {apos pos : Pos} {x y : Str} (O : c.Ok B) (h1 : Ev c o (.str x)) (h2 : Ev c e (.str y)) (hy : (y.length == 0) = false)
    (hn1 : (decide (x.length < y.length) || decide (Builtin.Str.strKind x < Builtin.Str.strKind y)) = false) (hn2 : (Builtin.Str.occurrences x y 0 x.length (x.length + 1)).isEmpty = true)
    (hbase : attributeBase o (Str.ofString "split") c.env (eval o c.env) = eval o c.env) (hline : (apos.endLine == pos.line) = true) (hs : starEach [e] c.env = [(false, eval e c.env)]) :
    Ev c (.Call (.Attribute o (Str.ofString "split") apos) [e] [] pos) (.list [.str x]) := fun s Q E k h =>
  Call_method1 hbase hs hline (h1 s _ _ k fun v s₁ k₁ r₁ => by
    obtain ⟨t, rfl⟩ := r₁.inv_str
    refine ⟨"str", _, F.plainAttrs_str, F.slot_str_split, F.type_str_split, typeIs_str _ _ _, (fun _ e => nomatch e), ?_⟩
    refine Calls.callWith_builtin rfl (Calls.evalArgs_plain (Calls.spliced_cons (h2 s₁ _ _ (fun b o e => k₁.keep b o (k b o e)) fun v2 s₂ k₂ r₂ => Calls.spliced_nil ?_)))
    obtain ⟨u, rfl⟩ := r₂.inv_str
    have K := k₁.trans k₂
    have L := O.live.keep fun b o e => K.keep b o (k b o e)
    refine call_meets F.slot_str_split (typeIs_str _ _ _) F.entry_str_split (F.args_str_split_2 _ _) (meets_str_split_not_found x y t u hn1 hy hn2) ?_
    exact h _ _ (K.trans (.push s₂ _)) (push_list (s := s₂) L (.cons (.str _ _) .nil)))

theorem call_hex {i : Int} (hsz : (PySem.baseText "0x" 16 i).length ≤ sizeLine) : CallD c (.builtin "hex") [.int i] (.str (PySem.baseText "0x" 16 i)) := fun s vs Q E k r h => by
  obtain ⟨v1, vs', rfl, r1, r2⟩ := r.inv_cons
  obtain rfl := r2.inv_nil
  obtain ⟨t, rfl⟩ := r1.inv_int
  exact P.hex_of_int (h _ _ (.toks s _) (.str _ _)) hsz
end
end Mine
end

section
open PySem PySem.W PyProof.Rows PySem.SeqAt
set_option Elab.async false
set_option maxRecDepth 100000
set_option linter.unusedVariables false
namespace Mine

/-! The program's parts, by place. -/
def nthS : List Stmt → Nat → Stmt
  | [], _ => .Pass ⟨0, 0, 0, 0⟩
  | a :: _, 0 => a
  | _ :: l, n + 1 => nthS l n
def defBody : Stmt → List Stmt
  | .FunctionDef _ _ b _ _ _ _ _ _ _ => b
  | .ClassDef _ _ _ b _ _ _ _ _ _ _ => b
  | _ => []
def topAt (k : Nat) : Stmt := nthS PySem.Challenge.pw_re0088_01.main.body k
def bodyAt (k : Nat) : List Stmt := defBody (topAt k)

noncomputable abbrev KK (P : Params) : Frag := Mine.hd.heap_39 P
def fdAt (K : Frag) (a : Addr) : FuncData := match K.lookup a with
  | some ⟨_, _, .func fd, _⟩ => fd
  | _ => default
def isFnAt (K : Frag) (a : Addr) : Bool := match K.lookup a with
  | some ⟨_, _, .func _, _⟩ => true
  | _ => false
theorem fn_at {K : Frag} {a : Addr} (h : isFnAt K a = true) : ∃ o, K.lookup a = some o ∧ o.data = .func (fdAt K a) := by
  unfold isFnAt at h
  unfold fdAt
  split at h
  · rename_i e; exact ⟨_, e, rfl⟩
  · cases h


/-- what a def of the text needs to be called -/
structure FnOk (K : Frag) (a : Addr) (body : List Stmt) (names : List Str) : Prop where
  fn : isFnAt K a = true
  body : (fdAt K a).body = .stmts body
  code : codeIn K (fdAt K a).code (fdAt K a).qualname = true
  cell : ((fdAt K a).scope.names.all fun x => x.2 != .cell) = true
  loc : (names.all fun x => (fdAt K a).scope.names.lookup x == some .local) = true
  co : (fdAt K a).scope.isCoroutine = false
  gen : (fdAt K a).scope.isGenerator = false
  kind : (fdAt K a).scope.kind = .function

theorem call_text {c : Cx} {K : Frag} {mg mb : Str → Option Value} {a : Addr} {body : List Stmt} {names : List Str} {ds : List PyData} {n : Nat} {Q : Heap → Value → Prop} (O : c.Ok (Bs K mg mb)) (hr : Room c.A (n + 1)) (F : FnOk K a body names) (hlen : names.length = ds.length)
    (hbind : ∀ vs : List Value, vs.length = ds.length → bindArgs (fdAt K a) ⟨vs, []⟩ = pure (names.zip vs))
    (hb : ∀ vs L h₁, (calleeCx c (fdAt K a) a L (names.zip vs) h₁).Ok (Bs K mg mb) → c.Sub (calleeCx c (fdAt K a) a L (names.zip vs) h₁) → Room (c.A.deeper (callEnv (fdAt K a) L a)) n → vs.length = ds.length → RdL (L :: c.X) h₁ vs ds →
      BodyOk (calleeCx c (fdAt K a) a L (names.zip vs) h₁) [L] body Q) : CallP c (.ref a) ds Q := by
  obtain ⟨o, ho, hd⟩ := fn_at F.fn
  refine call_fn O hr ho hd F.code F.body hlen hbind (fun x hx => ?_) (fun x hx => ?_) F.co F.gen F.kind hb
  · have := List.all_eq_true.mp F.loc x hx; simpa using this
  · have := List.all_eq_true.mp F.cell x hx; simpa using this

section
variable {P : Params}
theorem fok28 : FnOk (KK P) 28 (bodyAt 4) [Str.ofString "ch_a", Str.ofString "ch_b"] := ⟨by kernel_rfl, by kernel_rfl, by kernel_rfl, by kernel_rfl, by kernel_rfl, by kernel_rfl, by kernel_rfl, by kernel_rfl⟩

/-- the cost that one letter has for another -/
def cost (x y : Str) : Int := if x == y then 0 else if Txt.lower x == Txt.lower y then 1 else 2

theorem glob_val {c : Cx} {K : Frag} {mg mb : Str → Option Value} {x : Str} {pos : Pos} {v : Value} (O : c.Ok (Bs K mg mb)) (hl : c.env.kindOf x = some .globalImplicit) (hg : c.env.globals = mainGlobals) (e : nsIn K mainGlobals x = some (some v)) (hd : (x == ("__debug__" : Str)) = false) :
    EvP c (.Name x pos) (fun _ u => u = v) :=
  evp_global O hl (mg := mg) (by rw [hg]; exact O.base.g.keeps fun b o e => of_hideAll _ e) (mg_of O.base.k O.base.g e) hd
def globInt (K : Frag) (x : Str) : Option Int := match nsIn K mainGlobals x with
  | some (some (.int i _)) => some i
  | _ => none
theorem glob_int {c : Cx} {K : Frag} {mg mb : Str → Option Value} {x : Str} {pos : Pos} (i : Int) (O : c.Ok (Bs K mg mb)) (hl : c.env.kindOf x = some .globalImplicit) (hg : c.env.globals = mainGlobals) (e : globInt K x = some i) (hd : (x == ("__debug__" : Str)) = false) :
    Ev c (.Name x pos) (.int i) := by
  unfold globInt at e
  split at e
  · rename_i i' t q
    cases e
    exact fun s Q E k h => glob_val O hl hg q hd s Q E k fun v s' k' r => by subst r; exact h _ _ k' (.int _ _)
  · cases e
theorem glob_builtin {c : Cx} {K : Frag} {mg mb : Str → Option Value} {x : Str} {pos : Pos} {v : Value} (O : c.Ok (Bs K mg mb)) (hl : c.env.kindOf x = some .globalImplicit) (hg : c.env.globals = mainGlobals) (hbn : c.env.builtins = builtinsNs) (e : nsIn K mainGlobals x = some none) (hv : bootBuiltins x = some v) (hn : x ≠ "__name__") (hd : (x == ("__debug__" : Str)) = false) :
    EvP c (.Name x pos) (fun _ u => u = v) :=
  evp_builtin O hl (mg := mg) (mb := mb) (by rw [hg]; exact O.base.g.keeps fun b o e => of_hideAll _ e) (mg_none_of O.base.k O.base.g e) (by rw [hbn]; exact O.base.b.keeps fun b o e => of_hideAll _ e) ((O.base.boot x hn).trans hv) hd

/-- a statement's rules at a later state -/
theorem st_if {c : Cx} {t : Expr} {b1 b2 : List Stmt} {pos : Pos} {b : Bool} {s : Shared} {Q : Flow → Shared → Prop} {E : Value → Shared → Prop} (hk : Keep c.h s.heap) (h : Tst c t b)
    (h1 : b = true → ∀ s₁, Kp s s₁ → wpAny c.M c.A (execs b1 c.env) Q E s₁) (h2 : b = false → ∀ s₁, Kp s s₁ → wpAny c.M c.A (execs b2 c.env) Q E s₁) : wpAny c.M c.A (exec (.If t b1 b2 pos) c.env) Q E s :=
  wpAny_If (h s _ _ hk fun s₁ k₁ => by
    cases b with
    | true => exact h1 rfl s₁ k₁
    | false => exact h2 rfl s₁ k₁)
theorem st_ret {c : Cx} {e : Expr} {pos : Pos} {Pv : Heap → Value → Prop} {s : Shared} {Q : Flow → Shared → Prop} {E : Value → Shared → Prop} (hk : Keep c.h s.heap) (he : EvP c e Pv)
    (h : ∀ v s₁, Kp s s₁ → Pv s₁.heap v → Q (.ret v) s₁) : wpAny c.M c.A (exec (.Return (some e) pos) c.env) Q E s := wpAny_Return_some (he s _ _ hk h)
/-- the end of a body that changed nothing but its own -/
theorem ret_end {c : Cx} {W : List Addr} {Pv : Heap → Value → Prop} {s s₁ : Shared} {Q : Flow → Shared → Prop} {v : Value} (hc : s.heap = c.h) (k : Kp s s₁) (hp : Pv s₁.heap v)
    (hQ : ∀ f h' tk, KeepX W c.h h' → Pv h' (retV f) → retOk f → Q f { s with heap := h', toks := tk }) : Q (.ret v) s₁ := by
  rw [k.rest]
  exact hQ (.ret v) s₁.heap s₁.toks (Keep.toX (hc ▸ k.keep)) hp trivial

theorem Rd.tail {L : Addr} {X : List Addr} {h : Heap} {v : Value} {d : PyData} (r : Rd (L :: X) h v d) : Rd X h v d := r.sub fun b hb => .tail _ hb

theorem subst_cost {c : Cx} {mg mb : Str → Option Value} {x y : Str} {n : Nat} (O : c.Ok (Bs (KK P) mg mb)) (hr : Room c.A (n + 1)) (hx : Builtin.Str.tooLong (Txt.lower x).length = false) (hy : Builtin.Str.tooLong (Txt.lower y).length = false) :
    CallD c (.ref 28) [.str x, .str y] (.int (cost x y)) := by
  refine call_text O hr fok28 rfl (fun vs hv => ?_) ?_
  · obtain ⟨v1, v2, rfl⟩ : ∃ v1 v2, vs = [v1, v2] := by
      rcases vs with _ | ⟨v1, _ | ⟨v2, _ | ⟨v3, vs⟩⟩⟩ <;> simp at hv
      exact ⟨v1, v2, rfl⟩
    kernel_rfl
  · intro vs L h₁ O' hs hr' hlen hr2 s Q E hc hQ
    obtain ⟨v1, vs', rfl, r1, r2⟩ := hr2.inv_cons
    obtain ⟨v2, vs'', rfl, r3, r4⟩ := r2.inv_cons
    obtain rfl := r4.inv_nil
    have k0 : Keep h₁ s.heap := fun b o e => by rw [hc]; exact e
    have ea : ∀ p, Ev (calleeCx c (fdAt (KK P) 28) 28 L ([Str.ofString "ch_a", Str.ofString "ch_b"].zip [v1, v2]) h₁) (.Name (Str.ofString "ch_a") p) (.str x) := fun p => ev_local O' (by kernel_rfl) (by kernel_rfl) r1 (by kernel_rfl)
    have eb : ∀ p, Ev (calleeCx c (fdAt (KK P) 28) 28 L ([Str.ofString "ch_a", Str.ofString "ch_b"].zip [v1, v2]) h₁) (.Name (Str.ofString "ch_b") p) (.str y) := fun p => ev_local O' (by kernel_rfl) (by kernel_rfl) r3 (by kernel_rfl)
    refine wpAny_execs_cons (st_if k0 (tst_compare (ea _) (eb _) op_seq (by kernel_rfl)) (fun e s₁ k₁ => ?_) (fun e s₁ k₁ => ?_))
    · refine wpAny_execs_cons (st_ret (fun b o e => k₁.keep b o (k0 b o e)) ev_int.toP fun v s₂ k₂ r₂ => ?_)
      refine ret_end (Pv := fun h v => Rd c.X h v (.int (cost x y))) hc (k₁.trans k₂) (Rd.tail (L := L) (d := .int (cost x y)) ?_) hQ
      unfold cost; rw [if_pos e]; exact r₂
    refine wpAny_execs_nil ?_
    refine wpAny_execs_cons (st_if (fun b o e => k₁.keep b o (k0 b o e)) (tst_compare (ev_lower (ea _) hx rfl rfl) (ev_lower (eb _) hy rfl rfl) op_seq (by kernel_rfl)) (fun e' s₂ k₂ => ?_) (fun e' s₂ k₂ => ?_))
    · refine wpAny_execs_cons (st_ret (fun b o e => k₂.keep b o (k₁.keep b o (k0 b o e))) (glob_int 1 O' (by kernel_rfl) rfl (by kernel_rfl) (by kernel_rfl)).toP fun v s₃ k₃ r₃ => ?_)
      refine ret_end (Pv := fun h v => Rd c.X h v (.int (cost x y))) hc ((k₁.trans k₂).trans k₃) (Rd.tail (L := L) (d := .int (cost x y)) ?_) hQ
      unfold cost; rw [if_neg (ne_true_of_eq_false e), if_pos e']; exact r₃
    refine wpAny_execs_nil ?_
    refine wpAny_execs_cons (st_ret (fun b o e => k₂.keep b o (k₁.keep b o (k0 b o e))) (glob_int 2 O' (by kernel_rfl) rfl (by kernel_rfl) (by kernel_rfl)).toP fun v s₃ k₃ r₃ => ?_)
    refine ret_end (Pv := fun h v => Rd c.X h v (.int (cost x y))) hc ((k₁.trans k₂).trans k₃) (Rd.tail (L := L) (d := .int (cost x y)) ?_) hQ
    unfold cost; rw [if_neg (ne_true_of_eq_false e), if_neg (ne_true_of_eq_false e')]; exact r₃
end
end Mine
end

section
open PySem PySem.W PyProof.Rows PySem.SeqAt
set_option Elab.async false
set_option maxRecDepth 100000
set_option linter.unusedVariables false
namespace Mine

def flag (i : Nat) : Int := 1 * 2 ^ ((i : Int)).toNat
def onAt (n : Int) (i : Nat) : Bool := Builtin.bitAnd n (flag i) != 0
def flAt (n : Int) : Nat → Int
  | 0 => n
  | i + 1 => if onAt (flAt n i) i then Builtin.bitXor (flAt n i) (flag i) else flAt n i
def flName (i : Nat) : Str := Str.ofString (["OPTIMIZED", "NEWLOCALS", "VARARGS", "VARKEYWORDS", "NESTED", "GENERATOR", "NOFREE"].getD i "")
def nmAt (n : Int) : Nat → List Str
  | 0 => []
  | i + 1 => if onAt (flAt n i) i then nmAt n i ++ [flName i] else nmAt n i
def tabD : List (Int × PyData) := [(1, .str (flName 0)), (2, .str (flName 1)), (4, .str (flName 2)), (8, .str (flName 3)), (16, .str (flName 4)), (32, .str (flName 5)), (64, .str (flName 6)),
  (128, .str (Str.ofString "COROUTINE")), (256, .str (Str.ofString "ITERABLE_COROUTINE")), (512, .str (Str.ofString "ASYNC_GENERATOR"))]
theorem fl_go : ∀ k < 64, ∀ i < 6, flAt (64 + (k : Nat)) (i + 1) ≠ 0 := by decide +kernel
theorem fl_on : ∀ k < 64, onAt (flAt (64 + (k : Nat)) 6) 6 = true := by decide +kernel
theorem fl_end : ∀ k < 64, flAt (64 + (k : Nat)) 7 = 0 := by decide +kernel
theorem tab_at : ∀ i < 7, KTD.datumAt (flag i) tabD = some (.str (flName i)) := by
  intro i hi
  have : i = 0 ∨ i = 1 ∨ i = 2 ∨ i = 3 ∨ i = 4 ∨ i = 5 ∨ i = 6 := by omega
  rcases this with rfl | rfl | rfl | rfl | rfl | rfl | rfl <;> rfl
theorem hex_fits : ∀ i < 7, (PySem.baseText "0x" 16 (flag i)).length ≤ sizeLine := by decide +kernel
theorem nm_join : ∀ k < 64, JoinOk (Str.ofString ", ") (nmAt (64 + (k : Nat)) 7) = true := by decide +kernel
theorem nm_len (n : Int) : ∀ i, (nmAt n i).length ≤ i
  | 0 => Nat.le_refl _
  | i + 1 => by
    unfold nmAt
    have := nm_len n i
    split
    · rw [List.length_append]; simp; exact this
    · omega

section
variable {P : Params}
theorem keyed29 : KTD.keyedLook (fun b => (KK P).lookup b) 29 tabD = true := by kernel_rfl
theorem fok36 : FnOk (KK P) 36 (bodyAt 7) [Str.ofString "flags"] := ⟨by kernel_rfl, by kernel_rfl, by kernel_rfl, by kernel_rfl, by kernel_rfl, by kernel_rfl, by kernel_rfl, by kernel_rfl⟩

theorem le1 {env : Env} {x : Str} (h : env.kindOf x = some .local) (hk : env.scope.kind = .function) : localEnv env [x] := by
  refine ⟨fun y hy => ?_, by rw [hk]; rfl⟩
  rcases List.mem_cons.mp hy with rfl | hy
  · exact h
  · cases hy
theorem ne_range : Str.ofString "range" ≠ "__name__" := by decide
theorem ne_hex : Str.ofString "hex" ≠ "__name__" := by decide
theorem Cx.Ok.unhide {c : Cx} {B : Heap → Prop} (O : c.Ok B) (hB : BMono B) (X : List Addr) (hs : ∀ x ∈ X, x ∈ c.X) (hm : c.env.locals ∈ X) : (c.hid X c.m c.h).Ok B :=
  ⟨O.a, O.ns, hm, fun x hx => O.live x (hs x hx), hB _ _ (hid_sub hs) O.base, O.kind⟩
theorem upd_ne {m : Str → Option Value} {y z : Str} {v w : Value} (h : (z == y) = false) (e : m z = some w) : upd m y v z = some w := (if_neg (fun q => by rw [q] at h; simp at h)).trans e
abbrev cxOf {c : Cx} {B : Heap → Prop} (_ : c.Ok B) : Cx := c
theorem st_retX {c : Cx} {e : Expr} {pos : Pos} {Pv : Heap → Value → Prop} {s : Shared} {Q : Flow → Shared → Prop} {E : Value → Shared → Prop} (hk : Keep c.h s.heap) (he : EvP c e Pv)
    (h : ∀ v h' tk, Keep s.heap h' → Pv h' v → Q (.ret v) { s with heap := h', toks := tk }) : wpAny c.M c.A (exec (.Return (some e) pos) c.env) Q E s :=
  st_ret hk he fun v s₁ k r => by rw [k.rest]; exact h v _ _ k.keep r

theorem pretty {c : Cx} {mg mb : Str → Option Value} {n k : Nat} (hk64 : k < 64) (O : c.Ok (Bs (KK P) mg mb)) (hr : Room c.A (n + 1)) :
    CallD c (.ref 36) [.int (64 + (k : Int))] (.str (Txt.join (Str.ofString ", ") (nmAt (64 + (k : Int)) 7))) := by
  refine call_text O hr fok36 rfl (fun vs hv => ?_) ?_
  · obtain ⟨v1, rfl⟩ : ∃ v1, vs = [v1] := by
      rcases vs with _ | ⟨v1, _ | ⟨v2, vs⟩⟩ <;> simp at hv
      exact ⟨v1, rfl⟩
    kernel_rfl
  intro vs L h₁ O' hs hr' hlen hr2 s Q E hc hQ
  obtain ⟨v1, vs', rfl, r1, r2⟩ := hr2.inv_cons
  obtain rfl := r2.inv_nil
  obtain ⟨t0, rfl⟩ := r1.inv_int
  have k0 : Keep h₁ s.heap := fun b o e => by rw [hc]; exact e
  refine wpAny_execs_cons (st_letNew O' bs_mono k0 (by kernel_rfl) fun a m2 h2 tk2 ha haX hp u2 O2 st2 => ?_)
  have haL : a ≠ L := fun e => haX (e ▸ .head _)
  refine wpAny_execs_cons (st_for (c := cxOf O2) (tn := [Str.ofString "i"]) O2 bs_mono rfl (src_range (n := 32) O2 (glob_builtin O2 (by kernel_rfl) rfl rfl (by kernel_rfl) (by kernel_rfl) ne_range (by kernel_rfl)) ev_int (by decide) rfl) [a, L] (fun b hb => by
      rcases List.mem_cons.mp hb with rfl | hb
      · exact .head _
      · rw [List.mem_singleton.mp hb]; exact .tail _ (.head _)) (.tail _ (.head _)) ?_ ?_
    (fun X i m h => i ≤ 6 ∧ ∃ t items, m (Str.ofString "flags") = some (.int (flAt (64 + (k : Int)) i) t) ∧ m (Str.ofString "names") = some (.ref a) ∧ h.PlainList a items ∧ RdL X h items.toList ((nmAt (64 + (k : Int)) i).map PyData.str)) ?_ ?_ ?_)
  · exact le1 (by kernel_rfl) rfl
  · intro x; rfl
  · intro wr h hw Ok1 sb kp
    refine ⟨Nat.zero_le _, t0, #[], u2.get (by kernel_rfl) (by kernel_rfl), u2.self, hp.at fun o e => kp _ o e, .nil⟩
  · rintro wr i x m h m₁ h3 vs tk3 QQ EE hw hx ⟨hi, t, items, hm1, hm2, hpl, hrd⟩ rfl hvl hk3 hvs O3 sb3 kc3 hnext hbrk
    obtain ⟨v, vs', rfl, rv, rn⟩ := hvs.inv_cons
    obtain rfl := rn.inv_nil
    obtain ⟨rfl, hi32⟩ := upto_get hx
    obtain ⟨ti, rfl⟩ := rv.inv_int
    have haw : a ∉ wr := fun q => by have := (hw a q).symm.trans hp.choose_spec; cases this
    have hpl3 : h3.PlainList a items := hpl.at fun o e => hk3 _ o haw haL e
    have hrd3 : RdL _ h3 items.toList _ := hrd.keepX fun b o hb e => hk3 b o (fun q => hb (List.mem_append.mpr (.inl q))) (fun q => hb (List.mem_append.mpr (.inr (.tail _ (q ▸ .head _))))) e
    have en : ∀ (m' : Str → Option Value) (h' : Heap) p, (Cx.hid (calleeCx c (fdAt (KK P) 36) 36 L ([Str.ofString "flags"].zip [Value.int (64 + (k : Int)) t0]) h₁) (wr ++ (a :: L :: c.X)) m' h').Ok (Bs (KK P) mg mb) → m' (Str.ofString "names") = some (.ref a) → EvP (Cx.hid (calleeCx c (fdAt (KK P) 36) 36 L ([Str.ofString "flags"].zip [Value.int (64 + (k : Int)) t0]) h₁) (wr ++ (a :: L :: c.X)) m' h') (.Name (Str.ofString "names") p) (fun _ v => v = .ref a) :=
      fun m' h' p O' hm => evp_local O' (by kernel_rfl) hm (fun _ _ => rfl) (by kernel_rfl)
    have i7 : i < 7 := by omega
    have isz : items.size ≤ 7 := by have := hrd3.length; simp at this; have := nm_len (64 + (k : Int)) i; omega
    refine wpAny_execs_cons (st_letD (c := cxOf O3) (d := .int (flag i)) O3 bs_mono (fun _ _ e => e) (ev_binop ev_int (ev_local O3 (by kernel_rfl) (by kernel_rfl) rv (by kernel_rfl)) (op_lshift (by omega) (by omega) (by decide))) (by kernel_rfl) rfl fun vf m4 h4 tk4 u4 O4 st4 r4 => ?_)
    obtain ⟨tf, rfl⟩ := r4.inv_int
    have hpl4 : h4.PlainList a items := hpl3.at fun o e => st4.keep _ o (fun q => haL (List.mem_singleton.mp q)) e
    have hrd4 := hrd3.keepX (KeepX.mono st4.keep fun b hb => List.mem_append.mpr (.inr (.tail _ (by rw [List.mem_singleton.mp hb]; exact .head _))))
    have hf4 : m4 (Str.ofString "flags") = _ := u4.get (by kernel_rfl) ((bind1 m (Str.ofString "i") (.int i ti)).get (by kernel_rfl) hm1)
    have hn4 : m4 (Str.ofString "names") = _ := u4.get (by kernel_rfl) ((bind1 m (Str.ofString "i") (.int i ti)).get (by kernel_rfl) hm2)
    have efl : ∀ p, Ev (cxOf O4) (.Name (Str.ofString "flag") p) (.int (flag i)) := fun p => ev_local O4 (by kernel_rfl) u4.self r4 (by kernel_rfl)
    have efs : ∀ p, Ev (cxOf O4) (.Name (Str.ofString "flags") p) (.int (flAt (64 + (k : Int)) i)) := fun p => ev_local O4 (by kernel_rfl) hf4 (.int _ _) (by kernel_rfl)
    have kLX : ∀ b ∈ [L], b ∈ wr ++ (a :: L :: c.X) := fun b hb => List.mem_append.mpr (.inr (.tail _ (by rw [List.mem_singleton.mp hb]; exact .head _)))
    have kLX' : ∀ b ∈ [L], b ∈ [a, L] := fun b hb => .tail _ hb
    have kaX' : ∀ b ∈ [a], b ∈ [a, L] := fun b hb => by rw [List.mem_singleton.mp hb]; exact .head _
    have kWX : ∀ b ∈ [a, L], b ∈ wr ++ (a :: L :: c.X) := fun b hb => List.mem_append.mpr (.inr (by
      rcases List.mem_cons.mp hb with rfl | hb
      · exact .head _
      · exact .tail _ (by rw [List.mem_singleton.mp hb]; exact .head _)))
    have onE : onAt (flAt (64 + (k : Int)) i) i = (Builtin.bitAnd (flAt (64 + (k : Int)) i) (flag i) != 0) := rfl
    refine wpAny_execs_cons (st_if (c := cxOf O4) (fun _ _ e => e) (tst_value (ev_binop (efs _) (efl _) op_and) tru_int (fun _ => rfl)) (fun e s₁ k₁ => ?_) (fun e s₁ k₁ => ?_))
    · obtain ⟨h5, tk5, rfl, k5⟩ := k₁.to
      have O5 := O4.later bs_mono k5
      have s5 : KeepX [a, L] h3 h5 := (KeepX.mono st4.keep kLX').trans (Keep.toX k5)
      refine wpAny_execs_cons (st_append (c := cxOf O5) (a := a) (items := items) (d := .str (flName i)) O5 bs_mono (fun _ _ e => e) (en _ _ _ O5 hn4) (hpl4.at fun o e => k5 _ o e) (List.mem_append.mpr (.inr (.head _))) haL
        (ev_get (glob_val O5 (by kernel_rfl) rfl (by kernel_rfl) (by kernel_rfl)) (kt_keyed_in (bs_mono _ _ (fun b o e => of_hideAll _ e) O5.base).k keyed29) (ev_local O5 (by kernel_rfl) u4.self (r4.keep k5) (by kernel_rfl))
          (evp_call_builtin (glob_builtin O5 (by kernel_rfl) rfl rfl (by kernel_rfl) (by kernel_rfl) ne_hex (by kernel_rfl)) (evl_cons (ev_local O5 (by kernel_rfl) u4.self (r4.keep k5) (by kernel_rfl)) evl_nil rfl) (call_hex (hex_fits i i7)) rfl rfl)
          (fun _ _ _ r => flat_str r) (tab_at i i7) (fun _ _ _ r => rd_flat_str r) rfl rfl rfl)
        (Nat.le_trans isz (by decide)) rfl rfl rfl rfl fun v h6 tk6 r6 hpl6 O6 st6 => ?_)
      refine wpAny_execs_cons (st_xor (c := cxOf O6) O6 bs_mono (fun _ _ e => e) hf4 (ev_local O6 (by kernel_rfl) u4.self (Rd.int (flag i) tf) (by kernel_rfl)) (by kernel_rfl) fun t' m7 h7 tk7 u7 O7 st7 => ?_)
      have hn7 := u7.get (z := Str.ofString "names") (by kernel_rfl) hn4
      have hpl7 : h7.PlainList a (items.push v) := hpl6.at fun o e => st7.keep _ o (fun q => haL (List.mem_singleton.mp q)) e
      have s7 : KeepX [a, L] h3 h7 := (s5.trans (KeepX.mono st6.keep kaX')).trans (KeepX.mono st7.keep kLX')
      have hrd7 : RdL (wr ++ (a :: L :: c.X)) h7 (items.push v).toList ((nmAt (64 + (k : Int)) (i + 1)).map PyData.str) := by
        have q : nmAt (64 + (k : Int)) (i + 1) = nmAt (64 + (k : Int)) i ++ [flName i] := if_pos e
        rw [q, List.map_append, Array.toList_push]
        exact (hrd3.keepX (KeepX.mono s7 kWX)).append (.cons (r6.keepX (KeepX.mono st7.keep kLX)) .nil)
      have fl7 : flAt (64 + (k : Int)) (i + 1) = Builtin.bitXor (flAt (64 + (k : Int)) i) (flag i) := if_pos e
      refine wpAny_execs_cons (st_if (c := cxOf O7) (fun _ _ e => e) (tst_not (tst_value (ev_local O7 (by kernel_rfl) u7.self (Rd.int (Builtin.bitXor (flAt (64 + (k : Int)) i) (flag i)) t') (by kernel_rfl)) tru_int (fun _ => rfl))) (fun e2 s₂ k₂ => ?_) (fun e2 s₂ k₂ => ?_))
      · obtain ⟨h8, tk8, rfl, k8⟩ := k₂.to
        have O8 := O7.later bs_mono k8
        rw [← fl7] at e2
        have hi6 : i = 6 := by
          refine Decidable.byContradiction fun hne => fl_go k hk64 i (by omega) ?_
          simpa using e2
        subst hi6
        have s8 : KeepX [a, L] h2 h8 := kc3.trans (s7.trans (Keep.toX k8))
        refine wpAny_execs_cons (wpAny_Break ?_)
        refine hbrk .brk _ h8 _ s8 O8.ns ?_ (.inl rfl)
        have O9 := O8.unhide bs_mono (L :: c.X) (fun b hb => List.mem_append.mpr (.inr (.tail _ hb))) (.head _)
        refine wpAny_execs_cons (st_retX (c := cxOf O9) (fun _ _ e => e) (ev_join ev_str (ev_local O9 (by kernel_rfl) hn7 (.list (hid_list (hpl7.at fun o e => k8 _ o e).isList haX) ((hrd7.keep k8).sub fun b hb => List.mem_append.mpr (.inr (.tail _ hb)))) (by kernel_rfl)) (nm_join k hk64) rfl rfl rfl).toP fun v h9 tk9 k9 r9 => ?_)
        refine hQ (.ret v) h9 tk9 (fun b o hb e => k9 b o (s8 b o (fun q => ?_) (st2.keep b o hb e))) (r9.sub fun b hb => .tail _ hb) trivial
        rcases List.mem_cons.mp q with rfl | q
        · have := ha.symm.trans e; cases this
        · exact hb q
      · obtain ⟨h8, tk8, rfl, k8⟩ := k₂.to
        have O8 := O7.later bs_mono k8
        rw [← fl7] at e2
        have hi6 : i ≠ 6 := by
          rintro rfl
          rw [fl_end k hk64] at e2
          cases e2
        refine wpAny_execs_nil (wpAny_execs_nil (wpAny_execs_nil (hnext _ h8 _ (s7.trans (Keep.toX k8)) O8.ns O8 ⟨by omega, t', items.push v, fl7 ▸ u7.self, hn7, hpl7.at fun o e => k8 _ o e, hrd7.keep k8⟩)))
    · obtain ⟨h5, tk5, rfl, k5⟩ := k₁.to
      have O5 := O4.later bs_mono k5
      have s5 : KeepX [a, L] h3 h5 := (KeepX.mono st4.keep kLX').trans (Keep.toX k5)
      have hi6 : i ≠ 6 := by
        rintro rfl
        have := fl_on k hk64
        rw [onE] at this
        rw [this] at e
        cases e
      have fl5 : flAt (64 + (k : Int)) (i + 1) = flAt (64 + (k : Int)) i := if_neg (ne_true_of_eq_false e)
      have nm5 : nmAt (64 + (k : Int)) (i + 1) = nmAt (64 + (k : Int)) i := if_neg (ne_true_of_eq_false e)
      refine wpAny_execs_nil (wpAny_execs_nil (hnext _ h5 _ s5 O5.ns O5 ⟨by omega, t, items, fl5 ▸ hf4, hn4, hpl4.at fun o e => k5 _ o e, nm5 ▸ hrd4.keep k5⟩))
  · rintro wr m h h' tk EE hw ⟨hi, _⟩
    exact absurd hi (by decide)
end
end Mine
end

section
open PySem PySem.W PyProof.Rows PySem.SeqAt
set_option Elab.async false
set_option maxRecDepth 100000
set_option linter.unusedVariables false
namespace Mine

def gray (i : Nat) : Nat := [0, 1, 3, 2].getD i 0
def code (x y z : Nat) : Nat := gray x + 4 * gray y + 16 * gray z
def named (x y z : Nat) : List Str := nmAt (64 + (code x y z : Nat)) 7
theorem gray_lt : ∀ i < 4, gray i < 4 := by decide
theorem code_lt {x y z : Nat} (hx : x < 4) (hy : y < 4) (hz : z < 4) : code x y z < 64 := by
  have := gray_lt x hx; have := gray_lt y hy; have := gray_lt z hz
  unfold code; omega
theorem gray_at : ∀ i < 4, [PyData.int 0, .int 1, .int 3, .int 2][i]? = some (.int (gray i)) := by
  intro i hi
  have : i = 0 ∨ i = 1 ∨ i = 2 ∨ i = 3 := by omega
  rcases this with rfl | rfl | rfl | rfl <;> rfl
def jn (k : Nat) : Str := Txt.join (Str.ofString ", ") (nmAt (64 + (k : Int)) 7)
def sepS : Str := Str.ofString ", "

/-! The places of a text in a text, over lists: cheap to reckon. -/
def isPre : List Nat → List Nat → Bool
  | [], _ => true
  | _ :: _, [] => false
  | a :: p, b :: l => Nat.beq a b && isPre p l
def occL (p : List Nat) (n : Nat) : List Nat → Nat → Nat → List Nat
  | [], _, _ => []
  | c :: r, i, free => if Nat.ble free i && isPre p (c :: r) then i :: occL p n r (i + 1) (i + n) else occL p n r (i + 1) free
theorem isPre_iff : ∀ p l : List Nat, isPre p l = true ↔ p.length ≤ l.length ∧ l.take p.length = p
  | [], l => by simp [isPre]
  | a :: p, [] => by simp [isPre]
  | a :: p, b :: l => by
    unfold isPre
    rw [Bool.and_eq_true, isPre_iff p l, Nat.beq_eq]
    simp only [List.length_cons, List.take_succ_cons, List.cons.injEq]
    constructor
    · rintro ⟨rfl, h1, h2⟩; exact ⟨by omega, rfl, h2⟩
    · rintro ⟨h1, rfl, h2⟩; exact ⟨rfl, by omega, h2⟩
theorem sub_pre (s p : Str) (i : Nat) : (i + p.length ≤ s.length ∧ Builtin.Str.subAt s p i = true) ↔ (p.length ≤ s.length - i ∧ (s.cps.toList.drop i).take p.length = p.cps.toList ∧ i + p.length ≤ s.length) := by
  have e : Builtin.Str.subAt s p i = true ↔ (s.cps.toList.drop i).take p.length = p.cps.toList := by
    unfold Builtin.Str.subAt
    rw [beq_iff_eq, ← Array.toList_inj, Array.toList_extract, List.extract_eq_take_drop, Nat.add_sub_cancel_left]
  rw [e]
  constructor
  · rintro ⟨a, b⟩; exact ⟨by omega, b, a⟩
  · rintro ⟨_, b, a⟩; exact ⟨a, b⟩
theorem occ_go (s p : Str) (hp : 0 < p.length) : ∀ (cs : List Nat) (i free : Nat) (found : Array Nat), s.cps.toList.drop i = cs → i + cs.length = s.length → found.size ≤ i →
    (forIn (List.range' i (cs.length + 1)) (found, free) (StrLaws.occBody s p s.length (s.length + 1))).run.fst.toList = found.toList ++ occL p.cps.toList p.length cs i free
  | [], i, free, found, hd, hl, hf => by
    rw [List.length_nil, List.range'_succ, List.forIn_cons]
    unfold StrLaws.occBody
    rw [if_neg (by rintro ⟨⟨_, h⟩, _⟩; simp at hl; omega)]
    simp [occL]
  | c :: r, i, free, found, hd, hl, hf => by
    have hd' : s.cps.toList.drop (i + 1) = r := by
      rw [← List.drop_drop, hd]; rfl
    have hl' : i + 1 + r.length = s.length := by rw [List.length_cons] at hl; omega
    have hls : s.length - i = (c :: r).length := by omega
    rw [List.length_cons, List.range'_succ, List.forIn_cons]
    by_cases hb : Nat.ble free i && isPre p.cps.toList (c :: r)
    · have hb' := hb
      rw [Bool.and_eq_true, Nat.ble_eq, isPre_iff] at hb'
      obtain ⟨h1, h2, h3⟩ := hb'
      have hlen : p.cps.toList.length = p.length := rfl
      rw [hlen] at h2 h3
      have hs : Builtin.Str.subAt s p i = true := ((sub_pre s p i).mpr ⟨by rw [hls]; exact h2, by rw [hd]; exact h3, by omega⟩).2
      have : StrLaws.occBody s p s.length (s.length + 1) i (found, free) = pure (ForInStep.yield (found.push i, i + p.length)) := by
        unfold StrLaws.occBody
        exact if_pos ⟨⟨⟨by show found.size < s.length + 1; omega, h1⟩, by omega⟩, hs⟩
      rw [this]
      show (forIn (List.range' (i + 1) (r.length + 1)) (found.push i, i + p.length) (StrLaws.occBody s p s.length (s.length + 1))).run.fst.toList = _
      rw [occ_go s p hp r (i + 1) (i + p.length) (found.push i) hd' hl' (by rw [Array.size_push]; omega)]
      rw [show occL p.cps.toList p.length (c :: r) i free = i :: occL p.cps.toList p.length r (i + 1) (i + p.length) from by rw [occL, if_pos hb]]
      simp
    · have : StrLaws.occBody s p s.length (s.length + 1) i (found, free) = pure (ForInStep.yield (found, free)) := by
        unfold StrLaws.occBody
        refine if_neg fun ⟨⟨⟨_, h1⟩, h2⟩, h3⟩ => hb ?_
        rw [Bool.and_eq_true, Nat.ble_eq, isPre_iff]
        have h4 := (sub_pre s p i).mp ⟨h2, h3⟩
        exact ⟨h1, by rw [← hls]; exact h4.1, by rw [← hd]; exact h4.2.1⟩
      rw [this]
      show (forIn (List.range' (i + 1) (r.length + 1)) (found, free) (StrLaws.occBody s p s.length (s.length + 1))).run.fst.toList = _
      rw [occ_go s p hp r (i + 1) free found hd' hl' (by omega)]
      rw [show occL p.cps.toList p.length (c :: r) i free = occL p.cps.toList p.length r (i + 1) free from by rw [occL, if_neg hb]]
theorem occ_list (s p : Str) (hp : 0 < p.length) : Builtin.Str.occurrences s p 0 s.length (s.length + 1) = occL p.cps.toList p.length s.cps.toList 0 0 := by
  rw [StrLaws.occ_eq]
  have := occ_go s p hp s.cps.toList 0 0 #[] rfl (by show 0 + s.cps.toList.length = s.cps.size; simp) (Nat.le_refl _)
  rw [show s.cps.toList.length = s.length from rfl] at this
  exact this

def kindL (l : List Nat) : Nat := if l.all (fun c => Nat.blt c 256) then 1 else 2
theorem kind_le (s : Str) (h : kindL s.cps.toList = 1) : Builtin.Str.strKind s = 1 := by
  unfold kindL at h
  split at h
  · rename_i e
    unfold Builtin.Str.strKind
    refine if_pos ?_
    rw [← Array.all_toList, List.all_eq_true]
    intro c hc
    exact decide_eq_true (Nat.ble_eq.mp (List.all_eq_true.mp e c hc))
  · cases h
def onL (k : Nat) : List Nat := occL sepS.cps.toList 2 (jn k).cps.toList 0 0
theorem sp_len : sepS.length = 2 := by decide +kernel
theorem occ_jn (k : Nat) : Builtin.Str.occurrences (jn k) sepS 0 (jn k).length ((jn k).length + 1) = onL k := by
  have := occ_list (jn k) sepS (by rw [sp_len]; decide)
  rw [sp_len] at this; exact this
theorem sp_a1 : ∀ k < 64, Nat.blt (jn k).cps.toList.length 2 = false := by decide +kernel
theorem sp_a2 : ∀ k < 64, kindL (jn k).cps.toList = 1 := by decide +kernel
theorem sp_a3 : Builtin.Str.strKind sepS = 1 := by decide +kernel
theorem sp_a (k : Nat) (h : k < 64) : (decide ((jn k).length < sepS.length) || decide (Builtin.Str.strKind (jn k) < Builtin.Str.strKind sepS)) = false := by
  rw [kind_le _ (sp_a2 k h), sp_a3, sp_len]
  have h1 : ¬ (jn k).cps.toList.length < 2 := fun q => by
    have := sp_a1 k h
    rw [show Nat.blt (jn k).cps.toList.length 2 = true from Nat.ble_eq.mpr q] at this
    cases this
  have h2 : ¬ (jn k).length < 2 := h1
  simp [h2]
theorem sp_b1 : ∀ k < 64, (onL k).isEmpty = (k == 0) := by decide +kernel
theorem sp_b (k : Nat) (h : k < 64) : (Builtin.Str.occurrences (jn k) sepS 0 (jn k).length ((jn k).length + 1)).isEmpty = (k == 0) := by rw [occ_jn]; exact sp_b1 k h
def eqL : List Nat → List Nat → Bool
  | [], [] => true
  | a :: x, b :: y => Nat.beq a b && eqL x y
  | _, _ => false
def eqLL : List (List Nat) → List (List Nat) → Bool
  | [], [] => true
  | a :: x, b :: y => eqL a b && eqLL x y
  | _, _ => false
theorem eqL_eq : ∀ {x y : List Nat}, eqL x y = true → x = y
  | [], [], _ => rfl
  | a :: x, b :: y, h => by
    unfold eqL at h
    rw [Bool.and_eq_true, Nat.beq_eq] at h
    rw [h.1, eqL_eq h.2]
  | [], _ :: _, h => by cases h
  | _ :: _, [], h => by cases h
theorem eqLL_eq : ∀ {x y : List (List Nat)}, eqLL x y = true → x = y
  | [], [], _ => rfl
  | a :: x, b :: y, h => by
    unfold eqLL at h
    rw [Bool.and_eq_true] at h
    rw [eqL_eq h.1, eqLL_eq h.2]
  | [], _ :: _, h => by cases h
  | _ :: _, [], h => by cases h
def partsL (cs : List Nat) (cuts : List Nat) (n w : Nat) : List (List Nat) := ((0 :: cuts.map (· + w)).zip (cuts ++ [n])).map fun q => (cs.drop q.1).take (q.2 - q.1)
theorem parts_list (s : Str) (cuts : List Nat) (w : Nat) : (Builtin.Str.partsBetween s cuts w).map (fun x => x.cps.toList) = partsL s.cps.toList cuts s.cps.toList.length w := by
  unfold Builtin.Str.partsBetween partsL
  simp only [List.map_map]
  refine List.map_congr_left fun q _ => ?_
  show (s.cps.extract q.1 q.2).toList = _
  rw [Array.toList_extract, List.extract_eq_take_drop]
theorem str_lists : ∀ {xs ys : List Str}, xs.map (fun x => x.cps.toList) = ys.map (fun x => x.cps.toList) → xs = ys
  | [], [], _ => rfl
  | x :: xs, y :: ys, h => by
    rw [List.map_cons, List.map_cons, List.cons.injEq] at h
    obtain ⟨⟨x⟩⟩ := x
    obtain ⟨⟨y⟩⟩ := y
    have h1 : x = y := h.1
    rw [h1, str_lists h.2]
  | [], _ :: _, h => by cases h
  | _ :: _, [], h => by cases h
theorem sp_c1 : ∀ k < 64, eqLL (partsL (jn k).cps.toList (onL k) (jn k).cps.toList.length 2) ((nmAt (64 + (k : Nat)) 7).map fun x => x.cps.toList) = true := by decide +kernel
theorem sp_c2 (k : Nat) (h : k < 64) : Builtin.Str.partsBetween (jn k) (onL k) sepS.length = nmAt (64 + (k : Nat)) 7 := str_lists (by rw [parts_list, sp_len]; exact eqLL_eq (sp_c1 k h))
theorem sp_c (k : Nat) (h : k < 64) : Builtin.Str.partsBetween (jn k) (Builtin.Str.occurrences (jn k) sepS 0 (jn k).length ((jn k).length + 1)) sepS.length = nmAt (64 + (k : Nat)) 7 := by rw [occ_jn]; exact sp_c2 k h
theorem sp_d : ∀ k < 64, (jn k).length ≤ sizeLine := by decide +kernel
theorem sp_e (k : Nat) (h : k < 64) : (Builtin.Str.partsBetween (jn k) (Builtin.Str.occurrences (jn k) sepS 0 (jn k).length ((jn k).length + 1)) sepS.length).length ≤ sizeLine := by
  rw [sp_c k h]; exact Nat.le_trans (nm_len _ 7) (by decide)
theorem sp_0 : nmAt 64 7 = [jn 0] := by decide +kernel
end Mine
end

section
open PySem PySem.W PyProof.Rows PySem.SeqAt
set_option Elab.async false
set_option maxRecDepth 100000
set_option linter.unusedVariables false
namespace Mine

section
variable {P : Params}
theorem fok107 : FnOk (KK P) 107 (bodyAt 11) [Str.ofString "word"] := ⟨by kernel_rfl, by kernel_rfl, by kernel_rfl, by kernel_rfl, by kernel_rfl, by kernel_rfl, by kernel_rfl, by kernel_rfl⟩

/-- a def of the text, called by its name -/
theorem evp_fn {c : Cx} {mg mb : Str → Option Value} {x : Str} {p pos : Pos} {e : Expr} {es : List Expr} {a : Addr} {ds : List PyData} {Pv : Heap → Value → Prop} (O : c.Ok (Bs (KK P) mg mb)) (hl : c.env.kindOf x = some .globalImplicit) (hg : c.env.globals = mainGlobals) (hx : nsIn (KK P) mainGlobals x = some (some (.ref a))) (hd : (x == ("__debug__" : Str)) = false) (F : isFnAt (KK P) a = true)
    (ha : EvL c pos (e :: es) ds) (hc : CallP c (.ref a) ds Pv) (he : starEach (e :: es) c.env = (false, eval e c.env) :: starEach es c.env) : EvP c (.Call (.Name x p) (e :: es) [] pos) Pv := by
  obtain ⟨o, ho, hd'⟩ := fn_at F
  exact evp_call_fn (glob_val O hl hg hx hd) (bs_mono _ _ (fun b o e => of_hideAll _ e) O.base |>.k _ _ ho) hd' ha hc he

theorem law_named {c : Cx} {mg mb : Str → Option Value} {n x y z : Nat} (hx : x < 4) (hy : y < 4) (hz : z < 4) (O : c.Ok (Bs (KK P) mg mb)) (hr : Room c.A (n + 2)) :
    CallD c (.ref 107) [.tuple [.int x, .int y, .int z]] (.list ((named x y z).map PyData.str)) := by
  refine call_text O hr fok107 rfl (fun vs hv => ?_) ?_
  · obtain ⟨v1, rfl⟩ : ∃ v1, vs = [v1] := by
      rcases vs with _ | ⟨v1, _ | ⟨v2, vs⟩⟩ <;> simp at hv
      exact ⟨v1, rfl⟩
    kernel_rfl
  intro vs L h₁ O' hs hr' hlen hr2 s Q E hc hQ
  obtain ⟨v1, vs', rfl, r1, r2⟩ := hr2.inv_cons
  obtain rfl := r2.inv_nil
  have k0 : Keep h₁ s.heap := fun b o e => by rw [hc]; exact e
  have hk := code_lt hx hy hz
  refine wpAny_execs_cons (st_letC (c := cxOf O') (tn := [Str.ofString "digit"]) (cl := []) (xs := [x, y, z]) (enc := fun a : Nat => [.int a]) (p := fun _ => true) (f := fun a : Nat => .int (gray a)) O' bs_mono k0
    (src_tuple (enc := fun a : Nat => .int a) O' (ev_local O' (by kernel_rfl) (by kernel_rfl) r1 (by kernel_rfl))) ⟨rfl, by decide +kernel, rfl, by decide +kernel, by decide +kernel, fun _ => rfl⟩ (show 3 ≤ sizeLine by decide) ?_ (by kernel_rfl) rfl fun v m2 h2 tk2 u2 O2 st2 r2 => ?_)
  · intro a ha C X m vs h hs2 O2 hr2 hl2
    have ha4 : a < 4 := by
      simp at ha
      rcases ha with rfl | rfl | rfl <;> assumption
    obtain ⟨v, vs', rfl, rv, rn⟩ := hr2.inv_cons
    obtain rfl := rn.inv_nil
    refine ⟨tsts_nil, fun _ => ev_index_tuple (ev_tuple O2 (evl_cons ev_int (evl_cons ev_int (evl_cons ev_int (evl_cons ev_int evl_nil rfl) rfl) rfl) rfl) (by decide)) (ev_local O2 (by kernel_rfl) (bind1 m (Str.ofString "digit") v).self rv (by kernel_rfl)) (gray_at a ha4) (Nat.le_of_lt (Nat.lt_trans ha4 (by decide))) (fun _ _ => rfl)⟩
  have ek : (64 + (gray x : Int) + 4 * (gray y : Int) + 16 * (gray z : Int)) = 64 + ((code x y z : Nat) : Int) := by unfold code; omega
  have gx := gray_lt x hx; have gy := gray_lt y hy; have gz := gray_lt z hz
  have ep : ∀ {e0 : Expr} {p pos}, Ev (cxOf O2) e0 (.int (64 + (gray x : Int) + 4 * (gray y : Int) + 16 * (gray z : Int))) → starEach [e0] (cxOf O2).env = [(false, eval e0 (cxOf O2).env)] → Ev (cxOf O2) (.Call (.Name (Str.ofString "pretty_flags") p) [e0] [] pos) (.str (jn (code x y z))) := by
    intro e0 p pos h0 h1
    rw [ek] at h0
    exact evp_fn O2 (by kernel_rfl) rfl (by kernel_rfl) (by kernel_rfl) fok36.fn (evl_cons h0 evl_nil h1) (pretty hk O2 (hr'.less (Nat.le_add_left 1 n))) h1
  have eb' : ∀ (i : Nat) (d : PyData) p p1 p2 k2, i < 3 → [PyData.int (gray x), .int (gray y), .int (gray z)][i]? = some d → Ev (cxOf O2) (.Subscript (.Name (Str.ofString "bits") p) (.Constant (.int i) k2 p1) p2) d := fun i d p p1 p2 k2 hi e =>
    ev_index_list (ev_local O2 (by kernel_rfl) u2.self r2.rd (by kernel_rfl)) ev_int e (Nat.le_of_lt (Nat.lt_trans hi (by decide))) (fun _ _ => rfl)
  have m4 : IntMulOk 4 (gray y) := .of_left (by decide)
  have m16 : IntMulOk 16 (gray z) := .of_left (by decide)
  refine wpAny_execs_cons (st_retX (c := cxOf O2) (Pv := fun h v => Rd (L :: c.X) h v (.list ((named x y z).map PyData.str))) (fun _ _ e => e) ?_ fun v h3 tk3 k3 r3 => hQ (.ret v) h3 tk3 (fun b o hb e => k3 b o (st2.keep b o hb e)) r3.tail trivial)
  by_cases h0 : code x y z = 0
  · have e1 : (named x y z).map PyData.str = [.str (jn (code x y z))] := by unfold named; rw [h0]; exact congrArg _ sp_0
    rw [e1]
    exact ev_split1 O2 (ep (ev_binop (ev_binop (ev_binop ev_int (eb' 0 _ _ _ _ _ (by decide) rfl) op_add) (ev_binop ev_int (eb' 1 _ _ _ _ _ (by decide) rfl) (op_mul m4)) op_add) (ev_binop ev_int (eb' 2 _ _ _ _ _ (by decide) rfl) (op_mul m16)) op_add) rfl) ev_str rfl (sp_a _ hk) ((sp_b _ hk).trans (by rw [h0]; rfl)) rfl rfl rfl
  · have h2 : (Builtin.Str.occurrences (jn (code x y z)) sepS 0 (jn (code x y z)).length ((jn (code x y z)).length + 1)).isEmpty = false := (sp_b _ hk).trans (by simpa using h0)
    have e1 : (named x y z) = Txt.split (jn (code x y z)) sepS := (sp_c _ hk).symm.trans ((if_neg (ne_true_of_eq_false (sp_a _ hk))).trans (if_neg (ne_true_of_eq_false h2))).symm
    rw [e1]
    exact ev_split O2 (ep (ev_binop (ev_binop (ev_binop ev_int (eb' 0 _ _ _ _ _ (by decide) rfl) op_add) (ev_binop ev_int (eb' 1 _ _ _ _ _ (by decide) rfl) (op_mul m4)) op_add) (ev_binop ev_int (eb' 2 _ _ _ _ _ (by decide) rfl) (op_mul m16)) op_add) rfl) ev_str rfl (sp_d _ hk) (sp_e _ hk) (sp_a _ hk) h2 rfl rfl rfl
end
end Mine
end

section
open PySem PySem.W PyProof.Rows PySem.SeqAt
set_option Elab.async false
set_option maxRecDepth 100000
set_option linter.unusedVariables false
namespace Mine

/-- a run of statements from a ground: what it leaves -/
structure Go (c : Cx) (ss : List Stmt) (F : Flow → Heap → Prop) : Prop where
  run : ∀ (s : Shared) (Q : Flow → Shared → Prop) (E : Value → Shared → Prop), s.heap = c.h → (∀ f h' tk, F f h' → Q f { s with heap := h', toks := tk }) → wpAny c.M c.A (execs ss c.env) Q E s
def Then (c : Cx) (rest : List Stmt) (F : Flow → Heap → Prop) (f : Flow) (h : Heap) : Prop := (f = .next ∧ ∃ X m, Go (c.hid X m h) rest F) ∨ (f ≠ .next ∧ F f h)

theorem bodyOk_of {c : Cx} {W : List Addr} {body : List Stmt} {P : Heap → Value → Prop} (g : Go c body (fun f h' => KeepX W c.h h' ∧ P h' (retV f) ∧ retOk f)) : BodyOk c W body P := fun s Q E hc hQ =>
  g.run s Q E hc fun f h' tk hF => hQ f h' tk hF.1 hF.2.1 hF.2.2

section
variable {c : Cx} {B : Heap → Prop} {F : Flow → Heap → Prop} {rest : List Stmt}

theorem go_nil (h : F .next c.h) : Go c [] F := ⟨fun s Q E hc hQ => wpAny_execs_nil (by
  have e : s = { s with heap := c.h, toks := s.toks } := by rw [← hc]
  rw [e]; exact hQ _ _ _ h)⟩

theorem go_letV {y : Str} {py spos : Pos} {e : Expr} {P : Heap → Value → Prop} (O : c.Ok B) (hB : BMono B) (he : EvP c e P) (hP : Stable c P) (hy : c.env.kindOf y = some .local) (hs : swapsWith e (some (.Name y py)) spos.line c.env = pure false)
    (h : ∀ v m' h', Up c.m m' y v → (c.at m' h').Ok B → Stp c (c.at m' h') [c.env.locals] → P h' v → Go (c.at m' h') rest F) : Go c (.Assign [.Name y py] e spos :: rest) F :=
  ⟨fun s Q E hc hQ => wpAny_execs_cons (st_let O hB (fun b o e => by rw [hc]; exact e) he hP hy hs fun v m' h' tk u O' st r => (h v m' h' u O' st r).run _ _ _ rfl fun f h2 tk2 hF => hQ f h2 tk2 hF)⟩
theorem go_let {y : Str} {py spos : Pos} {e : Expr} {d : PyData} (O : c.Ok B) (hB : BMono B) (he : Ev c e d) (hy : c.env.kindOf y = some .local) (hs : swapsWith e (some (.Name y py)) spos.line c.env = pure false)
    (h : ∀ v m' h', Up c.m m' y v → (c.at m' h').Ok B → Stp c (c.at m' h') [c.env.locals] → Rd c.X h' v d → Go (c.at m' h') rest F) : Go c (.Assign [.Name y py] e spos :: rest) F := go_letV O hB he.toP stable_rd hy hs h

theorem go_letC {elt iter target : Expr} {ifs : List Expr} {scope : Scope} {pos spos py : Pos} {y : Str} {tn : List Str} {cl : List (Str × Addr)} {α : Type} {xs : List α} {enc : α → List PyData} {p : α → Bool} {f : α → PyData}
    (O : c.Ok B) (hB : BMono B) (hsrc : Src c iter target tn xs enc) (K : CompOk c scope tn cl iter) (hsz : xs.length ≤ sizeLine)
    (hel : ∀ x ∈ xs, ∀ C X m vs h, c.Sub (inner c (compEnvC scope cl C c.env) X (bindTo m tn vs) h) → (inner c (compEnvC scope cl C c.env) X (bindTo m tn vs) h).Ok B → RdL X h vs (enc x) → vs.length = tn.length →
      ItemOk c B ifs elt (compEnvC scope cl C c.env) X (bindTo m tn vs) h (p x) (f x))
    (hy : c.env.kindOf y = some .local) (hs : swapsWith (.ListComp elt [⟨target, iter, ifs, 0⟩] scope pos) (some (.Name y py)) spos.line c.env = pure true)
    (h : ∀ v m' h', Up c.m m' y v → (c.at m' h').Ok B → Stp c (c.at m' h') [c.env.locals] → RdP c.X h' v ((xs.filter p).map f) → Go (c.at m' h') rest F) :
    Go c (.Assign [.Name y py] (.ListComp elt [⟨target, iter, ifs, 0⟩] scope pos) spos :: rest) F :=
  ⟨fun s Q E hc hQ => wpAny_execs_cons (st_letC O hB (fun b o e => by rw [hc]; exact e) hsrc K hsz hel hy hs fun v m' h' tk u O' st r => (h v m' h' u O' st r).run _ _ _ rfl fun f h2 tk2 hF => hQ f h2 tk2 hF)⟩

theorem go_letNew {y : Str} {py spos lpos : Pos} (O : c.Ok B) (hB : BMono B) (hy : c.env.kindOf y = some .local)
    (h : ∀ a m' h', c.h.get? a = none → a ∉ c.X → h'.PlainList a #[] → Up c.m m' y (.ref a) → (c.hid (a :: c.X) m' h').Ok B → Stp c (c.hid (a :: c.X) m' h') [c.env.locals] → Go (c.hid (a :: c.X) m' h') rest F) :
    Go c (.Assign [.Name y py] (.List [] lpos) spos :: rest) F :=
  ⟨fun s Q E hc hQ => wpAny_execs_cons (st_letNew O hB (fun b o e => by rw [hc]; exact e) hy fun a m' h' tk h1 h2 h3 u O' st => (h a m' h' h1 h2 h3 u O' st).run _ _ _ rfl fun f h2 tk2 hF => hQ f h2 tk2 hF)⟩

theorem go_append {o e : Expr} {apos pos spos : Pos} {a : Addr} {items : Array Value} {d : PyData} (O : c.Ok B) (hB : BMono B) (h1 : EvP c o (fun _ v => v = .ref a)) (ha : c.h.PlainList a items) (haX : a ∈ c.X) (haL : a ≠ c.env.locals) (h2 : Ev c e d) (hsz : items.size ≤ sizeLine)
    (hbase : attributeBase o (Str.ofString "append") c.env (eval o c.env) = eval o c.env) (hline : (apos.endLine == pos.line) = true) (hs : starEach [e] c.env = [(false, eval e c.env)]) (hi : interactive c.env = false)
    (h : ∀ v h', Rd c.X h' v d → h'.PlainList a (items.push v) → (c.at c.m h').Ok B → Stp c (c.at c.m h') [a] → Go (c.at c.m h') rest F) :
    Go c (.Expr (.Call (.Attribute o (Str.ofString "append") apos) [e] [] pos) spos :: rest) F :=
  ⟨fun s Q E hc hQ => wpAny_execs_cons (st_append O hB (fun b o e => by rw [hc]; exact e) h1 ha haX haL h2 hsz hbase hline hs hi fun v h' tk r hp O' st => (h v h' r hp O' st).run _ _ _ rfl fun f h2 tk2 hF => hQ f h2 tk2 hF)⟩

theorem go_ret {e : Expr} {pos : Pos} {Pv : Heap → Value → Prop} (he : EvP c e Pv) (h : ∀ v h', Keep c.h h' → Pv h' v → F (.ret v) h') : Go c (.Return (some e) pos :: rest) F :=
  ⟨fun s Q E hc hQ => wpAny_execs_cons (wpAny_Return_some (he s _ _ (fun b o e => by rw [hc]; exact e) fun v s₁ k r => by
    show Q (.ret v) s₁
    rw [k.rest]; exact hQ _ _ _ (h v _ (hc ▸ k.keep) r)))⟩
theorem go_retD {e : Expr} {pos : Pos} {d : PyData} (he : Ev c e d) (h : ∀ v h', Keep c.h h' → Rd c.X h' v d → F (.ret v) h') : Go c (.Return (some e) pos :: rest) F := go_ret he.toP h

theorem go_break {pos : Pos} (h : F .brk c.h) : Go c (.Break pos :: rest) F := ⟨fun s Q E hc hQ => wpAny_execs_cons (wpAny_Break (by
  have e : s = { s with heap := c.h, toks := s.toks } := by rw [← hc]
  rw [e]; exact hQ _ _ _ h))⟩

theorem go_then {ss : List Stmt} {s : Shared} {Q : Flow → Shared → Prop} {E : Value → Shared → Prop} (g : Go c ss (Then c rest F)) (hc : s.heap = c.h) (hQ : ∀ f h' tk, F f h' → Q f { s with heap := h', toks := tk }) :
    wpAny c.M c.A (execs ss c.env) (fun f s' => match f with | .next => wpAny c.M c.A (execs rest c.env) Q E s' | f => Q f s') E s :=
  g.run s _ _ hc fun f h' tk hF => by
    rcases hF with ⟨rfl, X, m, g2⟩ | ⟨hne, hF⟩
    · exact g2.run { s with heap := h', toks := tk } Q E rfl fun f h2 tk2 hF => hQ f h2 tk2 hF
    · cases f with
      | next => exact absurd rfl hne
      | brk => exact hQ _ _ _ hF
      | cont => exact hQ _ _ _ hF
      | ret v => exact hQ _ _ _ hF

theorem go_if {t : Expr} {b1 b2 : List Stmt} {pos : Pos} {b : Bool} (O : c.Ok B) (hB : BMono B) (ht : Tst c t b)
    (h1 : b = true → ∀ h', Keep c.h h' → (c.at c.m h').Ok B → Stp c (c.at c.m h') [] → Go (c.at c.m h') b1 (Then c rest F)) (h2 : b = false → ∀ h', Keep c.h h' → (c.at c.m h').Ok B → Stp c (c.at c.m h') [] → Go (c.at c.m h') b2 (Then c rest F)) : Go c (.If t b1 b2 pos :: rest) F :=
  ⟨fun s Q E hc hQ => wpAny_execs_cons (wpAny_If (ht s _ _ (fun b o e => by rw [hc]; exact e) fun s₁ k₁ => by
    have k : Keep c.h s₁.heap := hc ▸ k₁.keep
    have st : Stp c (c.at c.m s₁.heap) [] := ⟨hid_keepX (Keep.toX k), Keep.toX k⟩
    have hQ' : ∀ f h' tk, F f h' → Q f { s₁ with heap := h', toks := tk } := fun f h' tk hF => by
      have e := hQ f h' tk hF
      rw [k₁.rest]; exact e
    cases b with
    | true => exact go_then (c := c.at c.m s₁.heap) (h1 rfl s₁.heap k (O.later hB k) st) rfl hQ'
    | false => exact go_then (c := c.at c.m s₁.heap) (h2 rfl s₁.heap k (O.later hB k) st) rfl hQ'))⟩

/-- a for -/
theorem go_for {target iter : Expr} {body orelse : List Stmt} {pos : Pos} {tn : List Str} {α : Type} {xs : List α} {enc : α → List PyData}
    (O : c.Ok B) (hB : BMono B) (hsrc : Src c iter target tn xs enc) (W : List Addr) (hWX : ∀ b ∈ W, b ∈ c.X) (hWL : c.env.locals ∈ W) (hl : localEnv c.env tn) (hfold : ∀ x, foldedSetIterable iter c.env x = pure x)
    (Inv : List Addr → Nat → (Str → Option Value) → Heap → Prop)
    (h0 : ∀ wr h, (∀ b ∈ wr, c.h.get? b = none) → (c.hid (wr ++ c.X) c.m h).Ok B → c.Sub (c.hid (wr ++ c.X) c.m h) → Keep c.h h → Inv (wr ++ c.X) 0 c.m h)
    (turn : ∀ wr i x m h vs h₁, (∀ b ∈ wr, c.h.get? b = none) → xs[i]? = some x → Inv (wr ++ c.X) i m h → vs.length = tn.length →
      (∀ b o, b ∉ wr → b ≠ c.env.locals → h.get? b = some o → h₁.get? b = some o) → RdL (wr ++ c.X) h₁ vs (enc x) → (c.hid (wr ++ c.X) (bindTo m tn vs) h₁).Ok B → c.Sub (c.hid (wr ++ c.X) (bindTo m tn vs) h₁) → KeepX W c.h h₁ →
      Go (c.hid (wr ++ c.X) (bindTo m tn vs) h₁) body (fun f h' => (f = .next ∧ ∃ m', KeepX W h₁ h' ∧ (c.hid (wr ++ c.X) m' h').Ok B ∧ Inv (wr ++ c.X) (i + 1) m' h') ∨
        (f = .brk ∧ ∃ m', KeepX W c.h h' ∧ h'.Ns c.env.locals m' ∧ ∃ X m, Go (c.hid X m h') rest F) ∨ (∃ v m', f = .ret v ∧ KeepX W c.h h' ∧ h'.Ns c.env.locals m' ∧ F f h')))
    (done : ∀ wr m h h', (∀ b ∈ wr, c.h.get? b = none) → Inv (wr ++ c.X) xs.length m h → (∀ b o, b ∉ wr → h.get? b = some o → h'.get? b = some o) → (c.hid (wr ++ c.X) m h).Ok B → h'.Ns c.env.locals m → KeepX W c.h h' →
      Go (c.hid c.X m h') orelse (Then c rest F)) :
    Go c (.For target iter body orelse pos :: rest) F :=
  ⟨fun s Q E hc hQ => wpAny_execs_cons (st_for O hB hc.symm hsrc W hWX hWL hl hfold Inv h0
    (fun wr i x m h m₁ h₁ vs tk QQ EE hw hx hI hm hvl hk hr O' hs' hkW hn hb => by
      subst hm
      refine (turn wr i x m h vs h₁ hw hx hI hvl hk hr O' hs' hkW).run { s with heap := h₁, toks := tk } QQ EE rfl fun f h' tk' hF => ?_
      rcases hF with ⟨rfl, m', a1, a2, a3⟩ | ⟨rfl, m', a1, a2, X, m2, g⟩ | ⟨v, m', rfl, a1, a2, a3⟩
      · exact hn m' h' tk' a1 a2.ns a2 a3
      · refine hb .brk m' h' tk' a1 a2 ?_ (.inl rfl)
        exact g.run { s with heap := h', toks := tk' } Q E rfl fun f h2 tk2 hF => hQ f h2 tk2 hF
      · exact hb (.ret v) m' h' tk' a1 a2 (hQ _ _ _ a3) (.inr ⟨v, rfl⟩))
    (fun wr m h h' tk EE hw hI hk O' hn hkW => by
      refine (done wr m h h' hw hI hk O' hn hkW).run { s with heap := h', toks := tk } _ EE rfl fun f h2 tk2 hF => ?_
      rcases hF with ⟨rfl, X, m2, g2⟩ | ⟨hne, hF⟩
      · exact g2.run { s with heap := h2, toks := tk2 } Q E rfl fun f h3 tk3 hF => hQ f h3 tk3 hF
      · cases f with
        | next => exact absurd rfl hne
        | brk => exact hQ _ _ _ hF
        | cont => exact hQ _ _ _ hF
        | ret v => exact hQ _ _ _ hF))⟩
end
end Mine
end

section
open PySem PySem.W PyProof.Rows PySem.SeqAt
set_option Elab.async false
set_option maxRecDepth 100000
set_option linter.unusedVariables false
namespace Mine

/-- the ground of a def with cells that is called -/
def calleeCC (c : Cx) (fd : FuncData) (a L : Addr) (m : Str → Option Value) (h : Heap) : Cx :=
  { prog := c.prog, w := c.w, A := c.A.deeper (callEnvC fd L a), env := callEnvC fd L a, X := L :: c.X, m := m, h := h }

theorem call_cells {c : Cx} {K : Frag} {mg mb : Str → Option Value} {a : Addr} {body : List Stmt} {names : List Str} {ds : List PyData} {n : Nat} {Pv : Heap → Value → Prop} (O : c.Ok (Bs K mg mb)) (hr : Room c.A (n + 1))
    (hf : isFnAt K a = true) (hbody : (fdAt K a).body = .stmts body) (hcode : codeIn K (fdAt K a).code (fdAt K a).qualname = true) (hclo : (fdAt K a).closure = []) (hco : (fdAt K a).scope.isCoroutine = false) (hgen : (fdAt K a).scope.isGenerator = false) (hkd : (fdAt K a).scope.kind = .function) (hlen : names.length = ds.length)
    (hbind : ∀ vs : List Value, vs.length = ds.length → bindArgs (fdAt K a) ⟨vs, []⟩ = pure (names.zip vs))
    (hkind : ∀ (N : Nat), ∀ x ∈ names, (fdAt K a).scope.names.lookup x = some .local ∨ ((fdAt K a).scope.names.lookup x = some .cell ∧ ((cellsFrom (N + 1) (fdAt K a).scope.names []).lookup x).isSome = true))
    (hb : ∀ vs L m cm h₁, (∀ n c, (callEnvC (fdAt K a) L a).cells.lookup n = some c → h₁.IsCell c (cm n)) → (∀ n c', (n, c') ∈ (callEnvC (fdAt K a) L a).cells → c' ∉ L :: c.X) → m = bindL (callEnvC (fdAt K a) L a).kindOf (names.zip vs) (fun _ => none) → cm = bindC (callEnvC (fdAt K a) L a).kindOf (names.zip vs) (fun _ => none) →
      (calleeCC c (fdAt K a) a L m h₁).Ok (Bs K mg mb) → c.Sub (calleeCC c (fdAt K a) a L m h₁) → Room (c.A.deeper (callEnvC (fdAt K a) L a)) n → vs.length = ds.length → RdL (L :: c.X) h₁ vs ds →
      BodyOk (calleeCC c (fdAt K a) a L m h₁) [L] body Pv) : CallP c (.ref a) ds Pv := fun s vs Q E k r h => by
  obtain ⟨o, ho, hd⟩ := fn_at hf
  have B1 : Bs K mg mb s.heap := bs_mono _ _ (fun b o e => k b o (of_hideAll _ e)) O.base
  have hLn : s.heap.get? s.heap.objs.size = none := Heap.get?_none_of_le (Nat.le_refl _)
  refine wpAny_call (codeAny_call_cells (fd := fdAt K a) (body := body) (binds := names.zip vs) (by have := hr.depth; show c.A.depth < 1000; omega) (B1.k _ _ ho) hd B1.lim (codeRec_of B1.k hcode) hbody (hbind vs r.length) hclo (fun x hx => hkind _ x.1 (List.of_mem_zip hx).1) (fun s₁ x => ?_) hco hgen hkd)
  obtain ⟨h₁, tk₁, rfl⟩ := x.toInCall.same
  have hsub : c.Sub (calleeCC c (fdAt K a) a s.heap.objs.size (bindL (callEnvC (fdAt K a) s.heap.objs.size a).kindOf (names.zip vs) (fun _ => none)) h₁) := sub_new (fun b hb => by
      rcases List.mem_cons.mp hb with rfl | hb
      · refine .inr ?_
        cases q : c.h.get? s.heap.objs.size with
        | none => rfl
        | some o => have := k _ o q; rw [hLn] at this; cases this
      · exact .inl hb) fun b o hb e => x.toInCall.keep b o (k b o e)
  have hok : (calleeCC c (fdAt K a) a s.heap.objs.size (bindL (callEnvC (fdAt K a) s.heap.objs.size a).kindOf (names.zip vs) (fun _ => none)) h₁).Ok (Bs K mg mb) := by
    refine ⟨(hr.deeper _).aok, x.toInCall.ns, .head _, ?_, bs_mono _ _ hsub O.base, hkd⟩
    obtain ⟨oL, _, _, e, _⟩ := x.toInCall.ns
    exact Live.cons (O.live.keep fun b o e => x.toInCall.keep b o (k b o e)) e
  refine hb vs s.heap.objs.size _ _ h₁ x.cell (fun n c' hm q => ?_) rfl rfl hok hsub (hr.deeper _) r.length ?_ { s with heap := h₁, toks := tk₁ } _ _ rfl fun f h' tk hkw hp _ => ?_
  · have hlt : s.heap.objs.size < c' := x.above n c' hm
    rcases List.mem_cons.mp q with q | q
    · exact Nat.lt_irrefl _ (q ▸ hlt)
    · obtain ⟨o, e⟩ := O.live c' q
      exact Nat.lt_irrefl _ (Nat.lt_trans hlt (Heap.lt_size (k _ o e)))
  · obtain ⟨as, q⟩ := r
    refine ⟨as, ReadsAll.keeps (sub_new (fun b hb => ?_) fun b o hb e => x.toInCall.keep b o e) q⟩
    rcases List.mem_cons.mp hb with rfl | hb
    · exact .inr hLn
    · exact .inl hb
  · refine h (retV f) _ (.both s tk fun b o e => hkw b o (fun hm => ?_) (x.toInCall.keep b o e)) hp
    have := List.mem_singleton.mp hm; subst this
    rw [hLn] at e; cases e

def six : List (Str × Str) := [(Str.ofString "a", flName 0), (Str.ofString "b", flName 1), (Str.ofString "c", flName 2), (Str.ofString "d", flName 3), (Str.ofString "e", flName 4), (Str.ofString "f", flName 5)]
def has (ys : List Str) (x : Str) : Bool := (ys.map PyData.str).any fun y => PyData.eqv y (.str x)
def sign (ys : List Str) (p : Str × Str) : Str := if has ys p.2 then Txt.upper p.1 else p.1
def letters (ys : List Str) : Str := Txt.join (Str.ofString "") (six.map (sign ys))
def flags6 : List PyData := [.str (Str.ofString "OPTIMIZED"), .str (Str.ofString "NEWLOCALS"), .str (Str.ofString "VARARGS"), .str (Str.ofString "VARKEYWORDS"), .str (Str.ofString "NESTED"), .str (Str.ofString "GENERATOR")]
theorem six_flags : (six.map fun p => PyData.str p.2) = flags6 := by kernel_rfl
theorem six_str : IterD (.str (Str.ofString "abcdef")) (six.map fun p => .str p.1) := by
  have e : (six.map fun p => PyData.str p.1) = ((Str.ofString "abcdef").cps.toList.map fun c => PyData.str ⟨#[c]⟩) := by kernel_rfl
  rw [e]; exact .str _ (by decide +kernel)
theorem ne_zip : Str.ofString "zip" ≠ "__name__" := by decide
theorem six_lay : ∀ p ∈ six, (PyData.str p.2).canLay0 = true := by decide +kernel
theorem depth_str (x : Str) : (PyData.str x).depth ≤ 64 := by simp [PyData.depth]
theorem six_up : ∀ p ∈ six, Builtin.Str.tooLong (Txt.upper p.1).length = false := by decide +kernel

section
variable {P : Params}
theorem fn112 : isFnAt (KK P) 112 = true := by kernel_rfl
theorem law_letters {c : Cx} {mg mb : Str → Option Value} {n : Nat} {ys : List Str} (hj : JoinOk (Str.ofString "") (six.map (sign ys)) = true) (hlay : PyData.canLayAll0 (ys.map PyData.str) = true) (O : c.Ok (Bs (KK P) mg mb)) (hr : Room c.A (n + 1)) :
    CallD c (.ref 112) [.list (ys.map PyData.str)] (.str (letters ys)) := by
  refine call_cells (body := bodyAt 12) (names := [Str.ofString "named"]) O hr fn112 (by kernel_rfl) (by kernel_rfl) (by kernel_rfl) (by kernel_rfl) (by kernel_rfl) (by kernel_rfl) rfl (fun vs hv => ?_) (fun N x hx => ?_) ?_
  · obtain ⟨v1, rfl⟩ : ∃ v1, vs = [v1] := by
      rcases vs with _ | ⟨v1, _ | ⟨v2, vs⟩⟩ <;> simp at hv
      exact ⟨v1, rfl⟩
    kernel_rfl
  · rw [List.mem_singleton.mp hx]
    exact .inr ⟨by kernel_rfl, by kernel_rfl⟩
  intro vs L m cm h₁ hcell habove hm hcm O' hs hr' hlen hr2
  obtain ⟨v1, vs', rfl, r1, r2⟩ := hr2.inv_cons
  obtain rfl := r2.inv_nil
  have hcv : h₁.IsCell (L + 1) (some v1) := by
    have hlk : (callEnvC (fdAt (KK P) 112) L 112).cells.lookup (Str.ofString "named") = some (L + 1) := by kernel_rfl
    have := hcell (Str.ofString "named") (L + 1) hlk
    have e : (bindC (callEnvC (fdAt (KK P) 112) L 112).kindOf ([Str.ofString "named"].zip [v1]) (fun _ => none)) (Str.ofString "named") = some v1 := by kernel_rfl
    rw [hcm, e] at this
    exact this
  have hcX : L + 1 ∉ L :: c.X := habove (Str.ofString "named") (L + 1) (.head _)
  refine bodyOk_of (go_let (d := .tuple flags6) O' bs_mono (ev_tuple O' (evl_cons ev_str (evl_cons ev_str (evl_cons ev_str (evl_cons ev_str (evl_cons ev_str (evl_cons ev_str evl_nil rfl) rfl) rfl) rfl) rfl) rfl) (by decide)) (by kernel_rfl) rfl fun v m2 h2 u2 O2 st2 r2 => ?_)
  refine go_retD (d := .str (letters ys)) (ev_join (ys := six.map (sign ys)) ev_str ?_ hj rfl rfl rfl) fun v h3 k3 r3 => ⟨fun b o hb e => k3 b o (st2.keep b o hb e), r3.tail, trivial⟩
  have hsix : (six.filter fun _ => true).map (fun p => PyData.str (sign ys p)) = (six.map (sign ys)).map PyData.str := rfl
  rw [← hsix]
  refine ev_comp (tn := [Str.ofString "sign", Str.ofString "flag"]) (cl := [(Str.ofString "named", L + 1)]) (xs := six) (enc := fun p => [.str p.1, .str p.2]) (p := fun _ => true) (f := fun p => .str (sign ys p)) O2 bs_mono
    (src_zip O2 (glob_builtin O2 (by kernel_rfl) rfl rfl (by kernel_rfl) (by kernel_rfl) ne_zip (by kernel_rfl)) ev_str (ev_local O2 (by kernel_rfl) u2.self r2 (by kernel_rfl)) six_str (six_flags ▸ .tuple _) rfl rfl) ⟨by kernel_rfl, by decide +kernel, by kernel_rfl, by decide +kernel, by decide +kernel, fun _ => rfl⟩ (show 6 ≤ sizeLine by decide) ?_
  intro p hp C X m3 vs h hs3 O3 hr3 hl3
  obtain ⟨w1, ws, rfl, q1, q2⟩ := hr3.inv_cons
  obtain ⟨w2, ws, rfl, q3, q4⟩ := q2.inv_cons
  obtain rfl := q4.inv_nil
  have hcv3 : h.IsCell (L + 1) (some v1) := by
    obtain ⟨o, e, q⟩ := hcv
    exact ⟨o, of_hideAll _ (hs3 _ _ (st2.sub _ _ (hid_get.mpr ⟨hcX, e⟩))), q⟩
  have r13 := hs3.rd (st2.sub.rd (c := calleeCC c (fdAt (KK P) 112) 112 L m h₁) r1)
  refine ⟨tsts_nil, fun _ => ev_ifexp (b := has ys p.2) (tst_compare (ev_local O3 (by kernel_rfl) (bind2b m3 (Str.ofString "sign") (Str.ofString "flag") w1 w2) q3 (by kernel_rfl)) (ev_cell O3 (by kernel_rfl) (by kernel_rfl) hcv3 r13 (by kernel_rfl)) (op_in O3 hlay (six_lay p hp) (depth_str _)) (by kernel_rfl)) (fun e => ?_) (fun e => ?_)⟩
  · rw [show sign ys p = Txt.upper p.1 from if_pos e]
    exact ev_upper (ev_local O3 (by kernel_rfl) (bind2a m3 (Str.ofString "sign") (Str.ofString "flag") w1 w2 (by kernel_rfl)) q1 (by kernel_rfl)) (six_up p hp) rfl rfl
  · rw [show sign ys p = p.1 from if_neg (ne_true_of_eq_false e)]
    exact ev_local O3 (by kernel_rfl) (bind2a m3 (Str.ofString "sign") (Str.ofString "flag") w1 w2 (by kernel_rfl)) q1 (by kernel_rfl)
end
end Mine
end

section
open PySem PySem.W PyProof.Rows PySem.SeqAt
set_option Elab.async false
set_option maxRecDepth 100000
set_option linter.unusedVariables false
namespace Mine
section
variable {c : Cx} {B : Heap → Prop}

theorem src_str {iter : Expr} {x : Str} {px : Pos} {y : Str} (O : c.Ok B) (he : Ev c iter (.str y)) (ha : y.cps.all (· < 128) = true) : Src c iter (.Name x px) [x] y.cps.toList (fun ch => [.str ⟨#[ch]⟩]) := fun s Q E k h =>
  he s _ _ k fun v s₁ k₁ r₁ => by
    obtain ⟨t, rfl⟩ := r₁.inv_str
    refine wpAny_pyIter_ascii ha (h s₁.heap.objs.size [s₁.heap.objs.size] [s₁.heap.objs.size] _ _ s₁.heap (k₁.trans (.push s₁ _)) k₁.keep (fun _ _ e => Heap.get?_push_of_some _ e) ?_ ?_ ?_
      (Feed.ofWalks (Walks.strAscii O.a.handled _ y t) ?_ (by simp) ?_))
    · intro b hb
      rw [List.mem_singleton.mp hb]
      exact ⟨⟨_, Heap.get?_push_size _ rfl⟩, (O.live.keep fun b o e => k₁.keep b o (k b o e)).fresh (Nat.le_refl _)⟩
    · intro b hb
      rw [List.mem_singleton.mp hb]
      cases q : s₁.heap.get? s₁.heap.objs.size with
      | none => rfl
      | some o => exact absurd (Heap.lt_size q) (Nat.lt_irrefl _)
    · exact ⟨_, Heap.get?_push_size _ rfl, rfl, rfl⟩
    · intro i h hst b hb
      rw [List.mem_singleton.mp hb]
      obtain ⟨o, e, _⟩ := hst
      exact ⟨o, e⟩
    · intro i a' v hx hv
      obtain ⟨cc, uu, hc, rfl⟩ := hv
      have : cc = a' := by rw [Array.getElem?_toList] at hx; rw [hx] at hc; exact (Option.some.inj hc).symm
      subst this
      exact .cons (.str _ _) .nil

/-- a for whose turns may own new cells: Z, new since the loop began -/
theorem st_forZ {target iter : Expr} {body orelse : List Stmt} {pos : Pos} {tn : List Str} {α : Type} {xs : List α} {enc : α → List PyData} {s : Shared} {Q : Flow → Shared → Prop} {E : Value → Shared → Prop}
    (O : c.Ok B) (hB : BMono B) (hc : c.h = s.heap) (hsrc : Src c iter target tn xs enc) (W : List Addr) (hWX : ∀ b ∈ W, b ∈ c.X) (hWL : c.env.locals ∈ W) (hl : localEnv c.env tn) (hfold : ∀ x, foldedSetIterable iter c.env x = pure x)
    (Inv : List Addr → List Addr → Nat → (Str → Option Value) → Heap → Prop)
    (h0 : ∀ wr h, (∀ b ∈ wr, c.h.get? b = none) → (c.hid (wr ++ c.X) c.m h).Ok B → Keep c.h h → Inv (wr ++ c.X) [] 0 c.m h)
    (turn : ∀ wr Z i x m h m₁ h₁ vs tk (QQ : Flow → Shared → Prop) (EE : Value → Shared → Prop), (∀ b ∈ wr, c.h.get? b = none) → (∀ b ∈ Z, c.h.get? b = none ∧ b ∉ wr) → xs[i]? = some x → Inv (wr ++ c.X) Z i m h → m₁ = bindTo m tn vs → vs.length = tn.length →
      (∀ b o, b ∉ wr → b ≠ c.env.locals → h.get? b = some o → h₁.get? b = some o) → RdL (Z ++ (wr ++ c.X)) h₁ vs (enc x) → (c.hid (Z ++ (wr ++ c.X)) m₁ h₁).Ok B → KeepX W c.h h₁ →
      (∀ Z' m' h' tk', (∀ b ∈ Z', b ∈ Z ∨ h₁.get? b = none) → KeepX (Z ++ W) h₁ h' → (c.hid (Z' ++ (wr ++ c.X)) m' h').Ok B → Inv (wr ++ c.X) Z' (i + 1) m' h' → QQ .next { s with heap := h', toks := tk' }) →
      wpAny c.M c.A (execs body c.env) QQ EE { s with heap := h₁, toks := tk })
    (done : ∀ wr Z m h h' tk (EE : Value → Shared → Prop), (∀ b ∈ wr, c.h.get? b = none) → (∀ b ∈ Z, c.h.get? b = none ∧ b ∉ wr) → Inv (wr ++ c.X) Z xs.length m h → (∀ b o, b ∉ wr → h.get? b = some o → h'.get? b = some o) → (c.hid (Z ++ (wr ++ c.X)) m h).Ok B → h'.Ns c.env.locals m → KeepX W c.h h' →
      wpAny c.M c.A (execs orelse c.env) Q EE { s with heap := h', toks := tk }) :
    wpAny c.M c.A (exec (.For target iter body orelse pos) c.env) Q E s := by
  refine wpAny_For ?_ hfold
  refine hsrc s _ _ (hc ▸ fun _ _ e => e) fun I fp wr St s₂ h₀ K₂ hk₀ hk₂ hfp hwr hst F => ?_
  rw [← hc] at hk₀
  have hwrs : ∀ b ∈ wr, c.h.get? b = none := fun b hb => by
    cases q : c.h.get? b with
    | none => rfl
    | some o => have := hwr b hb; rw [hk₀ b o q] at this; cases this
  have hkc : Keep c.h s₂.heap := fun b o e => hk₂ b o (hk₀ b o e)
  have hLf : c.env.locals ∉ fp := fun hm => (hfp _ hm).2 O.mem
  have hLw : c.env.locals ∉ wr := fun hm => hLf (F.sub _ hm)
  -- Z is new since s₂
  have hkS := hk₂
  have Zc : ∀ {Z : List Addr}, (∀ b ∈ Z, s₂.heap.get? b = none) → ∀ b ∈ Z, c.h.get? b = none ∧ b ∉ wr := fun {Z} hZ b hb => by
    constructor
    · cases q : c.h.get? b with
      | none => rfl
      | some o => have := hZ b hb; rw [hkc b o q] at this; cases this
    · intro q; obtain ⟨⟨o, e⟩, _⟩ := hfp _ (F.sub _ q); rw [hZ b hb] at e; cases e
  have subOf : ∀ {Z m h}, (∀ b ∈ Z, s₂.heap.get? b = none) → KeepX c.X c.h h → c.Sub (c.hid (Z ++ (wr ++ c.X)) m h) := fun {Z m h} hZ k => sub_new (fun b hb => by
      rcases List.mem_append.mp hb with hb | hb
      · exact .inr (Zc hZ b hb).1
      · rcases List.mem_append.mp hb with hb | hb
        · exact .inr (hwrs b hb)
        · exact .inl hb) fun b o hb e => k b o (fun q => hb (List.mem_append.mpr (.inr (List.mem_append.mpr (.inr q))))) e
  have liveOf : ∀ {Z i h}, Live Z h → St i h → Live c.X h → Live (Z ++ (wr ++ c.X)) h := fun {Z i h} lz st l b hb => by
      rcases List.mem_append.mp hb with hb | hb
      · exact lz b hb
      · rcases List.mem_append.mp hb with hb | hb
        · exact F.live _ _ st b hb
        · exact l b hb
  have okOf : ∀ {Z m h}, (∀ b ∈ Z, s₂.heap.get? b = none) → KeepX c.X c.h h → h.Ns c.env.locals m → Live (Z ++ (wr ++ c.X)) h → (c.hid (Z ++ (wr ++ c.X)) m h).Ok B := fun {Z m h} hZ k n l =>
      ⟨O.a, n, List.mem_append.mpr (.inr (List.mem_append.mpr (.inr O.mem))), l, hB _ _ (subOf (m := m) hZ k) O.base, O.kind⟩
  have e₂ : s₂ = { s with heap := s₂.heap, toks := s₂.toks } := K₂.rest
  refine codeAny_forLoop_any (fun n s' => ∃ h' tk m' i Z, s' = { s with heap := h', toks := tk } ∧ St i h' ∧ h'.Ns c.env.locals m' ∧ Live c.X h' ∧ Live Z h' ∧ (∀ b ∈ Z, s₂.heap.get? b = none) ∧ (∀ b o, s₂.heap.get? b = some o → ∃ o', h'.get? b = some o') ∧ KeepX W c.h h' ∧ KeepX (Z ++ (wr ++ c.X)) h₀ h' ∧ Inv (wr ++ c.X) Z i m' h' ∧ i ≤ xs.length ∧ n = xs.length + 1 - i) ?_ (xs.length + 1)
    ⟨s₂.heap, s₂.toks, c.m, 0, [], e₂, hst, O.ns.keeps hkc, O.live.keep hkc, (fun _ h => nomatch h), (fun _ h => nomatch h), (fun b o e => ⟨o, e⟩), Keep.toX hkc, Keep.toX hk₂, h0 wr _ hwrs (okOf (Z := []) (fun _ h => nomatch h) (Keep.toX hkc) (O.ns.keeps hkc) (liveOf (fun _ h => nomatch h) hst (O.live.keep hkc))) hkc, Nat.zero_le _, rfl⟩
  rintro n s' ⟨H, tk, m', i, Z, rfl, hst', hn', hlv', hlz', hZ', hdom', hk', hk0', hI, hi, rfl⟩
  have hok' := okOf hZ' (hk'.mono hWX) hn' (liveOf hlz' hst' hlv')
  cases hx : xs[i]? with
  | none =>
    have hlen : i = xs.length := Nat.le_antisymm hi (by simpa using hx)
    subst hlen
    refine F.done _ _ _ hst' fun h₁ tk₁ hk₁ => ?_
    have hn₁ : h₁.Ns c.env.locals m' := hn'.at' fun o e => hk₁ _ o hLw e
    refine done wr Z m' H h₁ tk₁ _ hwrs (Zc hZ') hI hk₁ hok' hn₁ fun b o hb e => hk₁ b o (fun q => ?_) (hk' b o hb e)
    have := hwrs b q; rw [e] at this; cases this
  | some x =>
    have hlt : i < xs.length := (List.getElem?_eq_some_iff.mp hx).1
    refine wpAny_mono (F.turn c.env i x { s with heap := H, toks := tk } m' (fun s₃ => wpAny c.M c.A (execs body c.env) (fun f s₃ => match f with
        | .next | .cont => ∃ k, k < xs.length + 1 - i ∧ ∃ h' tk m' j Z, s₃ = { s with heap := h', toks := tk } ∧ St j h' ∧ h'.Ns c.env.locals m' ∧ Live c.X h' ∧ Live Z h' ∧ (∀ b ∈ Z, s₂.heap.get? b = none) ∧ (∀ b o, s₂.heap.get? b = some o → ∃ o', h'.get? b = some o') ∧ KeepX W c.h h' ∧ KeepX (Z ++ (wr ++ c.X)) h₀ h' ∧ Inv (wr ++ c.X) Z j m' h' ∧ j ≤ xs.length ∧ k = xs.length + 1 - j
        | .brk => (match (Except.ok Flow.next : Result) with | .ok f => Q f s₃ | .error e => cameBackBy c.M c.A c.env E e s₃)
        | .ret v => (match (Except.ok (Flow.ret v) : Result) with | .ok f => Q f s₃ | .error e => cameBackBy c.M c.A c.env E e s₃)) (notedBy c.M c.A c.env fun e s' => cameBackBy c.M c.A c.env E e s') s₃) (notedBy c.M c.A c.env fun e s' => cameBackBy c.M c.A c.env E e s') hl hLf hx hst' hn' ?_) (fun r s₁ h₁ => ?_) fun _ _ e => e
    · intro h₂ tk₂ vs hst₂ hn₂ hG hlen hk₂
      have hk2c : KeepX W c.h h₂ := fun b o hb e => by
        have hbw : b ∉ wr := fun q => by have := hwrs b q; rw [e] at this; cases this
        exact hk₂ b o hbw (fun q => hb (q ▸ hWL)) (hk' b o hb e)
      have hdomL : ∀ b, (∃ o, H.get? b = some o) → ∃ o, h₂.get? b = some o := fun b hb => by
        by_cases q : b = c.env.locals
        · subst q; obtain ⟨o, _, _, e, _⟩ := hn₂; exact ⟨o, e⟩
        · by_cases q' : b ∈ wr
          · exact F.live _ _ hst₂ b q'
          · obtain ⟨o, e⟩ := hb; exact ⟨o, hk₂ b o q' q e⟩
      have hlv₂ : Live c.X h₂ := fun b hb => hdomL b (hlv' b hb)
      have hlz₂ : Live Z h₂ := fun b hb => hdomL b (hlz' b hb)
      have hdom₂ : ∀ b o, s₂.heap.get? b = some o → ∃ o', h₂.get? b = some o' := fun b o e => hdomL b (hdom' b o e)
      have hkW0 : KeepX (Z ++ (wr ++ c.X)) h₀ h₂ := fun b o hb e => hk₂ b o (fun q => hb (List.mem_append.mpr (.inr (List.mem_append.mpr (.inl q))))) (fun q => hb (List.mem_append.mpr (.inr (List.mem_append.mpr (.inr (q ▸ O.mem)))))) (hk0' b o hb e)
      have hG' : RdL (Z ++ (wr ++ c.X)) h₂ vs (enc x) := by
        obtain ⟨as, q⟩ := hG
        refine ⟨as, ReadsAll.keeps (sub_new (fun b hb => ?_) hkW0) q⟩
        rcases List.mem_append.mp hb with hb | hb
        · refine .inr ?_
          cases q : h₀.get? b with
          | none => rfl
          | some o => have := hZ' b hb; rw [hkS b o q] at this; cases this
        · rcases List.mem_append.mp hb with hb | hb
          · exact .inr (hwr b hb)
          · exact .inl hb
      refine turn wr Z i x m' H _ h₂ vs tk₂ _ _ hwrs (Zc hZ') hx hI rfl hlen (fun b o hb hbL e => hk₂ b o hb hbL e) hG' (okOf hZ' (hk2c.mono hWX) hn₂ (liveOf hlz₂ hst₂ hlv₂)) hk2c ?_
      intro Z₃ m₃ h₃ tk₃ hZ₃ hk₃ hok₃ hI₃
      have hZ3' : ∀ b ∈ Z₃, s₂.heap.get? b = none := fun b hb => by
        rcases hZ₃ b hb with q | q
        · exact hZ' b q
        · cases q2 : s₂.heap.get? b with
          | none => rfl
          | some o => obtain ⟨o', e⟩ := hdom₂ b o q2; rw [q] at e; cases e
      have notZ : ∀ b, (∃ o, s₂.heap.get? b = some o) → b ∉ Z := fun b ⟨o, e⟩ q => by rw [hZ' b q] at e; cases e
      have lvX : Live (Z₃ ++ (wr ++ c.X)) h₃ := hok₃.live
      refine ⟨xs.length + 1 - (i + 1), by omega, h₃, tk₃, m₃, i + 1, Z₃, rfl, F.frame _ _ _ hst₂ fun b hb o e => hk₃ b o (fun q => ?_) e, hok₃.ns, fun b hb => lvX b (List.mem_append.mpr (.inr (List.mem_append.mpr (.inr hb)))), fun b hb => lvX b (List.mem_append.mpr (.inl hb)), hZ3', fun b o e => ?_, fun b o hb e => hk₃ b o (fun q => ?_) (hk2c b o hb e), fun b o hb e => ?_, hI₃, hlt, rfl⟩
      · rcases List.mem_append.mp q with q | q
        · exact notZ b (hfp b hb).1 q
        · exact (hfp b hb).2 (hWX b q)
      · obtain ⟨o', e'⟩ := hdom₂ b o e
        by_cases q : b ∈ Z ++ W
        · rcases List.mem_append.mp q with q | q
          · exact absurd q (notZ b ⟨o, e⟩)
          · exact lvX b (List.mem_append.mpr (.inr (List.mem_append.mpr (.inr (hWX b q)))))
        · exact ⟨o', hk₃ b o' q e'⟩
      · rcases List.mem_append.mp q with q | q
        · exact notZ b ⟨o, hkc b o e⟩ q
        · exact hb q
      · have hbX : b ∉ wr ++ c.X := fun q => hb (List.mem_append.mpr (.inr q))
        have hbZ : b ∉ Z := notZ b ⟨o, hkS b o e⟩
        refine hk₃ b o (fun q => ?_) (hkW0 b o (fun q => ?_) e)
        · rcases List.mem_append.mp q with q | q
          · exact hbZ q
          · exact hbX (List.mem_append.mpr (.inr (hWX b q)))
        · rcases List.mem_append.mp q with q | q
          · exact hbZ q
          · exact hbX q
    · cases r with
      | none => exact h₁.elim
      | some v => exact h₁
end
end Mine
end

section
open PySem PySem.W PyProof.Rows PySem.SeqAt
set_option Elab.async false
set_option maxRecDepth 100000
set_option linter.unusedVariables false
namespace Mine

/-- what a class of the text needs for stores and reads of its objects -/
structure ClsOk (K : Frag) (C : Addr) : Prop where
  set : findIn K (.ref C) "__setattr__" = some (some (.builtin "object.__setattr__"))
  get : findIn K (.ref C) "__getattribute__" = some (some (.builtin "object.__getattribute__"))
  hook : findIn K (.ref C) "__getattr__" = some none
  over : plainOver K C = true
  dict : hasDictIn K C = true

theorem set_attr {prog : Program} {w : World} {A : Around} {E : Value → Shared → Prop} {s : Shared} {K : Frag} {x C dx : Addr} {es : List DictEntry} {n : Nat} {name : Str} {v : Value} {Q : Unit → Shared → Prop} (X : K.In s.heap) (L : ClsOk K C) (hx : s.heap.get? x = some (instObj C dx)) (D : s.heap.get? dx = some (dictOf es n))
    (ht : takerIn K C name = some none) (hr : es.any (·.refKey) = false) (hz : (putL name (PyData.keyHash w.params name) (.str name (s.toks + 1)) v es).length ≤ 1000)
    (h : ∀ h', h'.get? dx = some (dictOf (putL name (PyData.keyHash w.params name) (.str name (s.toks + 1)) v es) (putN name es n)) → Heap.SameBut dx s.heap h' → Q () { s with heap := h', toks := s.toks + 2 }) :
    wpAny (model prog w) A (setAttr (.ref x) name v) Q E s := by
  have I : InstAt s.heap x (instObj C dx) C (some (dictOf es n)) := ⟨hx, rfl, rfl, D⟩
  refine set_plain X I L.set (osa_open (s := { s with toks := s.toks + 1 }) X I L.over ht fun b => ?_)
  obtain ⟨cd, hc, hd'⟩ := any_some L.dict
  have e : Obj.putName name (PyData.keyHash w.params name) (.str name (s.toks + 1)) v (dictOf es n) = dictOf (putL name (PyData.keyHash w.params name) (.str name (s.toks + 1)) v es) (putN name es n) := putName_dict ..
  have D' : (s.heap.update dx (Obj.putName name (PyData.keyHash w.params name) (.str name (s.toks + 1)) v)).get? dx = some (dictOf (putL name (PyData.keyHash w.params name) (.str name (s.toks + 1)) v es) (putN name es n)) := e ▸ Heap.get?_update_self _ D (by rw [e]; rfl)
  refine wpAny_bind (wpAny_pure (wpAny_bind (wpAny_bind (wpAny_loadPart hx (wpAny_bind (looks_clsIn X hc _ _ _ _ (fun _ _ e => e) ?_))))))
  rw [hd']
  refine wpAny_pure (a := some dx) (wpAny_bind (wpAny_pure (wpAny_bind ?_)))
  unfold nsSet
  refine wpAny_bind (wpAny_bind (wpAny_askSetting (wpAny_pure (wpAny_bind (wpAny_mkText (wpAny_bind (wpAny_loadPart D ?_)))))))
  dsimp only
  rw [aRefKeyMayBeTheName_at, show (es.toArray.any (·.refKey)) = false from by rw [← Array.any_toList]; exact hr, Bool.and_false]
  refine wpAny_updatePart D ?_
  refine wpAny_bind (wpAny_lookBehind D' (pastItsLine_dict (by rw [List.size_toArray, sizeLine_eq]; omega)) ?_)
  exact wpAny_pure (h _ D' (Heap.SameBut.update ..))

section
variable {c : Cx} {B : Heap → Prop} {K : Frag} {mg mb : Str → Option Value} {F : Flow → Heap → Prop} {rest : List Stmt}

theorem kin (O : c.Ok (Bs K mg mb)) {h : Heap} (k : Keep c.h h) : K.In h := fun a o e => k _ _ (of_hideAll _ (O.base.k _ _ e))

/-- a store into an attribute of an owned object -/
theorem go_setattr {o value : Expr} {name : Str} {p1 p2 : Pos} {x C dx : Addr} {es : List DictEntry} {n : Nat} {P : Heap → Value → Prop} (O : c.Ok (Bs K mg mb)) (L : ClsOk K C) (he : EvP c value P) (hP : Stable c P) (ho : EvP c o (fun _ v => v = .ref x)) (hx : c.h.get? x = some (instObj C dx)) (D : c.h.get? dx = some (dictOf es n)) (hdX : dx ∈ c.X) (hdL : dx ≠ c.env.locals)
    (ht : takerIn K C name = some none) (hr : es.any (·.refKey) = false) (hz : ∀ a b v, (putL name a b v es).length ≤ 1000) (hs : swapsWith value (some (.Attribute o name p1)) p2.line c.env = pure false)
    (h : ∀ v h' hsh tk, P h' v → h'.get? dx = some (dictOf (putL name hsh (.str name tk) v es) (putN name es n)) → (c.at c.m h').Ok (Bs K mg mb) → Stp c (c.at c.m h') [dx] → Go (c.at c.m h') rest F) :
    Go c (.Assign [.Attribute o name p1] value p2 :: rest) F :=
  ⟨fun s Q E hc hQ => wpAny_execs_cons (plainObj_wpAny_Assign_Attribute (he s _ _ (fun b o e => by rw [hc]; exact e) fun v s₁ k₁ r₁ => by
    have kc₁ : Keep c.h s₁.heap := hc ▸ k₁.keep
    refine ho s₁ _ _ kc₁ fun ov s₂ k₂ r₂ => ?_
    subst r₂
    have kc₂ : Keep c.h s₂.heap := fun b o e => k₂.keep b o (kc₁ b o e)
    refine set_attr (kin O kc₂) L (kc₂ _ _ hx) (kc₂ _ _ D) ht hr (hz _ _ _) fun h' D' hsb => ?_
    have hk2 : ∀ b o, b ≠ dx → c.h.get? b = some o → h'.get? b = some o := fun b o hb e => hsb.extBut b o hb (kc₂ b o e)
    have hsub : c.Sub (c.at c.m h') := hid_keepX fun b o hb e => hk2 b o (fun q => hb (q ▸ hdX)) e
    have hlv : Live c.X h' := fun b hb => by
      by_cases q : b = dx
      · subst q; exact ⟨_, D'⟩
      · obtain ⟨o, e⟩ := O.live b hb; exact ⟨o, hk2 b o q e⟩
    have g := h v h' _ _ (hP _ _ _ ((Keep.toX k₂.keep).trans (KeepX.ofSameBut hsb hdX)) r₁) D' (O.move bs_mono hsub ((O.ns.keeps kc₂).sameBut hsb (Ne.symm hdL)) O.mem hlv) ⟨hsub, fun b o hb e => hk2 b o (fun q => hb (q ▸ .head _)) e⟩
    have K := k₁.trans k₂
    have e : ({ s₂ with heap := h', toks := s₂.toks + 2 } : Shared) = { s with heap := h', toks := s₂.toks + 2 } := by rw [K.rest]
    show wpAny _ _ _ _ _ { s₂ with heap := h', toks := s₂.toks + 2 }
    rw [e]
    exact g.run _ _ _ rfl fun f h2 tk2 hF => hQ f h2 tk2 hF) hs)⟩

/-- an attribute of an object, read -/
theorem evp_attr {y name : Str} {py pos : Pos} {x C dx : Addr} {es : List DictEntry} {n : Nat} {v : Value} {at_ : Option Value} {P : Heap → Value → Prop} (O : c.Ok (Bs K mg mb)) (L : ClsOk K C) (ho : EvP c (.Name y py) (fun _ v => v = .ref x)) (hx : c.h.get? x = some (instObj C dx)) (D : c.h.get? dx = some (dictOf es n))
    (ha : findIn K (.ref C) name = some at_) (hn : noGet K at_ = true) (hl : getL name es = some (some v)) (hh : handedIn v = true) (hp : ∀ h', Keep c.h h' → P h' v) : EvP c (.Attribute (.Name y py) name pos) P := fun s Q E k h =>
  Attribute_name (ho s _ _ k fun ov s₁ k₁ r₁ => by
    subst r₁
    have kc : Keep c.h s₁.heap := fun b o e => k₁.keep b o (k b o e)
    exact get_value (kin O kc) ⟨kc _ _ hx, rfl, rfl, kc _ _ D⟩ L.get (findObj_own (od := dictOf es n) L.dict ha hn hl) hh (h _ _ (k₁.trans (.toks s₁ _)) (hp _ kc)))
theorem ev_attr {y name : Str} {py pos : Pos} {x C dx : Addr} {es : List DictEntry} {n : Nat} {v : Value} {d : PyData} {at_ : Option Value} (O : c.Ok (Bs K mg mb)) (L : ClsOk K C) (ho : EvP c (.Name y py) (fun _ v => v = .ref x)) (hx : c.h.get? x = some (instObj C dx)) (D : c.h.get? dx = some (dictOf es n))
    (ha : findIn K (.ref C) name = some at_) (hn : noGet K at_ = true) (hl : getL name es = some (some v)) (hh : handedIn v = true) (r : Rd c.X c.h v d) : Ev c (.Attribute (.Name y py) name pos) d :=
  evp_attr (P := fun h v => Rd c.X h v d) O L ho hx D ha hn hl hh fun h' k => r.keep k

/-- a string of a class, read -/
def clsStr (K : Frag) (C : Addr) (mc : Value) (name : Str) : Option Str := match findCls K (.ref C) mc name with
  | some (.val (.str x _)) => some x
  | _ => none
theorem ev_cls {y name : Str} {py pos : Pos} {C : Addr} {x : Str} (O : c.Ok (Bs K mg mb)) (ho : EvP c (.Name y py) (fun _ v => v = .ref C)) (mc : Value) (hr : readsIn K C mc = true) (e : clsStr K C mc name = some x) : Ev c (.Attribute (.Name y py) name pos) (.str x) := fun s Q E k h =>
  Attribute_name (ho s _ _ k fun ov s₁ k₁ r₁ => by
    subst r₁
    have kc : Keep c.h s₁.heap := fun b o e => k₁.keep b o (k b o e)
    unfold clsStr at e
    split at e
    · rename_i y t q
      cases e
      exact cls_value (kin O kc) hr q rfl (h _ _ (k₁.trans (.toks s₁ _)) (.str _ _))
    · cases e)
end
end Mine
end

section
open PySem PySem.W PyProof.Rows PySem.SeqAt
set_option Elab.async false
set_option maxRecDepth 100000
set_option linter.unusedVariables false
namespace Mine

theorem rdl_int_any {X Y : List Addr} {h h' : Heap} {vs : List Value} {ns : List Int} (r : RdL X h vs (ns.map PyData.int)) : RdL Y h' vs (ns.map PyData.int) := by
  induction ns generalizing vs with
  | nil => rw [r.inv_nil]; exact .nil
  | cons n ns ih =>
    obtain ⟨v, vs', rfl, r1, r2⟩ := r.inv_cons
    obtain ⟨t, rfl⟩ := r1.inv_int
    exact .cons (.int _ _) (ih r2)
theorem rdl_int_set {X : List Addr} {h : Heap} {vs : List Value} {ns : List Int} (r : RdL X h vs (ns.map PyData.int)) (k : Nat) (j : Int) (t : Tok) : RdL X h (vs.set k (.int j t)) ((ns.set k j).map PyData.int) := by
  induction ns generalizing vs k with
  | nil => rw [r.inv_nil]; exact .nil
  | cons n ns ih =>
    obtain ⟨v, vs', rfl, r1, r2⟩ := r.inv_cons
    cases k with
    | zero => exact .cons (.int _ _) r2
    | succ k => exact .cons r1 (ih r2 k)

section
variable {c : Cx} {B : Heap → Prop} {F : Flow → Heap → Prop} {rest : List Stmt}

/-- an expression read with fewer hidden cells, where the value is plain -/
theorem ev_int_of {X' : List Addr} {m' : Str → Option Value} {e : Expr} {i : Int} (h : Ev (c.hid X' c.m c.h) e (.int i)) : Ev c e (.int i) := fun s Q E k hq => h s Q E k fun v s' k' r => by
  obtain ⟨t, rfl⟩ := r.inv_int; exact hq _ _ k' (.int _ _)
theorem evp_of {X' : List Addr} {e : Expr} {P : Heap → Value → Prop} (h : EvP (c.hid X' c.m c.h) e P) : EvP c e P := h
theorem tst_of {X' : List Addr} {e : Expr} {b : Bool} (h : Tst (c.hid X' c.m c.h) e b) : Tst c e b := h

/-- a new cell is hidden -/
theorem Cx.Ok.hideNew {c : Cx} {m' : Str → Option Value} {h' : Heap} {a : Addr} {o : Obj} (O : c.Ok B) (hB : BMono B) (O' : (c.at m' h').Ok B) (hk : KeepX c.X c.h h') (ha : c.h.get? a = none) (ho : h'.get? a = some o) : (c.hid (a :: c.X) m' h').Ok B := by
  have hsub : c.Sub (c.hid (a :: c.X) m' h') := sub_new_of (fun b hb => by
      rcases List.mem_cons.mp hb with rfl | hb
      · exact .inr ha
      · exact .inl hb) fun b o hb e => hk b o (fun q => hb (.tail _ q)) e
  exact O.move hB hsub O'.ns (.tail _ O.mem) (Live.cons O'.live ho)

/-- two lists of ints put together: a new list -/
theorem evp_ladd_new {l r : Expr} {pos : Pos} {X' : List Addr} {ns ms : List Int} (O' : (c.hid X' c.m c.h).Ok B) (O : c.Ok B) (h1 : Ev (c.hid X' c.m c.h) l (.list (ns.map PyData.int))) (h2 : Ev (c.hid X' c.m c.h) r (.list (ms.map PyData.int))) (hsz : ns.length + ms.length ≤ sizeLine) :
    EvP c (.BinOp l .Add r pos) (fun h v => ∃ a items, v = .ref a ∧ c.h.get? a = none ∧ h.IsList a items ∧ RdL c.X h items.toList ((ns ++ ms).map PyData.int)) := fun s Q E k h =>
  wpAny_BinOp (h1 s _ _ k fun v1 s1 k1 r1 => h2 s1 _ _ (fun b o e => k1.keep b o (k b o e)) fun v2 s2 k2 r2 => by
    replace r1 := r1.keep k2.keep
    obtain ⟨l, items, rfl, hl, hr⟩ := r1.inv_list
    obtain ⟨b, items2, rfl, hb, hr2⟩ := r2.inv_list
    have e1 : items.size = ns.length := by have := hr.length; simpa using this
    have e2 : items2.size = ms.length := by have := hr2.length; simpa using this
    obtain ⟨⟨cls, dd, data, sl⟩, ho, hc, n, hd⟩ := (of_hid_list hl).2
    obtain ⟨⟨cls2, dd2, data2, sl2⟩, ho2, hc2, n2, hd2⟩ := (of_hid_list hb).2
    simp only at hc hd hc2 hd2
    subst hc hd hc2 hd2
    refine concat_meets ⟨_, ho, rfl⟩ ⟨_, ho2, rfl⟩ noFill_list_add seq_list_add PySem.F.slot_list_add PySem.F.entry_list_add (PySem.F.args_list_add_2 _ _) (list_addW l b items items2 n n2 dd dd2 sl sl2 (by rw [e1, e2]; exact hsz)) ⟨ho, ho2, ?_⟩
    refine h _ _ ((k1.trans k2).trans (.push s2 _)) ⟨_, items ++ items2, rfl, ?_, ⟨_, Heap.get?_push_size _ rfl, rfl, _, rfl⟩, ?_⟩
    · have hsn : s2.heap.get? s2.heap.objs.size = none := Heap.get?_none_of_le (Nat.le_refl _)
      cases q : c.h.get? s2.heap.objs.size with
      | none => rfl
      | some o => have := k2.keep _ _ (k1.keep _ _ (k _ o q)); rw [hsn] at this; cases this
    · have := (rdl_int_any (Y := c.X) (h' := s2.heap.push { cls := .type "list", data := .seq (items ++ items2) }) hr).append (rdl_int_any hr2)
      rw [List.map_append]; simpa using this)
theorem stable_new (O : c.Ok B) {ns : List Int} : Stable c (fun h v => ∃ a items, v = .ref a ∧ c.h.get? a = none ∧ h.IsList a items ∧ RdL c.X h items.toList (ns.map PyData.int)) := fun h h' v k ⟨a, items, e, hn, ⟨o, ho, q⟩, r⟩ =>
  ⟨a, items, e, hn, ⟨o, k a o (O.live.new hn) ho, q⟩, r.keepX k⟩

/-- one value under three names -/
theorem go_three {y1 y2 y3 : Str} {p1 p2 p3 spos : Pos} {e : Expr} {d : PyData} (O : c.Ok B) (hB : BMono B) (he : Ev c e d) (h1 : c.env.kindOf y1 = some .local) (h2 : c.env.kindOf y2 = some .local) (h3 : c.env.kindOf y3 = some .local)
    (hw : swappedStores [.Name y1 p1, .Name y2 p2, .Name y3 p3] e c.env = pure none)
    (h : ∀ v m1 m2 m' h', Up c.m m1 y1 v → Up m1 m2 y2 v → Up m2 m' y3 v → (c.at m' h').Ok B → Stp c (c.at m' h') [c.env.locals] → Rd c.X h' v d → Go (c.at m' h') rest F) :
    Go c (.Assign [.Name y1 p1, .Name y2 p2, .Name y3 p3] e spos :: rest) F :=
  ⟨fun s Q E hc hQ => wpAny_execs_cons (wpAny_Assign_three (he s _ _ (fun b o e => by rw [hc]; exact e) fun v s₁ k₁ r₁ => by
    have kc : Keep c.h s₁.heap := hc ▸ k₁.keep
    have hkd : (c.env.scope.kind == .class || (c.env.scope.kind == .module && c.env.locals != c.env.globals)) = false := by rw [O.kind]; rfl
    refine assign_Name (wpAny_storeName_local h1 (O.ns.keeps kc) (fun ha hna hsa => ?_) hkd)
    refine assign_Name (wpAny_storeName_local h2 hna (fun hb hnb hsb => ?_) hkd)
    refine assign_Name (wpAny_storeName_local h3 hnb (fun hd hnd hsd => ?_) hkd)
    have hs := (hsa.trans hsb).trans hsd
    have hk2 : ∀ b o, b ≠ c.env.locals → c.h.get? b = some o → hd.get? b = some o := fun b o hb e => hs.extBut b o hb (kc b o e)
    have g := h v _ _ _ hd (up_upd c.m y1 v) (up_upd _ y2 v) (up_upd _ y3 v) (O.step hB hk2 hnd) ⟨hid_keepX (step_keep O hk2), fun b o hb e => hk2 b o (fun q => hb (q ▸ .head _)) e⟩ (r₁.keepX (KeepX.ofSameBut hs O.mem))
    show wpAny _ _ _ _ _ { s₁ with heap := hd, toks := s₁.toks + 1 + 1 + 1 }
    rw [show ({ s₁ with heap := hd, toks := s₁.toks + 1 + 1 + 1 } : Shared) = { s with heap := hd, toks := s₁.toks + 1 + 1 + 1 } by rw [k₁.rest]]
    exact g.run _ _ _ rfl fun f h2 tk2 hF => hQ f h2 tk2 hF) rfl hw)⟩

theorem swap_eq (env : Env) (y1 y2 : Str) (v1 v2 : Value) : assignInOrder (([y1, y2] : List Str).reverse.map fun n => bindName env n) ((#[v1, v2] : Array Value).toList.reverse) = (do holding [v1] (bindName env y2 v2); (do holding [] (bindName env y1 v1); pure ())) := rfl
/-- two values under two names, by a tuple that is never made to stay -/
theorem go_swap2 {y1 y2 : Str} {p1 p2 tp spos vp : Pos} {kt kv : Nat} {e1 e2 : Expr} {d1 d2 : PyData} (O : c.Ok B) (hB : BMono B) (he1 : Ev c e1 d1) (he2 : Ev c e2 d2) (h1 : c.env.kindOf y1 = some .local) (h2 : c.env.kindOf y2 = some .local)
    (hs1 : starEach [e1, e2] c.env = (false, eval e1 c.env) :: starEach [e2] c.env) (hs2 : starEach [e2] c.env = (false, eval e2 c.env) :: starEach [] c.env)
    (hw : swappedStores [.Tuple [.Name y1 p1, .Name y2 p2] kt tp] (.Tuple [e1, e2] kv vp) c.env = pure (some [y1, y2]))
    (h : ∀ v1 v2 m1 m' h', Up c.m m1 y2 v2 → Up m1 m' y1 v1 → (c.at m' h').Ok B → Stp c (c.at m' h') [c.env.locals] → Rd c.X h' v1 d1 → Rd c.X h' v2 d2 → Go (c.at m' h') rest F) :
    Go c (.Assign [.Tuple [.Name y1 p1, .Name y2 p2] kt tp] (.Tuple [e1, e2] kv vp) spos :: rest) F :=
  ⟨fun s Q E hc hQ => wpAny_execs_cons (Assign_Tuple_swapped (names := [y1, y2]) (ev_tuple O (evl_cons he1 (evl_cons he2 evl_nil hs2) hs1) (show 2 ≤ sizeLine by decide) s _ _ (fun b o e => by rw [hc]; exact e) fun v s₁ k₁ r₁ => by
    have kc : Keep c.h s₁.heap := hc ▸ k₁.keep
    have hkd : (c.env.scope.kind == .class || (c.env.scope.kind == .module && c.env.locals != c.env.globals)) = false := by rw [O.kind]; rfl
    obtain ⟨t, items, rfl, ht, hr⟩ := r₁.inv_tuple
    obtain ⟨v1, vs, e1, r1, hr'⟩ := hr.inv_cons
    obtain ⟨v2, vs, rfl, r2, hr''⟩ := hr'.inv_cons
    obtain rfl := hr''.inv_nil
    have hi : items = #[v1, v2] := by rw [← Array.toArray_toList (xs := items), e1]
    subst hi
    rw [show ([y1, y2] : List Str).length = (#[v1, v2] : Array Value).size from rfl]
    refine wpAny_unpackItems_tuple (items := #[v1, v2]) O.a.handled (of_hid_tuple ht).2 fun ha hea => ?_
    have hka : Keep c.h ha := fun b o e => hea b o (fun q => by have := Heap.lt_size (kc b o e); rw [q] at this; exact Nat.lt_irrefl _ this) (kc b o e)
    have hka' : Keep s₁.heap ha := fun b o e => hea b o (fun q => by have := Heap.lt_size e; rw [q] at this; exact Nat.lt_irrefl _ this) e
    rw [swap_eq]
    refine wpAny_bind (wpAny_holding (wpAny_bindName (wpAny_storeName_local h2 (O.ns.keeps hka) (fun hb hnb hsb => ?_) hkd)))
    refine wpAny_bind (wpAny_holding (wpAny_bindName (wpAny_storeName_local h1 hnb (fun hd hnd hsd => wpAny_pure ?_) hkd)))
    have hs := hsb.trans hsd
    have hk2 : ∀ b o, b ≠ c.env.locals → c.h.get? b = some o → hd.get? b = some o := fun b o hb e => hs.extBut b o hb (hka b o e)
    have kx : KeepX c.X s₁.heap hd := (Keep.toX hka').trans (KeepX.ofSameBut hs O.mem)
    have g := h v1 v2 _ _ hd (up_upd c.m y2 v2) (up_upd _ y1 v1) (O.step hB hk2 hnd) ⟨hid_keepX (step_keep O hk2), fun b o hb e => hk2 b o (fun q => hb (q ▸ .head _)) e⟩ (r1.keepX kx) (r2.keepX kx)
    show wpAny _ _ _ _ _ { s₁ with heap := hd, toks := s₁.toks + 1 + 1 }
    rw [show ({ s₁ with heap := hd, toks := s₁.toks + 1 + 1 } : Shared) = { s with heap := hd, toks := s₁.toks + 1 + 1 } by rw [k₁.rest]]
    exact g.run _ _ _ rfl fun f h2 tk2 hF => hQ f h2 tk2 hF) rfl hw)⟩

/-- an item of an owned list is set -/
theorem go_setitem {o i e : Expr} {p1 p2 : Pos} {a : Addr} {items : Array Value} {k : Nat} {j : Int} (O : c.Ok B) (hB : BMono B) (he : Ev c e (.int j)) (ho : EvP c o (fun _ v => v = .ref a)) (hi : Ev c i (.int k)) (ha : c.h.IsList a items) (haX : a ∈ c.X) (haL : a ≠ c.env.locals) (hk : k < items.size) (hk2 : k ≤ sizeLine)
    (hs : swapsWith e (some (.Subscript o i p1)) p2.line c.env = pure false)
    (h : ∀ t h', h'.IsList a (items.setIfInBounds k (.int j t)) → (c.at c.m h').Ok B → Stp c (c.at c.m h') [a] → Go (c.at c.m h') rest F) : Go c (.Assign [.Subscript o i p1] e p2 :: rest) F :=
  ⟨fun s Q E hc hQ => wpAny_execs_cons (wpAny_Assign_Subscript (he s _ _ (fun b o e => by rw [hc]; exact e) fun v s₁ k₁ r₁ => by
    have kc₁ : Keep c.h s₁.heap := hc ▸ k₁.keep
    obtain ⟨t, rfl⟩ := r₁.inv_int
    refine ho s₁ _ _ kc₁ fun ov s₂ k₂ r₂ => ?_
    subst r₂
    have kc₂ : Keep c.h s₂.heap := fun b o e => k₂.keep b o (kc₁ b o e)
    refine hi s₂ _ _ kc₂ fun iv s₃ k₃ r₃ => ?_
    obtain ⟨u, rfl⟩ := r₃.inv_int
    have kc₃ : Keep c.h s₃.heap := fun b o e => k₃.keep b o (kc₂ b o e)
    have ha₃ : s₃.heap.IsList a items := let ⟨o, q, r⟩ := ha; ⟨o, kc₃ _ _ q, r⟩
    rw [sizeLine_eq] at hk2
    refine wpAny_setItem_list ha₃ (by omega) (by omega) (by omega) fun h' hl' hsb => ?_
    rw [Int.toNat_natCast] at hl'
    have hk3 : ∀ b o, b ≠ a → c.h.get? b = some o → h'.get? b = some o := fun b o hb e => hsb.extBut b o hb (kc₃ b o e)
    have hsub : c.Sub (c.at c.m h') := hid_keepX fun b o hb e => hk3 b o (fun q => hb (q ▸ haX)) e
    have hlv : Live c.X h' := fun b hb => by
      by_cases q : b = a
      · subst q; obtain ⟨o, e, _⟩ := hl'; exact ⟨o, e⟩
      · obtain ⟨o, e⟩ := O.live b hb; exact ⟨o, hk3 b o q e⟩
    have g := h t h' hl' (O.move hB hsub ((O.ns.keeps kc₃).sameBut hsb (Ne.symm haL)) O.mem hlv) ⟨hsub, fun b o hb e => hk3 b o (fun q => hb (q ▸ .head _)) e⟩
    have K := (k₁.trans k₂).trans k₃
    show wpAny _ _ _ _ _ { s₃ with heap := h' }
    rw [show ({ s₃ with heap := h' } : Shared) = { s with heap := h', toks := s₃.toks } by rw [K.rest]]
    exact g.run _ _ _ rfl fun f h2 tk2 hF => hQ f h2 tk2 hF) hs)⟩

theorem go_forZ {target iter : Expr} {body orelse : List Stmt} {pos : Pos} {tn : List Str} {α : Type} {xs : List α} {enc : α → List PyData}
    (O : c.Ok B) (hB : BMono B) (hsrc : Src c iter target tn xs enc) (W : List Addr) (hWX : ∀ b ∈ W, b ∈ c.X) (hWL : c.env.locals ∈ W) (hl : localEnv c.env tn) (hfold : ∀ x, foldedSetIterable iter c.env x = pure x)
    (Inv : List Addr → List Addr → Nat → (Str → Option Value) → Heap → Prop)
    (h0 : ∀ wr h, (∀ b ∈ wr, c.h.get? b = none) → (c.hid (wr ++ c.X) c.m h).Ok B → Keep c.h h → Inv (wr ++ c.X) [] 0 c.m h)
    (turn : ∀ wr Z i x m h vs h₁, (∀ b ∈ wr, c.h.get? b = none) → (∀ b ∈ Z, c.h.get? b = none ∧ b ∉ wr) → xs[i]? = some x → Inv (wr ++ c.X) Z i m h → vs.length = tn.length →
      (∀ b o, b ∉ wr → b ≠ c.env.locals → h.get? b = some o → h₁.get? b = some o) → RdL (Z ++ (wr ++ c.X)) h₁ vs (enc x) → (c.hid (Z ++ (wr ++ c.X)) (bindTo m tn vs) h₁).Ok B → KeepX W c.h h₁ →
      Go (c.hid (Z ++ (wr ++ c.X)) (bindTo m tn vs) h₁) body (fun f h' => f = .next ∧ ∃ Z' m', (∀ b ∈ Z', b ∈ Z ∨ h₁.get? b = none) ∧ KeepX (Z ++ W) h₁ h' ∧ (c.hid (Z' ++ (wr ++ c.X)) m' h').Ok B ∧ Inv (wr ++ c.X) Z' (i + 1) m' h'))
    (done : ∀ wr Z m h h', (∀ b ∈ wr, c.h.get? b = none) → (∀ b ∈ Z, c.h.get? b = none ∧ b ∉ wr) → Inv (wr ++ c.X) Z xs.length m h → (∀ b o, b ∉ wr → h.get? b = some o → h'.get? b = some o) → (c.hid (Z ++ (wr ++ c.X)) m h).Ok B → h'.Ns c.env.locals m → KeepX W c.h h' →
      Go (c.hid c.X m h') orelse (Then c rest F)) :
    Go c (.For target iter body orelse pos :: rest) F :=
  ⟨fun s Q E hc hQ => wpAny_execs_cons (st_forZ O hB hc.symm hsrc W hWX hWL hl hfold Inv h0
    (fun wr Z i x m h m₁ h₁ vs tk QQ EE hw hz hx hI hm hvl hk hr O' hkW hn => by
      subst hm
      refine (turn wr Z i x m h vs h₁ hw hz hx hI hvl hk hr O' hkW).run { s with heap := h₁, toks := tk } QQ EE rfl fun f h' tk' hF => ?_
      obtain ⟨rfl, Z', m', a1, a2, a3, a4⟩ := hF
      exact hn Z' m' h' tk' a1 a2 a3 a4)
    (fun wr Z m h h' tk EE hw hz hI hk O' hn hkW => by
      refine (done wr Z m h h' hw hz hI hk O' hn hkW).run { s with heap := h', toks := tk } _ EE rfl fun f h2 tk2 hF => ?_
      rcases hF with ⟨rfl, X, m2, g2⟩ | ⟨hne, hF⟩
      · exact g2.run { s with heap := h2, toks := tk2 } Q E rfl fun f h3 tk3 hF => hQ f h3 tk3 hF
      · cases f with
        | next => exact absurd rfl hne
        | brk => exact hQ _ _ _ hF
        | cont => exact hQ _ _ _ hF
        | ret v => exact hQ _ _ _ hF))⟩
end
end Mine
end

section
open PySem PySem.W PyProof.Rows PySem.SeqAt
set_option Elab.async false
set_option maxRecDepth 100000
set_option linter.unusedVariables false
namespace Mine

def initBody : List Stmt := defBody (nthS (bodyAt 9) 1)
def equalBody : List Stmt := defBody (nthS (bodyAt 9) 4)
def forBody : Stmt → List Stmt
  | .For _ _ b _ _ => b
  | _ => []
def ifThen : Stmt → List Stmt
  | .If _ b _ _ => b
  | _ => []
def ifElse : Stmt → List Stmt
  | .If _ _ b _ => b
  | _ => []
def tabRest : List Stmt := (ifThen (nthS (ifElse (nthS (forBody (nthS initBody 4)) 0)) 0)).drop 3

structure WS where
  n : Nat
  b : Nat
  nt : Nat
  cnt : List Int
def wsGrow (w : WS) : List Int := if w.cnt.length ≤ w.b then w.cnt ++ List.replicate (w.b - w.cnt.length + 1) 0 else w.cnt
def wsStep (w : WS) (ch : Nat) : WS :=
  if ch = 32 then ⟨w.n + 1, w.b + 1, w.nt, w.cnt⟩
  else ⟨w.n + 1, 0, w.nt + 1, (wsGrow w).set w.b ((wsGrow w).getD w.b 0 + 1)⟩
def wsAt (cs : List Nat) (i : Nat) : WS := (cs.take i).foldl wsStep ⟨0, 0, 0, []⟩
theorem wsAt_succ {cs : List Nat} {i x : Nat} (h : cs[i]? = some x) : wsAt cs (i + 1) = wsStep (wsAt cs i) x := by
  unfold wsAt
  rw [List.take_add_one, h]
  simp
theorem wsGrow_len (w : WS) : w.b < (wsGrow w).length ∧ (wsGrow w).length ≤ max w.cnt.length (w.b + 1) := by
  unfold wsGrow
  split
  · rw [List.length_append, List.length_replicate]; omega
  · omega
theorem wsAt_le (cs : List Nat) : ∀ i, (wsAt cs i).n ≤ i ∧ (wsAt cs i).b ≤ i ∧ (wsAt cs i).nt ≤ i ∧ (wsAt cs i).cnt.length ≤ i
  | 0 => by simp [wsAt]
  | i + 1 => by
    obtain ⟨h1, h2, h3, h4⟩ := wsAt_le cs i
    cases h : cs[i]? with
    | none =>
      have e : wsAt cs (i + 1) = wsAt cs i := by unfold wsAt; rw [List.take_add_one, h]; simp
      rw [e]; omega
    | some x =>
      rw [wsAt_succ h]
      unfold wsStep
      have := wsGrow_len (wsAt cs i)
      split
      · simp only; omega
      · simp only [List.length_set]; omega

section
variable {P : Params}
theorem fok53 : FnOk (KK P) 53 initBody [Str.ofString "self", Str.ofString "ws"] := ⟨by kernel_rfl, by kernel_rfl, by kernel_rfl, by kernel_rfl, by kernel_rfl, by kernel_rfl, by kernel_rfl, by kernel_rfl⟩
theorem fok74 : FnOk (KK P) 74 equalBody [Str.ofString "self", Str.ofString "other"] := ⟨by kernel_rfl, by kernel_rfl, by kernel_rfl, by kernel_rfl, by kernel_rfl, by kernel_rfl, by kernel_rfl, by kernel_rfl⟩
theorem cls98 : ClsOk (KK P) 98 := ⟨by kernel_rfl, by kernel_rfl, by kernel_rfl, by kernel_rfl, by kernel_rfl⟩
theorem makes98 : makesIn (KK P) 98 = true := by kernel_rfl
theorem init98 : findIn (KK P) (.ref 98) "__init__" = some (some (.ref 53)) := by kernel_rfl
theorem typ53 : typeIn (KK P) (.ref 53) = some (.type "function") := by kernel_rfl
theorem reads98 : readsIn (KK P) 98 (.type "type") = true := by kernel_rfl
theorem cls98S : clsStr (KK P) 98 (.type "type") (Str.ofString "S") = some (Str.ofString " ") := by kernel_rfl
theorem cls98T : clsStr (KK P) 98 (.type "type") (Str.ofString "T") = some (Str.ofString "\t") := by kernel_rfl
theorem tk_raw : takerIn (KK P) 98 (Str.ofString "raw") = some none := by kernel_rfl
theorem tk_n : takerIn (KK P) 98 (Str.ofString "n") = some none := by kernel_rfl
theorem tk_nt : takerIn (KK P) 98 (Str.ofString "nt") = some none := by kernel_rfl
theorem tk_norm : takerIn (KK P) 98 (Str.ofString "norm") = some none := by kernel_rfl
theorem tk_sim : takerIn (KK P) 98 (Str.ofString "is_simple") = some none := by kernel_rfl
theorem fi_raw : findIn (KK P) (.ref 98) (Str.ofString "raw") = some none := by kernel_rfl
theorem fi_nt : findIn (KK P) (.ref 98) (Str.ofString "nt") = some none := by kernel_rfl
theorem fi_norm : findIn (KK P) (.ref 98) (Str.ofString "norm") = some none := by kernel_rfl
end
end Mine
end

section
open PySem PySem.W PyProof.Rows PySem.SeqAt
set_option Elab.async false
set_option maxRecDepth 100000
set_option linter.unusedVariables false
namespace Mine

theorem putL_len (name : Str) (a : Int) (b v : Value) : ∀ es : List DictEntry, (putL name a b v es).length ≤ es.length + 1
  | [] => by simp [putL]
  | e :: r => by
    unfold putL
    split
    · simp
    · have := putL_len name a b v r; simp; exact this
theorem putL_ref (name nm : Str) (a : Int) (t : Tok) (v : Value) : ∀ es : List DictEntry, es.any (·.refKey) = false → (putL name a (.str nm t) v es).any (·.refKey) = false
  | [], _ => by simp [putL, DictEntry.refKey]
  | e :: r, h => by
    simp only [List.any_cons, Bool.or_eq_false_iff] at h
    unfold putL
    split
    · simp only [List.any_cons, Bool.or_eq_false_iff]; exact ⟨by simpa [DictEntry.refKey] using h.1, h.2⟩
    · simp only [List.any_cons, Bool.or_eq_false_iff]; exact ⟨h.1, putL_ref name nm a t v r h.2⟩
theorem then_nil {c : Cx} {F : Flow → Heap → Prop} {h : Heap} (hF : F .next h) : Then c [] F .next h := .inl ⟨rfl, c.X, c.m, go_nil hF⟩

theorem flat_zero (k : Nat) : (List.replicate k [PyData.int 0]).flatten = (List.replicate k (0 : Int)).map PyData.int := by
  induction k with
  | zero => rfl
  | succ k ih => rw [List.replicate_succ, List.flatten_cons, ih, List.replicate_succ]; rfl

/-- what stands of the loop -/
def WsInv (a0 x : Addr) (vS vT : Value) (cs : List Nat) (X Z : List Addr) (i : Nat) (m : Str → Option Value) (h : Heap) : Prop :=
  ∃ a items tb tn tt, m (Str.ofString "count") = some (.ref a) ∧ (a = a0 ∨ a ∈ Z) ∧ h.IsList a items ∧ RdL [] h items.toList ((wsAt cs i).cnt.map PyData.int) ∧ m (Str.ofString "b") = some (.int ((wsAt cs i).b : Nat) tb) ∧
    m (Str.ofString "n") = some (.int ((wsAt cs i).n : Nat) tn) ∧ m (Str.ofString "nt") = some (.int ((wsAt cs i).nt : Nat) tt) ∧ m (Str.ofString "S") = some vS ∧ m (Str.ofString "T") = some vT ∧ m (Str.ofString "self") = some (.ref x)

section
variable {P : Params}
theorem ne_len : Str.ofString "len" ≠ "__name__" := by decide
theorem ne_tuple : Str.ofString "tuple" ≠ "__name__" := by decide

/-- len of a list of the text -/
theorem ev_len {c : Cx} {mg mb : Str → Option Value} {e : Expr} {p pos : Pos} {ds : List PyData} (O : c.Ok (Bs (KK P) mg mb)) (hl : c.env.kindOf (Str.ofString "len") = some .globalImplicit) (hg : c.env.globals = mainGlobals) (hb : c.env.builtins = builtinsNs) (he : Ev c e (.list ds)) (hsz : ds.length ≤ sizeLine) (hs : starEach [e] c.env = (false, eval e c.env) :: starEach [] c.env) :
    Ev c (.Call (.Name (Str.ofString "len") p) [e] [] pos) (.int ds.length) :=
  evp_call_builtin (glob_builtin O hl hg hb (by kernel_rfl) (by kernel_rfl) ne_len (by kernel_rfl)) (evl_cons he evl_nil hs) (call_len hsz) hs rfl

/-- the turn's end -/
def WsTurn (c : Cx) (a0 x : Addr) (vS vT : Value) (cs : List Nat) (W wr Z : List Addr) (B : Heap → Prop) (i : Nat) (h6 : Heap) : Flow → Heap → Prop := fun f h' => f = .next ∧ ∃ Z' m', (∀ b ∈ Z', b ∈ Z ∨ h6.get? b = none) ∧ KeepX (Z ++ W) h6 h' ∧ (c.hid (Z' ++ (wr ++ c.X)) m' h').Ok B ∧ WsInv a0 x vS vT cs (wr ++ c.X) Z' (i + 1) m' h'

theorem ws_tail {c0 c : Cx} {mg mb : Str → Option Value} {x L a0 a' : Addr} {cs : List Nat} {i : Nat} {wr Z Z' : List Addr} {m' : Str → Option Value} {h6 h' : Heap} {vS vT : Value} {items' : Array Value} {tb tn tt : Tok} {F : Flow → Heap → Prop} (hi : i ≤ 400) (hx : cs[i]? = some 9) (henv : c.env = callEnv (fdAt (KK P) 53) L 53) (hX : c.X = a0 :: L :: c0.X)
    (O : (c.hid (Z' ++ (wr ++ c.X)) m' h').Ok (Bs (KK P) mg mb)) (hZ : ∀ b ∈ Z', b ∈ Z ∨ h6.get? b = none) (hk : KeepX (Z ++ [a0, L]) h6 h') (ha : a' = a0 ∨ a' ∈ Z') (haX : a' ∉ L :: c0.X) (haL : a' ≠ L) (hl : h'.IsList a' items') (hr : RdL [] h' items'.toList ((wsGrow (wsAt cs i)).map PyData.int))
    (e1 : m' (Str.ofString "count") = some (.ref a')) (e2 : m' (Str.ofString "b") = some (.int ((wsAt cs i).b : Nat) tb)) (e3 : m' (Str.ofString "n") = some (.int ((wsAt cs i).n + 1 : Nat) tn)) (e4 : m' (Str.ofString "nt") = some (.int ((wsAt cs i).nt + 1 : Nat) tt)) (e5 : m' (Str.ofString "S") = some vS) (e6 : m' (Str.ofString "T") = some vT) (e7 : m' (Str.ofString "self") = some (.ref x))
    (hF : ∀ h2, WsTurn c a0 x vS vT cs [a0, L] wr Z (Bs (KK P) mg mb) i h6 .next h2 → F .next h2) : Go (c.hid (Z' ++ (wr ++ c.X)) m' h') tabRest F := by
  obtain ⟨cprog, cw, cA, cenv, cX, cm, ch⟩ := c
  simp only at henv hX
  subst henv hX
  have hmem : a' ∈ Z' ++ (wr ++ (a0 :: L :: c0.X)) := by
    rcases ha with rfl | ha
    · exact List.mem_append.mpr (.inr (List.mem_append.mpr (.inr (.head _))))
    · exact List.mem_append.mpr (.inl ha)
  have O' := O.unhide bs_mono (L :: c0.X) (fun b hb => List.mem_append.mpr (.inr (List.mem_append.mpr (.inr (.tail _ hb))))) (.head _)
  have hg := wsGrow_len (wsAt cs i)
  have hle := wsAt_le cs i
  have hsz : items'.size = (wsGrow (wsAt cs i)).length := by have := hr.length; simpa using this
  have ecount : ∀ p, Ev (cxOf O') (.Name (Str.ofString "count") p) (.list ((wsGrow (wsAt cs i)).map PyData.int)) := fun p => ev_local O' (by kernel_rfl) e1 (.list (hid_list hl haX) (rdl_int_any hr)) (by kernel_rfl)
  have eb : ∀ p, Ev (cxOf O') (.Name (Str.ofString "b") p) (.int ((wsAt cs i).b : Nat)) := fun p => ev_local O' (by kernel_rfl) e2 (.int _ _) (by kernel_rfl)
  have hget : ((wsGrow (wsAt cs i)).map PyData.int)[(wsAt cs i).b]? = some (.int ((wsGrow (wsAt cs i)).getD (wsAt cs i).b 0)) := by
    rw [List.getElem?_map, List.getElem?_eq_getElem hg.1, List.getD_eq_getElem?_getD, List.getElem?_eq_getElem hg.1]; rfl
  refine go_setitem O bs_mono (ev_int_of (m' := m') (X' := L :: c0.X) (ev_binop (ev_index_list (ecount _) (eb _) hget (Nat.le_trans hle.2.1 (Nat.le_trans hi (by decide))) (fun _ _ => rfl)) ev_int op_add)) (evp_local O (by kernel_rfl) e1 (fun _ _ => rfl) (by kernel_rfl)) (ev_local O (by kernel_rfl) e2 (.int _ _) (by kernel_rfl)) hl hmem haL (by rw [hsz]; exact hg.1) (Nat.le_trans hle.2.1 (Nat.le_trans hi (by decide))) rfl fun t h8 hl8 O8 st8 => ?_
  refine go_let O8 bs_mono ev_int (by kernel_rfl) rfl fun v m9 h9 u9 O9 st9 r9 => go_nil (hF _ ?_)
  obtain ⟨t0, rfl⟩ := r9.inv_int
  have hw : wsAt cs (i + 1) = ⟨(wsAt cs i).n + 1, 0, (wsAt cs i).nt + 1, (wsGrow (wsAt cs i)).set (wsAt cs i).b ((wsGrow (wsAt cs i)).getD (wsAt cs i).b 0 + 1)⟩ := (wsAt_succ hx).trans (if_neg (by decide))
  have hr8 : RdL [] h9 (items'.setIfInBounds (wsAt cs i).b (.int ((wsGrow (wsAt cs i)).getD (wsAt cs i).b 0 + 1) t)).toList (((wsGrow (wsAt cs i)).set (wsAt cs i).b ((wsGrow (wsAt cs i)).getD (wsAt cs i).b 0 + 1)).map PyData.int) := by
    rw [Array.toList_setIfInBounds]
    exact rdl_int_any (rdl_int_set hr _ _ t)
  refine ⟨rfl, Z', m9, hZ, fun b o hb e => st9.keep b o (fun q => ?_) (st8.keep b o (fun q => ?_) (hk b o hb e)), O9, a', _, t0, tn, tt, u9.get (by kernel_rfl) e1, ha, let ⟨o, q, r⟩ := hl8; ⟨o, st9.keep _ o (fun z => haL (List.mem_singleton.mp z)) q, r⟩, ?_, ?_, ?_, ?_, u9.get (by kernel_rfl) e5, u9.get (by kernel_rfl) e6, u9.get (by kernel_rfl) e7⟩
  · exact hb (List.mem_append.mpr (.inr (.tail _ q)))
  · have := List.mem_singleton.mp q; subst this
    rcases ha with rfl | ha
    · exact hb (List.mem_append.mpr (.inr (.head _)))
    · rcases hZ _ ha with z | z
      · exact hb (List.mem_append.mpr (.inl z))
      · rw [z] at e; cases e
  · rw [hw]; exact hr8
  · rw [hw]; exact u9.self
  · rw [hw]; exact u9.get (by kernel_rfl) e3
  · rw [hw]; exact u9.get (by kernel_rfl) e4

theorem init_ok {c0 : Cx} {mg mb : Str → Option Value} {ws : Str} {x dx L : Addr} {h₁ : Heap} {tw : Tok} (O : (calleeCx c0 (fdAt (KK P) 53) 53 L ([Str.ofString "self", Str.ofString "ws"].zip [.ref x, .str ws tw]) h₁).Ok (Bs (KK P) mg mb))
    (hdX : dx ∈ c0.X) (hdL : dx ≠ L) (hx : h₁.get? x = some (instObj 98 dx)) (hxX : x ∉ L :: c0.X) (D : h₁.get? dx = some (dictOf [] 0)) (hasc : ws.cps.all (· < 128) = true) (hch : ∀ ch ∈ ws.cps.toList, ch = 32 ∨ ch = 9) (hlen : ws.cps.size ≤ 400) :
    Go (calleeCx c0 (fdAt (KK P) 53) 53 L ([Str.ofString "self", Str.ofString "ws"].zip [.ref x, .str ws tw]) h₁) initBody (fun f h' => KeepX [L, dx] h₁ h' ∧ retV f = .none ∧ retOk f ∧ ∃ es n vn vt, h'.get? dx = some (dictOf es n) ∧ getL (Str.ofString "norm") es = some (some vn) ∧ getL (Str.ofString "nt") es = some (some vt) ∧ getL (Str.ofString "equal") es = some none ∧
      Rd c0.X h' vn (.tuple [.tuple ((wsAt ws.cps.toList ws.cps.size).cnt.map PyData.int), .int ((wsAt ws.cps.toList ws.cps.size).b : Nat)]) ∧ Rd c0.X h' vt (.int ((wsAt ws.cps.toList ws.cps.size).nt : Nat))) := by
  have es1 : ∀ p, EvP (cxOf O) (.Name (Str.ofString "self") p) (fun _ v => v = .ref x) := fun p => evp_local O (by kernel_rfl) (by kernel_rfl) (fun _ _ => rfl) (by kernel_rfl)
  refine go_setattr (es := []) (n := 0) O cls98 (Ev.toP (d := .str ws) (ev_local O (by kernel_rfl) (by kernel_rfl) (.str ws tw) (by kernel_rfl))) stable_rd (es1 _) hx D (.tail _ hdX) hdL tk_raw rfl (fun a b v => Nat.le_trans (putL_len ..) (by decide)) rfl fun v1 h2 hsh1 tk1 r1 D1 O1 st1 => ?_
  obtain ⟨tw1, rfl⟩ := r1.inv_str
  have ew : ∀ p, EvP (cxOf O1) (.Name (Str.ofString "Whitespace") p) (fun _ v => v = .ref 98) := fun p => glob_val O1 (by kernel_rfl) rfl (by kernel_rfl) (by kernel_rfl)
  refine go_swap2 O1 bs_mono (ev_cls O1 (ew _) _ reads98 cls98S) (ev_cls O1 (ew _) _ reads98 cls98T) (by kernel_rfl) (by kernel_rfl) rfl rfl (by kernel_rfl) fun vS vT m2a m2 h3 u2a u2 O2 st2 rS rT => ?_
  obtain ⟨tS, rfl⟩ := rS.inv_str
  obtain ⟨tT, rfl⟩ := rT.inv_str
  refine go_letNew O2 bs_mono (by kernel_rfl) fun a0 m3 h4 ha0 ha0X hp0 u3 O3 st3 => ?_
  refine go_three O3 bs_mono ev_int (by kernel_rfl) (by kernel_rfl) (by kernel_rfl) rfl fun v0 m4a m4b m4 h5 u4a u4b u4 O4 st4 r4 => ?_
  obtain ⟨t0, rfl⟩ := r4.inv_int
  have hdx2 : h5.get? dx = _ := st4.keep _ _ (fun q => hdL (List.mem_singleton.mp q)) (st3.keep _ _ (fun q => hdL (List.mem_singleton.mp q)) (st2.keep _ _ (fun q => hdL (List.mem_singleton.mp q)) D1))
  have hxL : x ≠ L := fun q => hxX (q ▸ .head _)
  have hxd : x ≠ dx := fun q => hxX (q ▸ .tail _ hdX)
  have hx5 : h5.get? x = some (instObj 98 dx) := st4.keep _ _ (fun q => hxL (List.mem_singleton.mp q)) (st3.keep _ _ (fun q => hxL (List.mem_singleton.mp q)) (st2.keep _ _ (fun q => hxL (List.mem_singleton.mp q)) (st1.keep _ _ (fun q => hxd (List.mem_singleton.mp q)) hx)))
  have ha0L : a0 ≠ L := fun q => ha0X (q ▸ .head _)
  have hp5 : h5.IsList a0 #[] := (hp0.at fun o e => st4.keep _ o (fun q => ha0L (List.mem_singleton.mp q)) e).isList
  have m4self : m4 (Str.ofString "self") = some (.ref x) := u4.get (by kernel_rfl) (u4b.get (by kernel_rfl) (u4a.get (by kernel_rfl) (u3.get (by kernel_rfl) (u2.get (by kernel_rfl) (u2a.get (by kernel_rfl) (by kernel_rfl))))))
  have m4S : m4 (Str.ofString "S") = some (.str (Str.ofString " ") tS) := u4.get (by kernel_rfl) (u4b.get (by kernel_rfl) (u4a.get (by kernel_rfl) (u3.get (by kernel_rfl) u2.self)))
  have m4T : m4 (Str.ofString "T") = some (.str (Str.ofString "\t") tT) := u4.get (by kernel_rfl) (u4b.get (by kernel_rfl) (u4a.get (by kernel_rfl) (u3.get (by kernel_rfl) (u2.get (by kernel_rfl) u2a.self))))
  have m4c : m4 (Str.ofString "count") = some (.ref a0) := u4.get (by kernel_rfl) (u4b.get (by kernel_rfl) (u4a.get (by kernel_rfl) u3.self))
  have m4n : m4 (Str.ofString "n") = some (.int 0 t0) := u4.get (by kernel_rfl) u4b.self
  have m4b : m4 (Str.ofString "b") = some (.int 0 t0) := u4.get (by kernel_rfl) (u4b.get (by kernel_rfl) u4a.self)
  refine go_forZ (tn := [Str.ofString "ch"]) O4 bs_mono (src_str (y := ws) O4 (ev_attr (v := .str ws tw1) O4 cls98 (evp_local O4 (by kernel_rfl) m4self (fun _ _ => rfl) (by kernel_rfl)) hx5 hdx2 fi_raw rfl (by kernel_rfl) rfl (.str ws tw1)) hasc) [a0, L] (fun b hb => ?_) (.tail _ (.head _)) (le1 (by kernel_rfl) rfl) (fun _ => rfl)
    (WsInv a0 x (.str (Str.ofString " ") tS) (.str (Str.ofString "\t") tT) ws.cps.toList) ?_ ?_ ?_
  · rcases List.mem_cons.mp hb with rfl | hb
    · exact .head _
    · rw [List.mem_singleton.mp hb]; exact .tail _ (.head _)
  · intro wr h hw Ok1 k
    exact ⟨a0, #[], t0, t0, t0, m4c, .inl rfl, let ⟨o, q, r⟩ := hp5; ⟨o, k _ _ q, r⟩, .nil, m4b, m4n, u4.self, m4S, m4T, m4self⟩
  · intro wr Z i ch m h vs h6 hw hz hxi hI hvl hk6 hr6 O6 kW6
    obtain ⟨a, items, tb, tn, tt, c1, c2, c3, c4, c5, c6, c7, c8, c9, c10⟩ := hI
    obtain ⟨v, vs', rfl, rv, rn⟩ := hr6.inv_cons
    obtain rfl := rn.inv_nil
    obtain ⟨tc, rfl⟩ := rv.inv_str
    have hch6 := hch ch (List.mem_of_getElem? hxi)
    have hi400 : i ≤ 400 := by have := (List.getElem?_eq_some_iff.mp hxi).1; simp at this; omega
    have hle := wsAt_le ws.cps.toList i
    have ub := bind1 m (Str.ofString "ch") (.str ⟨#[ch]⟩ tc)
    have awr : a ∉ wr := by
      rcases c2 with rfl | c2
      · intro q; obtain ⟨o, e, _⟩ := hp5; have := (hw _ q).symm.trans e; cases this
      · exact (hz a c2).2
    have aL : a ≠ L := by
      rcases c2 with rfl | c2
      · exact ha0L
      · rintro rfl; obtain ⟨o, _, _, e, _⟩ := O4.ns; have := (hz _ c2).1.symm.trans e; cases this
    have aX : a ∉ L :: c0.X := by
      rcases c2 with rfl | c2
      · exact ha0X
      · intro q; obtain ⟨o, e⟩ := O4.live a (.tail _ q); have := (hz _ c2).1.symm.trans e; cases this
    have hl6 : h6.IsList a items := let ⟨o, q, r⟩ := c3; ⟨o, hk6 _ o awr aL q, r⟩
    have e1 := ub.get (by kernel_rfl) c1
    have e2 := ub.get (by kernel_rfl) c5
    have e3 := ub.get (by kernel_rfl) c6
    have e4 := ub.get (by kernel_rfl) c7
    have e5 := ub.get (by kernel_rfl) c8
    have e6 := ub.get (by kernel_rfl) c9
    have e7 := ub.get (by kernel_rfl) c10
    refine go_if O6 bs_mono (tst_compare (ev_local O6 (by kernel_rfl) ub.self (.str _ _) (by kernel_rfl)) (ev_local O6 (by kernel_rfl) e5 (.str _ _) (by kernel_rfl)) op_seq (by kernel_rfl)) (fun e h7 k7 O7 st7 => ?_) (fun e h7 k7 O7 st7 => ?_)
    · have h32 : ch = 32 := by
        rcases hch6 with rfl | rfl
        · rfl
        · exact absurd e (by decide +kernel)
      subst h32
      have hwn : wsAt ws.cps.toList (i + 1) = ⟨(wsAt ws.cps.toList i).n + 1, (wsAt ws.cps.toList i).b + 1, (wsAt ws.cps.toList i).nt, (wsAt ws.cps.toList i).cnt⟩ := (wsAt_succ hxi).trans (if_pos rfl)
      refine go_let O7 bs_mono (ev_binop (ev_local O7 (by kernel_rfl) e3 (.int _ _) (by kernel_rfl)) ev_int op_add) (by kernel_rfl) rfl fun v8 m8 h8 u8 O8 st8 r8 => ?_
      obtain ⟨t8, rfl⟩ := r8.inv_int
      refine go_let O8 bs_mono (ev_binop (ev_local O8 (by kernel_rfl) (u8.get (by kernel_rfl) e2) (.int _ _) (by kernel_rfl)) ev_int op_add) (by kernel_rfl) rfl fun v9 m9 h9 u9 O9 st9 r9 => ?_
      obtain ⟨t9, rfl⟩ := r9.inv_int
      have kk : KeepX (Z ++ [a0, L]) h6 h9 := fun b o hb e => st9.keep b o (fun q => hb (List.mem_append.mpr (.inr (.tail _ q)))) (st8.keep b o (fun q => hb (List.mem_append.mpr (.inr (.tail _ q)))) (k7 b o e))
      refine go_nil (then_nil ⟨rfl, Z, m9, fun b hb => .inl hb, kk, O9, a, items, t9, t8, tt, u9.get (by kernel_rfl) (u8.get (by kernel_rfl) e1), c2, ?_, ?_, ?_, ?_, ?_, u9.get (by kernel_rfl) (u8.get (by kernel_rfl) e5), u9.get (by kernel_rfl) (u8.get (by kernel_rfl) e6), u9.get (by kernel_rfl) (u8.get (by kernel_rfl) e7)⟩)
      · obtain ⟨o, q, r⟩ := hl6
        exact ⟨o, st9.keep _ o (fun z => aL (List.mem_singleton.mp z)) (st8.keep _ o (fun z => aL (List.mem_singleton.mp z)) (k7 _ o q)), r⟩
      · rw [hwn]; exact rdl_int_any c4
      · rw [hwn]; exact u9.self
      · rw [hwn]; exact u9.get (by kernel_rfl) u8.self
      · rw [hwn]; exact u9.get (by kernel_rfl) (u8.get (by kernel_rfl) e4)
    · have h9 : ch = 9 := by
        rcases hch6 with rfl | rfl
        · exact absurd e (by decide +kernel)
        · rfl
      subst h9
      refine go_if O7 bs_mono (tst_compare (ev_local O7 (by kernel_rfl) ub.self (.str _ _) (by kernel_rfl)) (ev_local O7 (by kernel_rfl) e6 (.str _ _) (by kernel_rfl)) op_seq (by kernel_rfl)) (fun e h8 k8 O8 st8 => ?_) (fun e h8 k8 O8 st8 => absurd e (by decide +kernel))
      refine go_let O8 bs_mono (ev_binop (ev_local O8 (by kernel_rfl) e3 (.int _ _) (by kernel_rfl)) ev_int op_add) (by kernel_rfl) rfl fun v9 m9 h9 u9 O9 st9 r9 => ?_
      obtain ⟨t9, rfl⟩ := r9.inv_int
      refine go_let O9 bs_mono (ev_binop (ev_local O9 (by kernel_rfl) (u9.get (by kernel_rfl) e4) (.int _ _) (by kernel_rfl)) ev_int op_add) (by kernel_rfl) rfl fun v10 m10 h10 u10 O10 st10 r10 => ?_
      obtain ⟨t10, rfl⟩ := r10.inv_int
      have LX : ∀ b ∈ L :: c0.X, b ∈ Z ++ (wr ++ (a0 :: L :: c0.X)) := fun b hb => List.mem_append.mpr (.inr (List.mem_append.mpr (.inr (.tail _ hb))))
      have O10' := O10.unhide bs_mono (L :: c0.X) LX (.head _)
      have kL : ∀ {hA hB : Heap} (b : Addr) (o : Obj), KeepX [L] hA hB → b ≠ L → hA.get? b = some o → hB.get? b = some o := fun b o k n e => k b o (fun q => n (List.mem_singleton.mp q)) e
      have k610 : ∀ b o, b ≠ L → h6.get? b = some o → h10.get? b = some o := fun b o n e => kL b o st10.keep n (kL b o st9.keep n (k8 b o (k7 b o e)))
      have hl10 : h10.IsList a items := let ⟨o, q, r⟩ := hl6; ⟨o, k610 _ o aL q, r⟩
      have f1 : m10 (Str.ofString "count") = some (.ref a) := u10.get (by kernel_rfl) (u9.get (by kernel_rfl) e1)
      have f2 : m10 (Str.ofString "b") = some (.int ((wsAt ws.cps.toList i).b : Nat) tb) := u10.get (by kernel_rfl) (u9.get (by kernel_rfl) e2)
      have f3 : m10 (Str.ofString "n") = some (.int ((wsAt ws.cps.toList i).n + 1 : Nat) t9) := u10.get (by kernel_rfl) u9.self
      have f4 : m10 (Str.ofString "nt") = some (.int ((wsAt ws.cps.toList i).nt + 1 : Nat) t10) := u10.self
      have f5 : m10 (Str.ofString "S") = some (.str (Str.ofString " ") tS) := u10.get (by kernel_rfl) (u9.get (by kernel_rfl) e5)
      have f6 : m10 (Str.ofString "T") = some (.str (Str.ofString "\t") tT) := u10.get (by kernel_rfl) (u9.get (by kernel_rfl) e6)
      have f7 : m10 (Str.ofString "self") = some (.ref x) := u10.get (by kernel_rfl) (u9.get (by kernel_rfl) e7)
      have clen : ((wsAt ws.cps.toList i).cnt.map PyData.int).length = (wsAt ws.cps.toList i).cnt.length := by simp
      refine go_if O10 bs_mono (tst_of (X' := L :: c0.X) (tst_compare (ev_local O10' (by kernel_rfl) f2 (.int _ _) (by kernel_rfl)) (ev_len O10' (by kernel_rfl) rfl rfl (ev_local O10' (by kernel_rfl) f1 (.list (hid_list hl10 aX) (rdl_int_any c4)) (by kernel_rfl)) (by rw [clen]; exact Nat.le_trans hle.2.2.2 (Nat.le_trans hi400 (by decide))) rfl) op_ge (by kernel_rfl))) (fun e h11 k11 O11 st11 => ?_) (fun e h11 k11 O11 st11 => ?_)
      · have hge : (wsAt ws.cps.toList i).cnt.length ≤ (wsAt ws.cps.toList i).b := by rw [clen] at e; simpa using e
        have O11' := O11.unhide bs_mono (L :: c0.X) LX (.head _)
        have hl11 : h11.IsList a items := let ⟨o, q, r⟩ := hl10; ⟨o, k11 _ o q, r⟩
        have ec : ∀ p, Ev (cxOf O11') (.Name (Str.ofString "count") p) (.list ((wsAt ws.cps.toList i).cnt.map PyData.int)) := fun p => ev_local O11' (by kernel_rfl) f1 (.list (hid_list hl11 aX) (rdl_int_any c4)) (by kernel_rfl)
        have ex : (List.replicate (((wsAt ws.cps.toList i).b : Int) - (((wsAt ws.cps.toList i).cnt.map PyData.int).length : Nat) + 1).toNat [PyData.int 0]).flatten = (List.replicate ((wsAt ws.cps.toList i).b - (wsAt ws.cps.toList i).cnt.length + 1) (0 : Int)).map PyData.int := by
          rw [← flat_zero, clen]; congr 2; omega
        refine go_letV O11 bs_mono (evp_ladd_new (X' := L :: c0.X) (ns := (wsAt ws.cps.toList i).cnt) (ms := List.replicate ((wsAt ws.cps.toList i).b - (wsAt ws.cps.toList i).cnt.length + 1) 0) O11' O11 (ec _)
          (ex ▸ ev_binop (ev_list O11' (evl_cons ev_int evl_nil rfl) (show 1 ≤ sizeLine by decide)) (ev_binop (ev_binop (ev_local O11' (by kernel_rfl) f2 (.int _ _) (by kernel_rfl)) (ev_len O11' (by kernel_rfl) rfl rfl (ec _) (by rw [clen]; exact Nat.le_trans hle.2.2.2 (Nat.le_trans hi400 (by decide))) rfl) op_sub) ev_int op_add) (op_lmul O11' (by rw [clen]; omega) (by rw [clen]; omega) (by decide)))
          (by rw [List.length_replicate]; rw [sizeLine_eq]; omega)) (stable_new O11) (by kernel_rfl) rfl fun v m12 h12 u12 O12 st12 r12 => ?_
        obtain ⟨a', items', rfl, hn', hl', hr'⟩ := r12
        have na' : ∀ b ∈ L :: c0.X, a' ≠ b := fun b hb q => O11.live.new hn' (q ▸ LX b hb)
        refine go_nil (.inl ⟨rfl, (a' :: Z) ++ (wr ++ (a0 :: L :: c0.X)), m12, ?_⟩)
        obtain ⟨o', ho', _⟩ := id hl'
        refine ws_tail (c0 := c0) (c := cxOf O4) (Z := Z) (Z' := a' :: Z) (a' := a') (h6 := h6) (i := i) (cs := ws.cps.toList) hi400 hxi rfl rfl (O11.hideNew bs_mono O12 (KeepX.mono st12.keep fun b hb => LX b (by rw [List.mem_singleton.mp hb]; exact .head _)) hn' ho') (fun b hb => ?_) (fun b o hb e => ?_) (.inr (.head _)) (fun q => na' _ q rfl) (na' L (.head _)) hl' ?_ u12.self (u12.get (by kernel_rfl) f2) (u12.get (by kernel_rfl) f3) (u12.get (by kernel_rfl) f4) (u12.get (by kernel_rfl) f5) (u12.get (by kernel_rfl) f6) (u12.get (by kernel_rfl) f7) (fun h2 z => then_nil (then_nil z))
        · rcases List.mem_cons.mp hb with rfl | hb
          · refine .inr ?_
            cases q : h6.get? b with
            | none => rfl
            | some o => have := hn'.symm.trans (k11 _ _ (k610 _ o (na' L (.head _)) q)); cases this
          · exact .inl hb
        · have hbL : b ≠ L := fun q => hb (List.mem_append.mpr (.inr (.tail _ (by rw [q]; exact .head _))))
          exact kL b o st12.keep hbL (k11 b o (k610 b o hbL e))
        · rw [show wsGrow (wsAt ws.cps.toList i) = _ from if_pos hge]; exact rdl_int_any hr'
      · have hlt : ¬ (wsAt ws.cps.toList i).cnt.length ≤ (wsAt ws.cps.toList i).b := by rw [clen] at e; simpa using e
        refine go_nil (.inl ⟨rfl, Z ++ (wr ++ (a0 :: L :: c0.X)), m10, ?_⟩)
        refine ws_tail (c0 := c0) (c := cxOf O4) (Z := Z) (Z' := Z) (a' := a) (h6 := h6) (i := i) (cs := ws.cps.toList) hi400 hxi rfl rfl O11 (fun b hb => .inl hb) (fun b o hb e => ?_) c2 aX aL (let ⟨o, q, r⟩ := hl10; ⟨o, k11 _ o q, r⟩) ?_ f1 f2 f3 f4 f5 f6 f7 (fun h2 z => then_nil (then_nil z))
        · exact k11 b o (k610 b o (fun q => hb (List.mem_append.mpr (.inr (.tail _ (by rw [q]; exact .head _))))) e)
        · rw [show wsGrow (wsAt ws.cps.toList i) = _ from if_neg hlt]; exact rdl_int_any c4
  · intro wr Z m h h6 hw hz hI hk O6 hn kW
    obtain ⟨a, items, tb, tn, tt, c1, c2, c3, c4, c5, c6, c7, c8, c9, c10⟩ := hI
    have hlen' : ws.cps.toList.length = ws.cps.size := by simp
    rw [hlen'] at c4 c5 c6 c7
    have hle := wsAt_le ws.cps.toList ws.cps.size
    have awr : a ∉ wr := by
      rcases c2 with rfl | c2
      · intro q; obtain ⟨o, e, _⟩ := hp5; have := (hw _ q).symm.trans e; cases this
      · exact (hz a c2).2
    have aX : a ∉ L :: c0.X := by
      rcases c2 with rfl | c2
      · exact ha0X
      · intro q; obtain ⟨o, e⟩ := O4.live a (.tail _ q); have := (hz _ c2).1.symm.trans e; cases this
    have hl6 : h6.IsList a items := let ⟨o, q, r⟩ := c3; ⟨o, hk _ o awr q, r⟩
    have had : a ≠ dx := fun q => aX (q ▸ .tail _ hdX)
    have hsub : (cxOf O4).Sub ((cxOf O4).hid (L :: c0.X) m h6) := fun b o e => by
      obtain ⟨n, e⟩ := hid_get.mp e
      refine hid_get.mpr ⟨fun q => n (.tail _ q), kW b o (fun q => ?_) e⟩
      rcases List.mem_cons.mp q with rfl | q
      · exact n (.head _)
      · rw [List.mem_singleton.mp q] at n; exact n (.tail _ (.head _))
    have hlive : Live (L :: c0.X) h6 := fun b hb => by
      obtain ⟨o, e⟩ := O6.live b (List.mem_append.mpr (.inr (List.mem_append.mpr (.inr (.tail _ hb)))))
      refine ⟨o, hk b o (fun q => ?_) e⟩
      obtain ⟨o', e'⟩ := O4.live b (.tail _ hb)
      have := (hw b q).symm.trans e'; cases this
    have O7 := O4.move bs_mono hsub hn (.head _) hlive
    have D7 : h6.get? dx = _ := kW _ _ (fun q => by
      rcases List.mem_cons.mp q with q | q
      · exact ha0X (q ▸ .tail _ hdX)
      · exact hdL (List.mem_singleton.mp q)) hdx2
    have hx7 : h6.get? x = some (instObj 98 dx) := kW _ _ (fun q => by
      rcases List.mem_cons.mp q with q | q
      · have := ha0.symm.trans (q ▸ (st2.keep _ _ (fun q => hxL (List.mem_singleton.mp q)) (st1.keep _ _ (fun q => hxd (List.mem_singleton.mp q)) hx))); cases this
      · exact hxL (List.mem_singleton.mp q)) hx5
    have kd : ∀ {hA hB : Heap} (b : Addr) (o : Obj), KeepX [dx] hA hB → b ≠ dx → hA.get? b = some o → hB.get? b = some o := fun b o k n e => k b o (fun q => n (List.mem_singleton.mp q)) e
    refine go_nil (.inl ⟨rfl, L :: c0.X, m, ?_⟩)
    refine go_setattr O7 cls98 (Ev.toP (ev_local O7 (by kernel_rfl) c6 (.int _ _) (by kernel_rfl))) stable_rd (evp_local O7 (by kernel_rfl) c10 (fun _ _ => rfl) (by kernel_rfl)) hx7 D7 (.tail _ hdX) hdL tk_n (putL_ref _ _ _ _ _ _ rfl) (fun a b v => Nat.le_trans (putL_len ..) (Nat.le_trans (Nat.succ_le_succ (putL_len ..)) (by decide))) rfl fun v8 h8 g8 t8 r8 D8 O8 st8 => ?_
    have hx8 := kd _ _ st8.keep hxd hx7
    refine go_setattr O8 cls98 (Ev.toP (ev_local O8 (by kernel_rfl) c7 (.int _ _) (by kernel_rfl))) stable_rd (evp_local O8 (by kernel_rfl) c10 (fun _ _ => rfl) (by kernel_rfl)) hx8 D8 (.tail _ hdX) hdL tk_nt (putL_ref _ _ _ _ _ _ (putL_ref _ _ _ _ _ _ rfl)) (fun a b v => Nat.le_trans (putL_len ..) (Nat.le_trans (Nat.succ_le_succ (Nat.le_trans (putL_len ..) (Nat.succ_le_succ (putL_len ..)))) (by decide))) rfl fun v9 h9 g9 t9 r9 D9 O9 st9 => ?_
    have hx9 := kd _ _ st9.keep hxd hx8
    have hl9 : h9.IsList a items := let ⟨o, q, r⟩ := hl6; ⟨o, kd _ _ st9.keep had (kd _ _ st8.keep had q), r⟩
    have clen : ((wsAt ws.cps.toList ws.cps.size).cnt.map PyData.int).length ≤ sizeLine := by rw [List.length_map]; exact Nat.le_trans hle.2.2.2 (Nat.le_trans hlen (by decide))
    refine go_setattr O9 cls98 (Ev.toP (d := .tuple [.tuple ((wsAt ws.cps.toList ws.cps.size).cnt.map PyData.int), .int ((wsAt ws.cps.toList ws.cps.size).b : Nat)]) (ev_tuple O9 (evl_cons (evp_call_type (glob_builtin O9 (by kernel_rfl) rfl rfl (by kernel_rfl) (by kernel_rfl) ne_tuple (by kernel_rfl)) (evl_cons (ev_local O9 (by kernel_rfl) c1 (.list (hid_list hl9 aX) (rdl_int_any c4)) (by kernel_rfl)) evl_nil rfl) (call_tuple O9 clen) rfl rfl) (evl_cons (ev_local O9 (by kernel_rfl) c5 (.int _ _) (by kernel_rfl)) evl_nil rfl) rfl) (show 2 ≤ sizeLine by decide)))
      stable_rd (evp_local O9 (by kernel_rfl) c10 (fun _ _ => rfl) (by kernel_rfl)) hx9 D9 (.tail _ hdX) hdL tk_norm (putL_ref _ _ _ _ _ _ (putL_ref _ _ _ _ _ _ (putL_ref _ _ _ _ _ _ rfl))) (fun a b v => Nat.le_trans (putL_len ..) (Nat.le_trans (Nat.succ_le_succ (Nat.le_trans (putL_len ..) (Nat.succ_le_succ (Nat.le_trans (putL_len ..) (Nat.succ_le_succ (putL_len ..)))))) (by decide))) rfl fun v10 h10 g10 t10 r10 D10 O10 st10 => ?_
    have hx10 := kd _ _ st10.keep hxd hx9
    have hl10 : h10.IsList a items := let ⟨o, q, r⟩ := hl9; ⟨o, kd _ _ st10.keep had q, r⟩
    refine go_setattr O10 cls98 (Ev.toP (ev_compare (ev_len O10 (by kernel_rfl) rfl rfl (ev_local O10 (by kernel_rfl) c1 (.list (hid_list hl10 aX) (rdl_int_any c4)) (by kernel_rfl)) clen rfl) ev_int op_le (by kernel_rfl))) stable_rd (evp_local O10 (by kernel_rfl) c10 (fun _ _ => rfl) (by kernel_rfl)) hx10 D10 (.tail _ hdX) hdL tk_sim
      (putL_ref _ _ _ _ _ _ (putL_ref _ _ _ _ _ _ (putL_ref _ _ _ _ _ _ (putL_ref _ _ _ _ _ _ rfl)))) (fun a b v => Nat.le_trans (putL_len ..) (Nat.le_trans (Nat.succ_le_succ (Nat.le_trans (putL_len ..) (Nat.succ_le_succ (Nat.le_trans (putL_len ..) (Nat.succ_le_succ (Nat.le_trans (putL_len ..) (Nat.succ_le_succ (putL_len ..)))))))) (by decide))) rfl fun v11 h11 g11 t11 r11 D11 O11 st11 => ?_
    refine go_nil ⟨fun b o hb e => ?_, rfl, trivial, _, _, v10, v9, D11, by kernel_rfl, by kernel_rfl, by kernel_rfl, (r10.keepX (KeepX.mono st11.keep fun b hb => by rw [List.mem_singleton.mp hb]; exact .tail _ hdX)).tail, ?_⟩
    · have nd : b ≠ dx := fun q => hb (q ▸ .tail _ (.head _))
      have nL : b ∉ [L] := fun q => hb (by rw [List.mem_singleton.mp q]; exact .head _)
      have e3 := st2.keep b o nL (kd _ _ st1.keep nd e)
      have na : b ≠ a0 := fun q => by have := ha0.symm.trans (q ▸ e3); cases this
      have e5 := st4.keep b o nL (st3.keep b o nL e3)
      exact kd _ _ st11.keep nd (kd _ _ st10.keep nd (kd _ _ st9.keep nd (kd _ _ st8.keep nd (kW b o (fun q => by
        rcases List.mem_cons.mp q with q | q
        · exact na q
        · exact nL q) e5))))
    · obtain ⟨t, rfl⟩ := r9.inv_int; exact .int _ _
end
end Mine
end

section
open PySem PySem.W PyProof.Rows PySem.SeqAt
set_option Elab.async false
set_option maxRecDepth 100000
set_option linter.unusedVariables false
namespace Mine

theorem Go.mono {c : Cx} {ss : List Stmt} {F F' : Flow → Heap → Prop} (g : Go c ss F) (h : ∀ f h', F f h' → F' f h') : Go c ss F' := ⟨fun s Q E hc hQ => g.run s Q E hc fun f h' tk hF => hQ f h' tk (h f h' hF)⟩

/-- a lead -/
def Lead (X : List Addr) (h : Heap) (v : Value) (ns : List Int) (b nt : Nat) : Prop := ∃ x dx es n vn vt, v = .ref x ∧ (hideAll h X).get? x = some (instObj 98 dx) ∧ (hideAll h X).get? dx = some (dictOf es n) ∧ getL (Str.ofString "norm") es = some (some vn) ∧ getL (Str.ofString "nt") es = some (some vt) ∧ getL (Str.ofString "equal") es = some none ∧
  Rd X h vn (.tuple [.tuple (ns.map PyData.int), .int b]) ∧ Rd X h vt (.int nt)
theorem Lead.keepX {X : List Addr} {h h' : Heap} {v : Value} {ns : List Int} {b nt : Nat} (l : Lead X h v ns b nt) (k : KeepX X h h') : Lead X h' v ns b nt := by
  obtain ⟨x, dx, es, n, vn, vt, rfl, e1, e2, e3, e4, e5, r1, r2⟩ := l
  exact ⟨x, dx, es, n, vn, vt, rfl, hid_keepX k _ _ e1, hid_keepX k _ _ e2, e3, e4, e5, r1.keepX k, r2.keepX k⟩
theorem Lead.tail {L : Addr} {X : List Addr} {h : Heap} {v : Value} {ns : List Int} {b nt : Nat} (l : Lead (L :: X) h v ns b nt) : Lead X h v ns b nt := by
  obtain ⟨x, dx, es, n, vn, vt, rfl, e1, e2, e3, e4, e5, r1, r2⟩ := l
  exact ⟨x, dx, es, n, vn, vt, rfl, hid_sub (fun b hb => .tail _ hb) _ _ e1, hid_sub (fun b hb => .tail _ hb) _ _ e2, e3, e4, e5, r1.tail, r2.tail⟩

section
variable {P : Params}
theorem room_under {A : Around} {n : Nat} {C : Addr} {ws : Str} {tw : Tok} (r : Room A (n + 6)) : Room (A.under (.builtin "type.__call__" ⟨.ref C :: [.str ws tw], []⟩)) n := by
  refine ⟨r.handled, ?_, ?_⟩
  · have := r.depth; show A.depth + (Code.builtin "type.__call__" ⟨.ref C :: [.str ws tw], []⟩).weight + n ≤ 900
    have e : (Code.builtin "type.__call__" ⟨.ref C :: [.str ws tw], []⟩).weight ≤ 6 := Nat.le_of_ble_eq_true (by kernel_rfl)
    omega
  · have := r.units; show A.units + (Code.builtin "type.__call__" ⟨.ref C :: [.str ws tw], []⟩).cUnits + 10 * n ≤ 9000
    have e : (Code.builtin "type.__call__" ⟨.ref C :: [.str ws tw], []⟩).cUnits ≤ 60 := Nat.le_of_ble_eq_true (by kernel_rfl)
    omega

theorem make_ws {c : Cx} {mg mb : Str → Option Value} {ws : Str} {n : Nat} (O : c.Ok (Bs (KK P) mg mb)) (hr : Room c.A (n + 7)) (hasc : ws.cps.all (· < 128) = true) (hch : ∀ ch ∈ ws.cps.toList, ch = 32 ∨ ch = 9) (hlen : ws.cps.size ≤ 400) :
    CallP c (.ref 98) [.str ws] (fun h v => Lead c.X h v (wsAt ws.cps.toList ws.cps.size).cnt (wsAt ws.cps.toList ws.cps.size).b (wsAt ws.cps.toList ws.cps.size).nt) := fun s vs Q E k r h => by
  obtain ⟨v1, vs', rfl, r1, r2⟩ := r.inv_cons
  obtain rfl := r2.inv_nil
  obtain ⟨tw, rfl⟩ := r1.inv_str
  obtain ⟨hh, g, d, t, os⟩ := s
  have X : (KK P).In hh := kin O k
  refine wpAny_call (make_core (makes_of X makes98) (looks_findIn X init98) (fun self => bind_fn X self typ53) (.inl rfl) ?_)
  have kp : Keep hh ((hh.push emptyDict).push (instObj 98 hh.objs.size)) := fun b o e => Heap.get?_push_of_some _ (Heap.get?_push_of_some _ e)
  have hdx : ((hh.push emptyDict).push (instObj 98 hh.objs.size)).get? hh.objs.size = some emptyDict := Heap.get?_push_of_some _ (Heap.get?_push_size _ rfl)
  have hx : ((hh.push emptyDict).push (instObj 98 hh.objs.size)).get? (hh.objs.size + 1) = some (instObj 98 hh.objs.size) := by
    have := Heap.get?_push_size (hh.push emptyDict) (o := instObj 98 hh.objs.size) rfl
    rwa [Heap.size_push] at this
  have hnew : ∀ b, hh.objs.size ≤ b → hh.get? b = none := fun b hb => Heap.get?_none_of_le hb
  have hcnew : ∀ b, hh.objs.size ≤ b → c.h.get? b = none := fun b hb => by
    cases q : c.h.get? b with
    | none => rfl
    | some o => have := (hnew b hb).symm.trans (k _ o q); cases this
  have O1 : (Cx.mk c.prog c.w (c.A.under (.builtin "type.__call__" ⟨.ref 98 :: [.str ws tw], []⟩)) c.env (hh.objs.size :: c.X) c.m ((hh.push emptyDict).push (instObj 98 hh.objs.size))).Ok (Bs (KK P) mg mb) := by
    refine ⟨(room_under hr).aok, O.ns.keeps fun b o e => kp b o (k b o e), .tail _ O.mem, Live.cons (O.live.keep fun b o e => kp b o (k b o e)) hdx, bs_mono _ _ (sub_new (fun b hb => ?_) fun b o hb e => kp b o (k b o e)) O.base, O.kind⟩
    rcases List.mem_cons.mp hb with rfl | hb
    · exact .inr (hcnew _ (Nat.le_refl _))
    · exact .inl hb
  obtain ⟨o, ho, hd⟩ := fn_at (fok53 (P := P)).fn
  refine code_fn (names := [Str.ofString "self", Str.ofString "ws"]) (W := [hh.objs.size]) (P := fun h' v => v = .none ∧ ∃ es n vn vt, h'.get? hh.objs.size = some (dictOf es n) ∧ getL (Str.ofString "norm") es = some (some vn) ∧ getL (Str.ofString "nt") es = some (some vt) ∧ getL (Str.ofString "equal") es = some none ∧
      Rd (hh.objs.size :: c.X) h' vn (.tuple [.tuple ((wsAt ws.cps.toList ws.cps.size).cnt.map PyData.int), .int ((wsAt ws.cps.toList ws.cps.size).b : Nat)]) ∧ Rd (hh.objs.size :: c.X) h' vt (.int ((wsAt ws.cps.toList ws.cps.size).nt : Nat)))
    O1 (room_under hr) (fun _ _ e => e) ho hd fok53.code fok53.body (by kernel_rfl) (fun x hx => by have := List.all_eq_true.mp (fok53 (P := P)).loc x hx; simpa using this) (fun x hx => by have := List.all_eq_true.mp (fok53 (P := P)).cell x hx; simpa using this) fok53.co fok53.gen fok53.kind ?_ ?_
  · intro L h₁ hL hk₁ O2 hs2 hr2
    refine bodyOk_of (Go.mono (init_ok O2 (dx := hh.objs.size) (.head _) ?_ (hk₁ _ _ hx) ?_ (hk₁ _ _ hdx) hasc hch hlen) fun f h' z => ⟨z.1, ⟨z.2.1, z.2.2.2⟩, z.2.2.1⟩)
    · rintro rfl; have := hL.symm.trans hdx; cases this
    · intro q
      rcases List.mem_cons.mp q with q | q
      · have := hL.symm.trans (q ▸ hx); cases this
      · rcases List.mem_cons.mp q with q | q
        · exact absurd q (Nat.succ_ne_self _)
        · obtain ⟨o, e⟩ := O.live _ q
          have := (hcnew _ (Nat.le_succ _)).symm.trans e; cases this
  · rintro v h' tk kW ⟨rfl, es, n', vn, vt, e1, e2, e3, e4, r3, r4⟩
    refine ⟨rfl, ?_⟩
    refine h (.ref (hh.objs.size + 1)) ⟨h', g, d, tk, os⟩ ⟨rfl, fun b o e => kW b o (fun q => ?_) (kp b o e)⟩ ⟨_, hh.objs.size, es, n', vn, vt, rfl, hid_get.mpr ⟨fun q => ?_, kW _ _ (fun q => ?_) hx⟩, hid_get.mpr ⟨fun q => ?_, e1⟩, e2, e3, e4, r3.tail, r4.tail⟩
    · rw [List.mem_singleton.mp q] at e; have := (hnew _ (Nat.le_refl _)).symm.trans e; cases this
    · obtain ⟨o, e⟩ := O.live _ q
      have := (hcnew _ (Nat.le_succ _)).symm.trans e; cases this
    · exact absurd (List.mem_singleton.mp q) (Nat.succ_ne_self _)
    · obtain ⟨o, e⟩ := O.live _ q
      have := (hcnew _ (Nat.le_refl _)).symm.trans e; cases this
end
end Mine
end

section
open PySem PySem.W PyProof.Rows PySem.SeqAt
set_option Elab.async false
set_option maxRecDepth 100000
set_option linter.unusedVariables false
namespace Mine

def run (k : Nat) : Str := Txt.mul (Str.ofString " ") k ++ Str.ofString "\t"
def runCs (k : Nat) : List Nat := List.replicate k 32 ++ [9]
theorem run_cs : ∀ k < 7, (run k).cps.toList = runCs k := by decide +kernel
theorem join_cs : ∀ ts : List Str, (Str.join (Str.ofString "") ts).cps.toList = ts.flatMap (·.cps.toList)
  | [] => rfl
  | [x] => by simp [Str.join]
  | x :: y :: r => by
    have ih := join_cs (y :: r)
    have e : Str.join (Str.ofString "") (x :: y :: r) = x ++ Str.ofString "" ++ Str.join (Str.ofString "") (y :: r) := rfl
    rw [e, List.flatMap_cons, ← ih]
    show (x.cps ++ #[] ++ (Str.join (Str.ofString "") (y :: r)).cps).toList = _
    simp
def leadText (ks : List Nat) : Str := Txt.join (Str.ofString "") (ks.map run)
theorem lead_cs {ks : List Nat} (h : ∀ k ∈ ks, k < 7) : (leadText ks).cps.toList = ks.flatMap runCs := by
  unfold leadText Txt.join
  rw [StrLaws.glued_eq_join, join_cs, List.flatMap_map]
  induction ks with
  | nil => rfl
  | cons k ks ih => rw [List.flatMap_cons, List.flatMap_cons, run_cs k (h k (.head _)), ih fun q hq => h q (.tail _ hq)]
theorem cs_len : ∀ {ks : List Nat}, (∀ k ∈ ks, k < 7) → (ks.flatMap runCs).length ≤ 7 * ks.length
  | [], _ => Nat.le_refl _
  | k :: ks, h => by
    have := cs_len fun q hq => h q (.tail k hq)
    have hk := h k (.head _)
    rw [List.flatMap_cons, List.length_append, List.length_cons]
    have : (runCs k).length = k + 1 := by simp [runCs]
    omega
theorem run_len (k : Nat) (h : k < 7) : (run k).length ≤ 7 := by
  have := congrArg List.length (run_cs k h)
  simp [runCs] at this
  show (run k).cps.size ≤ 7
  omega
theorem fold_le (sep : Nat) (hs : sep = 0) : ∀ (ts : List Str) (acc : Nat), (∀ t ∈ ts, t.length ≤ 7) → ts.foldl (fun n t => n + t.length + sep) acc ≤ acc + 7 * ts.length
  | [], acc, _ => by simp
  | t :: ts, acc, h => by
    have := fold_le sep hs ts (acc + t.length + sep) fun q hq => h q (.tail _ hq)
    have := h t (.head _)
    rw [List.foldl_cons, List.length_cons]; omega
theorem lead_join {ks : List Nat} (h : ∀ k ∈ ks, k < 7) (hl : ks.length ≤ 16) : JoinOk (Str.ofString "") (ks.map run) = true := by
  unfold JoinOk Builtin.Str.tooLong
  rw [List.foldl_toArray]
  have := fold_le (Str.ofString "").length rfl (ks.map run) 0 (by
    intro t ht
    obtain ⟨k, hk, rfl⟩ := List.mem_map.mp ht
    exact run_len k (h k hk))
  rw [List.length_map] at this
  simp only [Bool.not_eq_true', decide_eq_false_iff_not, Nat.not_lt, gt_iff_lt]
  rw [sizeLine_eq]; omega

def bump (cnt : List Int) (k : Nat) : List Int := (wsGrow ⟨0, k, 0, cnt⟩).set k ((wsGrow ⟨0, k, 0, cnt⟩).getD k 0 + 1)
theorem ws_blanks : ∀ (k n b nt : Nat) (cnt : List Int), (List.replicate k 32).foldl wsStep ⟨n, b, nt, cnt⟩ = ⟨n + k, b + k, nt, cnt⟩
  | 0, n, b, nt, cnt => rfl
  | k + 1, n, b, nt, cnt => by
    rw [List.replicate_succ, List.foldl_cons, show wsStep ⟨n, b, nt, cnt⟩ 32 = ⟨n + 1, b + 1, nt, cnt⟩ from if_pos rfl, ws_blanks k]
    congr 1 <;> omega
theorem ws_run (k n nt : Nat) (cnt : List Int) : (runCs k).foldl wsStep ⟨n, 0, nt, cnt⟩ = ⟨n + k + 1, 0, nt + 1, bump cnt k⟩ := by
  unfold runCs
  rw [List.foldl_append, ws_blanks, List.foldl_cons, List.foldl_nil, Nat.zero_add]
  rw [show wsStep ⟨n + k, k, nt, cnt⟩ 9 = _ from if_neg (by decide)]
  rfl
theorem ws_all : ∀ (ks : List Nat) (n nt : Nat) (cnt : List Int), ∃ n', (ks.flatMap runCs).foldl wsStep ⟨n, 0, nt, cnt⟩ = ⟨n', 0, nt + ks.length, ks.foldl bump cnt⟩
  | [], n, nt, cnt => ⟨n, rfl⟩
  | k :: ks, n, nt, cnt => by
    obtain ⟨n', e⟩ := ws_all ks (n + k + 1) (nt + 1) (bump cnt k)
    refine ⟨n', ?_⟩
    rw [List.flatMap_cons, List.foldl_append, ws_run, e, List.length_cons, List.foldl_cons]
    congr 1; omega
theorem ws_lead {ks : List Nat} (h : ∀ k ∈ ks, k < 7) : (wsAt (leadText ks).cps.toList (leadText ks).cps.size).cnt = ks.foldl bump [] ∧ (wsAt (leadText ks).cps.toList (leadText ks).cps.size).b = 0 ∧ (wsAt (leadText ks).cps.toList (leadText ks).cps.size).nt = ks.length := by
  obtain ⟨n', e⟩ := ws_all ks 0 0 []
  have e2 : wsAt (leadText ks).cps.toList (leadText ks).cps.size = ⟨n', 0, 0 + ks.length, ks.foldl bump []⟩ := by
    unfold wsAt
    rw [show (leadText ks).cps.size = (leadText ks).cps.toList.length by simp, List.take_length, lead_cs h]
    exact e
  rw [e2]
  exact ⟨rfl, rfl, Nat.zero_add _⟩

section
variable {P : Params}
theorem evp_call_K {c : Cx} {K : Frag} {mg mb : Str → Option Value} {x : Str} {p pos : Pos} {e : Expr} {es : List Expr} {a : Addr} {ds : List PyData} {Pv : Heap → Value → Prop} (O : c.Ok (Bs K mg mb)) (hf : EvP c (.Name x p) (fun _ u => u = .ref a)) (hk : keepIn K (.ref a) = true) (ha : EvL c pos (e :: es) ds) (hc : CallP c (.ref a) ds Pv)
    (he : starEach (e :: es) c.env = (false, eval e c.env) :: starEach es c.env) (hst : (backTo pos (starEach es c.env)).any (·.1) = false) : EvP c (.Call (.Name x p) (e :: es) [] pos) Pv := fun s Q E k h =>
  Call_Name rfl (hf s _ _ k fun v s₁ k₁ r₁ => by
    subst r₁
    have kc : Keep c.h s₁.heap := fun b o e => k₁.keep b o (k b o e)
    exact callWith_K (kin O kc) hk (ha s₁ _ _ kc fun vs s₂ k₂ r₂ => ⟨kin O fun b o e => k₂.keep b o (kc b o e), hc s₂ vs _ _ (fun b o e => k₂.keep b o (kc b o e)) r₂ fun v s' k' r' => h v s' ((k₁.trans k₂).trans k') r'⟩) he hst)
theorem keep98 : keepIn (KK P) (.ref 98) = true := by kernel_rfl
theorem fok117 : FnOk (KK P) 117 (bodyAt 13) [Str.ofString "counts"] := ⟨by kernel_rfl, by kernel_rfl, by kernel_rfl, by kernel_rfl, by kernel_rfl, by kernel_rfl, by kernel_rfl, by kernel_rfl⟩

theorem law_lead {c : Cx} {mg mb : Str → Option Value} {ks : List Nat} {n : Nat} (h7 : ∀ k ∈ ks, k < 7) (hl : ks.length ≤ 16) (O : c.Ok (Bs (KK P) mg mb)) (hr : Room c.A (n + 8)) :
    CallP c (.ref 117) [.list (ks.map fun k : Nat => .int k)] (fun h v => Lead c.X h v (ks.foldl bump []) 0 ks.length) := by
  refine call_text O hr fok117 rfl (fun vs hv => ?_) ?_
  · obtain ⟨v1, rfl⟩ : ∃ v1, vs = [v1] := by
      rcases vs with _ | ⟨v1, _ | ⟨v2, vs⟩⟩ <;> simp at hv
      exact ⟨v1, rfl⟩
    kernel_rfl
  intro vs L h₁ O' hs hr' hlen hr2
  obtain ⟨v1, vs', rfl, r1, r2⟩ := hr2.inv_cons
  obtain rfl := r2.inv_nil
  obtain ⟨w1, w2, w3⟩ := ws_lead h7
  have ecs := lead_cs h7
  have hcs : ∀ ch ∈ (leadText ks).cps.toList, ch = 32 ∨ ch = 9 := by
    rw [ecs]; intro ch hm
    obtain ⟨k, _, hm⟩ := List.mem_flatMap.mp hm
    rcases List.mem_append.mp hm with hm | hm
    · exact .inl (List.mem_replicate.mp hm).2
    · exact .inr (List.mem_singleton.mp hm)
  have hsz : (leadText ks).cps.size ≤ 400 := by
    have := cs_len h7
    rw [← ecs] at this; simp at this; omega
  have hasc : (leadText ks).cps.all (· < 128) = true := by
    rw [← Array.all_toList, List.all_eq_true]
    intro ch hm
    rcases hcs ch hm with rfl | rfl <;> rfl
  have mk := make_ws (ws := leadText ks) O' (hr'.less (show n + 7 ≤ n + 7 from Nat.le_refl _)) hasc hcs hsz
  rw [w1, w2, w3] at mk
  refine bodyOk_of (go_ret (evp_call_K O' (glob_val O' (by kernel_rfl) rfl (by kernel_rfl) (by kernel_rfl)) keep98 (evl_cons (d := .str (leadText ks)) (ev_join (ys := ks.map run) ev_str ?_ (lead_join h7 hl) rfl rfl rfl) evl_nil rfl) mk rfl rfl) fun v h' k' l => ⟨Keep.toX k', l.tail, trivial⟩)
  have e0 : ((ks.filter fun _ => true).map fun k => PyData.str (run k)) = (ks.map run).map PyData.str := by rw [List.filter_eq_self.mpr (fun _ _ => rfl), List.map_map]; rfl
  rw [← e0]
  refine ev_comp (tn := [Str.ofString "count"]) (cl := []) (xs := ks) (enc := fun k : Nat => [.int k]) (p := fun _ => true) (f := fun k => .str (run k)) O' bs_mono (src_list (enc := fun k : Nat => .int k) O' (ev_local O' (by kernel_rfl) (by kernel_rfl) r1 (by kernel_rfl))) ⟨by kernel_rfl, by decide +kernel, by kernel_rfl, by decide +kernel, by decide +kernel, fun _ => rfl⟩ (Nat.le_trans hl (by decide)) ?_
  intro k hk C X m vs h hs3 O3 hr3 hl3
  obtain ⟨w, ws, rfl, q1, q2⟩ := hr3.inv_cons
  obtain rfl := q2.inv_nil
  have hk7 := h7 k hk
  refine ⟨tsts_nil, fun _ => ev_binop (ev_binop ev_str (ev_local O3 (by kernel_rfl) (bind1 m (Str.ofString "count") w).self q1 (by kernel_rfl)) (op_smul (n := k) (by omega) (by decide))) ev_str (op_sadd ?_)⟩
  have e1 := run_len k hk7
  have e2 : (run k).length = (Txt.mul (Str.ofString " ") k).length + (Str.ofString "\t").length := Array.size_append
  rw [← e2]; exact Nat.le_trans e1 (by decide)
end
end Mine
end

section
open PySem PySem.W PyProof.Rows PySem.SeqAt
set_option Elab.async false
set_option maxRecDepth 100000
set_option linter.unusedVariables false
namespace Mine

def normD (ns : List Int) (b : Nat) : PyData := .tuple [.tuple (ns.map PyData.int), .int b]
theorem lay_ints : ∀ ns : List Int, PyData.canLayAll0 (ns.map PyData.int) = true
  | [] => by simp [PyData.canLayAll0]
  | n :: ns => by simp [PyData.canLayAll0, PyData.canLay0, lay_ints ns]
theorem depth_ints : ∀ ns : List Int, PyData.depthAll (ns.map PyData.int) ≤ 1
  | [] => by simp [PyData.depthAll]
  | n :: ns => by
    have := depth_ints ns
    simp [PyData.depthAll, PyData.depth]; omega
theorem shaped_norm (ns : List Int) (b : Nat) : shaped (normD ns b) = true := by
  unfold shaped normD
  rw [Bool.and_eq_true]
  refine ⟨by simp [PyData.canLayAll0, PyData.canLay0, lay_ints ns], ?_⟩
  have := depth_ints ns
  simp [PyData.depth, PyData.depthAll]; omega

section
variable {P : Params}
theorem keep74 : keepIn (KK P) (.ref 74) = true := by kernel_rfl
theorem find98e : findIn (KK P) (.ref 98) (Str.ofString "equal") = some (some (.ref 74)) := by kernel_rfl
theorem typ74 : typeIn (KK P) (.ref 74) = some (.type "function") := by kernel_rfl

theorem ev_norm {c : Cx} {mg mb : Str → Option Value} {y : Str} {py pos : Pos} {v : Value} {ns : List Int} {b nt : Nat} (O : c.Ok (Bs (KK P) mg mb)) (hl : c.env.kindOf y = some .local) (hm : c.m y = some v) (l : Lead c.X c.h v ns b nt) (hd : (y == ("__debug__" : Str)) = false) : Ev c (.Attribute (.Name y py) (Str.ofString "norm") pos) (normD ns b) := by
  obtain ⟨x, dx, es, n, vn, vt, rfl, e1, e2, e3, e4, e5, r1, r2⟩ := l
  obtain ⟨a, items, rfl, _⟩ := r1.inv_tuple
  exact ev_attr O cls98 (evp_local O hl hm (fun _ _ => rfl) hd) (of_hideAll _ e1) (of_hideAll _ e2) fi_norm rfl e3 rfl r1
theorem ev_nt {c : Cx} {mg mb : Str → Option Value} {y : Str} {py pos : Pos} {v : Value} {ns : List Int} {b nt : Nat} (O : c.Ok (Bs (KK P) mg mb)) (hl : c.env.kindOf y = some .local) (hm : c.m y = some v) (l : Lead c.X c.h v ns b nt) (hd : (y == ("__debug__" : Str)) = false) : Ev c (.Attribute (.Name y py) (Str.ofString "nt") pos) (.int nt) := by
  obtain ⟨x, dx, es, n, vn, vt, rfl, e1, e2, e3, e4, e5, r1, r2⟩ := l
  obtain ⟨t, rfl⟩ := r2.inv_int
  exact ev_attr O cls98 (evp_local O hl hm (fun _ _ => rfl) hd) (of_hideAll _ e1) (of_hideAll _ e2) fi_nt rfl e4 rfl r2

theorem Lead.hideNew {X : List Addr} {h : Heap} {v : Value} {ns : List Int} {b nt : Nat} {c c2 : Cx} (s : c.Sub c2) (l : Lead c.X c.h v ns b nt) : Lead c2.X c2.h v ns b nt := by
  obtain ⟨x, dx, es, n, vn, vt, rfl, e1, e2, e3, e4, e5, r1, r2⟩ := l
  exact ⟨x, dx, es, n, vn, vt, rfl, s _ _ e1, s _ _ e2, e3, e4, e5, s.rd r1, s.rd r2⟩

/-- the method equal, asked -/
theorem evp_equal {c : Cx} {mg mb : Str → Option Value} {y : Str} {py apos pos : Pos} {e : Expr} {va : Value} {ns ns2 : List Int} {b nt b2 nt2 n : Nat} (O : c.Ok (Bs (KK P) mg mb)) (hr : Room c.A (n + 1)) (hl : c.env.kindOf y = some .local) (hm : c.m y = some va) (l : Lead c.X c.h va ns b nt) (hd : (y == ("__debug__" : Str)) = false)
    (he : EvP c e (fun h v => Lead c.X h v ns2 b2 nt2)) (hline : (apos.endLine == pos.line) = true) (hs : starEach [e] c.env = (false, eval e c.env) :: starEach [] c.env) :
    EvP c (.Call (.Attribute (.Name y py) (Str.ofString "equal") apos) [e] [] pos) (fun _ v => v = .bool (PyData.eqv (normD ns b) (normD ns2 b2))) := fun s Q E k h => by
  have l0 := l
  obtain ⟨x, dx, es, n', vn, vt, rfl, e1, e2, e3, e4, e5, r1, r2⟩ := l
  rw [arm_eval_Call]
  have hbase : attributeBase (.Name y py) (Str.ofString "equal") c.env (eval (.Name y py) c.env) = eval (.Name y py) c.env := rfl
  rw [hbase]
  refine wpAny_bind (evp_local (P := fun _ v => v = .ref x) O hl hm (fun _ _ => rfl) hd s _ _ k fun ov s₁ k₁ r₁ => ?_)
  subst r₁
  have kc : Keep c.h s₁.heap := fun b o e => k₁.keep b o (k b o e)
  refine wpAny_bind (wpAny_standAt ?_)
  have hform : methodCallForm ([e].length + ([] : List Keyword).length) (backTo pos (starEach [e] c.env)) (backToKw pos (keywordEach [] c.env)) = true := by rw [hs]; rfl
  have hpos : methodCallPos true (.Name y py) c.env apos pos = pure pos := by unfold methodCallPos; simp [hline]
  unfold methodCall
  rw [hform]
  refine wpAny_bind (wpAny_holding (method_fn (od := some (dictOf es n')) (kin O kc) ⟨kc _ _ (of_hideAll _ e1), rfl, rfl, kc _ _ (of_hideAll _ e2)⟩ cls98.get cls98.hook find98e typ74 (by show (lookIn _ _).map _ = _; rw [lookIn_dict, e5]; rfl) ?_))
  refine wpAny_bind (wpAny_of_eq hpos ?_)
  refine callWith_K (kin O kc) keep74 ?_ hs rfl
  refine wpAny_items_cons (he s₁ _ _ kc fun v2 s₂ k₂ l2 => wpAny_items_nil ⟨kin O fun b o e => k₂.keep b o (kc b o e), ?_⟩) hs
  have kc₂ : Keep c.h s₂.heap := fun b o e => k₂.keep b o (kc b o e)
  obtain ⟨o, ho, hd'⟩ := fn_at (fok74 (P := P)).fn
  refine wpAny_call (code_fn (c := c.at c.m s₂.heap) (vs := [.ref x, v2]) (names := [Str.ofString "self", Str.ofString "other"]) (W := []) (P := fun _ v => v = .bool (PyData.eqv (normD ns b) (normD ns2 b2))) (O.later bs_mono kc₂) hr (fun _ _ e => e) ho hd' fok74.code fok74.body (by kernel_rfl) (fun x hx => by have := List.all_eq_true.mp (fok74 (P := P)).loc x hx; simpa using this) (fun x hx => by have := List.all_eq_true.mp (fok74 (P := P)).cell x hx; simpa using this) fok74.co fok74.gen fok74.kind ?_ ?_)
  · intro L h₁ hL hk₁ O2 hs2 hr2
    have la : Lead (L :: c.X) h₁ (.ref x) ns b nt := Lead.hideNew (X := c.X) (h := s₂.heap) (c := c.at c.m s₂.heap) hs2 (l0.keepX (Keep.toX kc₂))
    have lb : Lead (L :: c.X) h₁ v2 ns2 b2 nt2 := Lead.hideNew (X := c.X) (h := s₂.heap) (c := c.at c.m s₂.heap) hs2 l2
    refine bodyOk_of (go_retD (ev_compare (ev_norm O2 (by kernel_rfl) (by kernel_rfl) la (by kernel_rfl)) (ev_norm O2 (by kernel_rfl) (by kernel_rfl) lb (by kernel_rfl)) (op_deq O2 (shaped_norm _ _) (shaped_norm _ _)) (by kernel_rfl)) fun v h' k' r => ⟨Keep.toX k', r.inv_bool, trivial⟩)
  · intro v h' tk hk' hp
    refine h v _ ((k₁.trans k₂).trans (.both s₂ tk fun b o e => hk' b o (fun z => nomatch z) e)) hp
end
end Mine
end

section
open PySem PySem.W PyProof.Rows PySem.SeqAt
set_option Elab.async false
set_option maxRecDepth 100000
set_option linter.unusedVariables false
namespace Mine

section
variable {prog : Program} {w : World} {A : Around} {E : Value → Shared → Prop} {s : Shared}
theorem draw_list {it t : Addr} {items : Array Value} (hne : t ≠ it) : ∀ (n i : Nat) (s : Shared) (Q : List Value → Shared → Prop), s.heap.IsListIter it t i → s.heap.IsList t items → i + n ≤ items.size →
    (∀ h', h'.IsListIter it t (i + n) → Heap.SameBut it s.heap h' → Q ((items.toList.drop i).take n) { s with heap := h' }) → wpAny (model prog w) A (draw (.ref it) n) Q E s
  | 0, i, s, Q, hit, _, _, hQ => by
    show wpAny _ _ (pure []) Q E s
    exact wpAny_pure (by simpa using hQ s.heap hit (Heap.SameBut.refl ..))
  | n + 1, i, s, Q, hit, ht, hle, hQ => by
    have hlt : i < items.size := by omega
    show wpAny _ _ (pyNext (.ref it) >>= _) Q E s
    refine wpAny_bind (wpAny_pyNext_list_item hit ht (x := items[i]) (by simp [hlt]) fun h₁ hit₁ hs₁ => ?_)
    have ht₁ : h₁.IsList t items := let ⟨o, e, r⟩ := ht; ⟨o, hs₁.extBut _ _ hne e, r⟩
    refine wpAny_bind (wpAny_holding (draw_list hne n (i + 1) _ _ hit₁ ht₁ (by omega) fun h₂ hit₂ hs₂ => wpAny_pure ?_))
    have hd : items.toList.drop i = items[i] :: items.toList.drop (i + 1) := by simp [List.drop_eq_getElem_cons, hlt]
    have := hQ h₂ (by rw [show i + (n + 1) = i + 1 + n by omega]; exact hit₂) (hs₁.trans hs₂)
    rw [hd, List.take_succ_cons] at this
    exact this
theorem unpackItems_list {t : Addr} {items : Array Value} {Q : List Value → Shared → Prop} (hh : A.handled = none) (ht : s.heap.IsList t items)
    (hQ : ∀ h', Heap.ExtBut s.heap.objs.size s.heap h' → Q items.toList { s with heap := h' }) : wpAny (model prog w) A (unpackItems (.ref t) items.size none) Q E s := by
  have hlt : t ≠ s.heap.objs.size := by obtain ⟨o, ho, _⟩ := ht; exact Nat.ne_of_lt (Heap.lt_size ho)
  unfold unpackItems
  refine wpAny_bind ?_
  · unfold notIterableAtAll
    refine wpAny_bind (wpAny_specialOf ht.typeIs slot_list_iter.lookup ?_)
    refine wpAny_pure ?_
    simp only [Bool.false_eq_true, if_false]
    refine wpAny_bind (wpAny_holding (wpAny_pyIter_list ht ?_))
    have htp : (s.heap.push { cls := .type "list_iterator", data := .fields #[.ref t, .int 0 0] }).IsList t items := let ⟨o, e, r⟩ := ht; ⟨o, Heap.get?_push_of_some _ e, r⟩
    refine wpAny_bind (wpAny_holding (draw_list hlt items.size 0 _ _ ⟨_, Heap.get?_push_size _ rfl, rfl, rfl⟩ htp (by omega) fun h₁ hit₁ hs₁ => ?_))
    have hall : List.take items.size (List.drop 0 items.toList) = items.toList := by
      rw [List.drop_zero]; exact List.take_of_length_le (by simp)
    rw [hall]
    rw [if_neg (by simp)]
    have ht₁ : h₁.IsList t items := let ⟨o, e, r⟩ := htp; ⟨o, hs₁.extBut _ _ hlt e, r⟩
    refine wpAny_bind (wpAny_holding (wpAny_pyNext_list_end hh hit₁ ht₁ (by simp) fun h₂ he₂ => ?_))
    simp only [Option.isSome_none, Bool.false_eq_true, if_false]
    refine wpAny_pure (hQ h₂ fun b o hb e => he₂ b o hb (hs₁.extBut b o hb (Heap.get?_push_of_some _ e)))
end

section
variable {c : Cx} {B : Heap → Prop} {F : Flow → Heap → Prop} {rest : List Stmt}

theorem cell_same {h h' : Heap} {a b : Addr} {v : Option Value} (hc : h.IsCell a v) (hs : Heap.SameBut b h h') (hn : a ≠ b) : h'.IsCell a v := let ⟨o, e, q⟩ := hc; ⟨o, hs.extBut _ _ hn e, q⟩
theorem cell_keep {h h' : Heap} {a : Addr} {v : Option Value} (hc : h.IsCell a v) (k : Keep h h') : h'.IsCell a v := let ⟨o, e, q⟩ := hc; ⟨o, k _ _ e, q⟩
theorem cell_keepX {W : List Addr} {h h' : Heap} {a : Addr} {v : Option Value} (hc : h.IsCell a v) (k : KeepX W h h') (hn : a ∉ W) : h'.IsCell a v := let ⟨o, e, q⟩ := hc; ⟨o, k _ _ hn e, q⟩

/-- a value under a name that has a cell -/
theorem go_letCell {y : Str} {py spos : Pos} {e : Expr} {P : Heap → Value → Prop} {a : Addr} {v0 : Option Value} (O : c.Ok B) (hB : BMono B) (he : EvP c e P) (hP : Stable c P) (hy : c.env.kindOf y = some .cell) (hc : c.env.cells.lookup y = some a) (hv : c.h.IsCell a v0) (haX : a ∈ c.X) (haL : a ≠ c.env.locals) (hs : swapsWith e (some (.Name y py)) spos.line c.env = pure false)
    (h : ∀ v h', h'.IsCell a (some v) → (c.at c.m h').Ok B → Stp c (c.at c.m h') [a] → P h' v → Go (c.at c.m h') rest F) : Go c (.Assign [.Name y py] e spos :: rest) F :=
  ⟨fun s Q E hc' hQ => wpAny_execs_cons (wpAny_Assign_Name (he s _ _ (fun b o e => by rw [hc']; exact e) fun v s₁ k₁ r₁ => by
    have kc : Keep c.h s₁.heap := hc' ▸ k₁.keep
    refine wpAny_storeName_cell O.kind hy hc (cell_keep hv kc) fun h' hv' hsb => ?_
    have hk2 : ∀ b o, b ≠ a → c.h.get? b = some o → h'.get? b = some o := fun b o hb e => hsb.extBut b o hb (kc b o e)
    have hsub : c.Sub (c.at c.m h') := hid_keepX fun b o hb e => hk2 b o (fun q => hb (q ▸ haX)) e
    have hlv : Live c.X h' := fun b hb => by
      by_cases q : b = a
      · subst q; obtain ⟨o, e, _⟩ := hv'; exact ⟨o, e⟩
      · obtain ⟨o, e⟩ := O.live b hb; exact ⟨o, hk2 b o q e⟩
    have g := h v h' hv' (O.move hB hsub ((O.ns.keeps kc).sameBut hsb (Ne.symm haL)) O.mem hlv) ⟨hsub, fun b o hb e => hk2 b o (fun q => hb (q ▸ .head _)) e⟩ (hP _ _ _ (KeepX.ofSameBut hsb haX) r₁)
    show wpAny _ _ _ _ _ { s₁ with heap := h' }
    rw [show ({ s₁ with heap := h' } : Shared) = { s with heap := h', toks := s₁.toks } by rw [k₁.rest]]
    exact g.run _ _ _ rfl fun f h2 tk2 hF => hQ f h2 tk2 hF) hs)⟩

theorem in4 (t1 t2 t3 t4 : Value → Sem Unit) (v1 v2 v3 v4 : Value) : assignInOrder [t1, t2, t3, t4] [v1, v2, v3, v4] = (do holding [v2, v3, v4] (t1 v1); (do holding [v3, v4] (t2 v2); (do holding [v4] (t3 v3); (do holding [] (t4 v4); pure ())))) := rfl

/-- four ints of a list under four names that have cells -/
theorem go_unpack4 {y1 y2 y3 y4 : Str} {p1 p2 p3 p4 tp spos : Pos} {kt : Nat} {e : Expr} {i1 i2 i3 i4 : Int} {a1 a2 a3 a4 : Addr} (O : c.Ok B) (hB : BMono B) (he : Ev c e (.list [.int i1, .int i2, .int i3, .int i4]))
    (hy : c.env.kindOf y1 = some .cell ∧ c.env.kindOf y2 = some .cell ∧ c.env.kindOf y3 = some .cell ∧ c.env.kindOf y4 = some .cell) (hc : c.env.cells.lookup y1 = some a1 ∧ c.env.cells.lookup y2 = some a2 ∧ c.env.cells.lookup y3 = some a3 ∧ c.env.cells.lookup y4 = some a4)
    (hv : ∀ a ∈ [a1, a2, a3, a4], (∃ v, c.h.IsCell a v) ∧ a ∈ c.X ∧ a ≠ c.env.locals) (hn : [a1, a2, a3, a4].Nodup) (hs : swapsWithSole [.Tuple [.Name y1 p1, .Name y2 p2, .Name y3 p3, .Name y4 p4] kt tp] e spos.line c.env = pure false) (hw : swappedStores [.Tuple [.Name y1 p1, .Name y2 p2, .Name y3 p3, .Name y4 p4] kt tp] e c.env = pure none)
    (h : ∀ t1 t2 t3 t4 h', h'.IsCell a1 (some (.int i1 t1)) → h'.IsCell a2 (some (.int i2 t2)) → h'.IsCell a3 (some (.int i3 t3)) → h'.IsCell a4 (some (.int i4 t4)) → (c.at c.m h').Ok B → Stp c (c.at c.m h') [a1, a2, a3, a4] → Go (c.at c.m h') rest F) :
    Go c (.Assign [.Tuple [.Name y1 p1, .Name y2 p2, .Name y3 p3, .Name y4 p4] kt tp] e spos :: rest) F :=
  ⟨fun s Q E hc' hQ => wpAny_execs_cons (Assign_Tuple (he s _ _ (fun b o e => by rw [hc']; exact e) fun v s₁ k₁ r₁ => by
    have kc : Keep c.h s₁.heap := hc' ▸ k₁.keep
    obtain ⟨t, items, rfl, ht, hr⟩ := r₁.inv_list
    obtain ⟨v1, vs, e1, r1, hr⟩ := hr.inv_cons
    obtain ⟨v2, vs, rfl, r2, hr⟩ := hr.inv_cons
    obtain ⟨v3, vs, rfl, r3, hr⟩ := hr.inv_cons
    obtain ⟨v4, vs, rfl, r4, hr⟩ := hr.inv_cons
    obtain rfl := hr.inv_nil
    obtain ⟨t1, rfl⟩ := r1.inv_int
    obtain ⟨t2, rfl⟩ := r2.inv_int
    obtain ⟨t3, rfl⟩ := r3.inv_int
    obtain ⟨t4, rfl⟩ := r4.inv_int
    have hi : items = #[.int i1 t1, .int i2 t2, .int i3 t3, .int i4 t4] := by rw [← Array.toArray_toList (xs := items), e1]
    subst hi
    rw [arm_assign_Tuple]
    refine wpAny_bind (wpAny_standAt ?_)
    unfold unpack
    rw [show (assignEach [.Name y1 p1, .Name y2 p2, .Name y3 p3, .Name y4 p4] c.env).findIdx? (·.1) = none from rfl, show (assignEach [.Name y1 p1, .Name y2 p2, .Name y3 p3, .Name y4 p4] c.env).length = (#[Value.int i1 t1, .int i2 t2, .int i3 t3, .int i4 t4] : Array Value).size from rfl]
    refine wpAny_bind (wpAny_holding (unpackItems_list (items := #[.int i1 t1, .int i2 t2, .int i3 t3, .int i4 t4]) O.a.handled (of_hid_list ht).2 fun ha hea => ?_))
    have hka : Keep c.h ha := fun b o e => hea b o (fun q => by have := Heap.lt_size (kc b o e); rw [q] at this; exact Nat.lt_irrefl _ this) (kc b o e)
    rw [show (assignEach [.Name y1 p1, .Name y2 p2, .Name y3 p3, .Name y4 p4] c.env).map (·.2) = [assign (.Name y1 p1) c.env, assign (.Name y2 p2) c.env, assign (.Name y3 p3) c.env, assign (.Name y4 p4) c.env] from rfl, in4]
    obtain ⟨⟨w1, c1⟩, m1, n1⟩ := hv a1 (by simp)
    obtain ⟨⟨w2, c2⟩, m2, n2⟩ := hv a2 (by simp)
    obtain ⟨⟨w3, c3⟩, m3, n3⟩ := hv a3 (by simp)
    obtain ⟨⟨w4, c4⟩, m4, n4⟩ := hv a4 (by simp)
    have d : a1 ≠ a2 ∧ a1 ≠ a3 ∧ a1 ≠ a4 ∧ a2 ≠ a3 ∧ a2 ≠ a4 ∧ a3 ≠ a4 := by simp at hn; exact ⟨hn.1.1, hn.1.2.1, hn.1.2.2, hn.2.1.1, hn.2.1.2, hn.2.2⟩
    obtain ⟨d12, d13, d14, d23, d24, d34⟩ := d
    refine wpAny_bind (wpAny_holding (assign_Name (wpAny_storeName_cell O.kind hy.1 hc.1 (cell_keep c1 hka) fun hb b1 sb => ?_)))
    refine wpAny_bind (wpAny_holding (assign_Name (wpAny_storeName_cell O.kind hy.2.1 hc.2.1 (cell_same (cell_keep c2 hka) sb d12.symm) fun hd b2 sd => ?_)))
    refine wpAny_bind (wpAny_holding (assign_Name (wpAny_storeName_cell O.kind hy.2.2.1 hc.2.2.1 (cell_same (cell_same (cell_keep c3 hka) sb d13.symm) sd d23.symm) fun hf b3 sf => ?_)))
    refine wpAny_bind (wpAny_holding (assign_Name (wpAny_storeName_cell O.kind hy.2.2.2 hc.2.2.2 (cell_same (cell_same (cell_same (cell_keep c4 hka) sb d14.symm) sd d24.symm) sf d34.symm) fun hg b4 sg => wpAny_pure ?_)))
    have hk2 : ∀ b o, b ∉ [a1, a2, a3, a4] → c.h.get? b = some o → hg.get? b = some o := fun b o hb e => by
      simp at hb
      exact sg.extBut b o hb.2.2.2 (sf.extBut b o hb.2.2.1 (sd.extBut b o hb.2.1 (sb.extBut b o hb.1 (hka b o e))))
    have hX : ∀ b ∈ [a1, a2, a3, a4], b ∈ c.X := fun b hb => (hv b hb).2.1
    have z1 := cell_same (cell_same (cell_same b1 sd d12) sf d13) sg d14
    have z2 := cell_same (cell_same b2 sf d23) sg d24
    have z3 := cell_same b3 sg d34
    have hsub : c.Sub (c.at c.m hg) := hid_keepX fun b o hb e => hk2 b o (fun q => hb (hX b q)) e
    have hlv : Live c.X hg := fun b hb => by
      by_cases q : b ∈ [a1, a2, a3, a4]
      · simp at q
        rcases q with rfl | rfl | rfl | rfl
        · obtain ⟨o, e, _⟩ := z1; exact ⟨o, e⟩
        · obtain ⟨o, e, _⟩ := z2; exact ⟨o, e⟩
        · obtain ⟨o, e, _⟩ := z3; exact ⟨o, e⟩
        · obtain ⟨o, e, _⟩ := b4; exact ⟨o, e⟩
      · obtain ⟨o, e⟩ := O.live b hb; exact ⟨o, hk2 b o q e⟩
    have hns : hg.Ns c.env.locals c.m := ((((O.ns.keeps hka).sameBut sb n1.symm).sameBut sd n2.symm).sameBut sf n3.symm).sameBut sg n4.symm
    have g := h t1 t2 t3 t4 hg z1 z2 z3 b4 (O.move hB hsub hns O.mem hlv) ⟨hsub, hk2⟩
    show wpAny _ _ _ _ _ { s₁ with heap := hg }
    rw [show ({ s₁ with heap := hg } : Shared) = { s with heap := hg, toks := s₁.toks } by rw [k₁.rest]]
    exact g.run _ _ _ rfl fun f h2 tk2 hF => hQ f h2 tk2 hF) hs hw)⟩
end
end Mine
end

section
open PySem PySem.W PyProof.Rows PySem.SeqAt
set_option Elab.async false
set_option maxRecDepth 100000
set_option linter.unusedVariables false
namespace Mine
section
variable {prog : Program} {w : World} {A : Around} {R : Result → Shared → Prop} {s : Shared}
theorem comp_loopP (Pm : (Str → Option Value) → Prop) {elt : Expr} {gens : List Comprehension} {scope : Scope} {pos p : Pos} {k : Nat} {I D : Addr} {target : Expr} {tn : List Str} {fp wr : List Addr} {α : Type} {xs : List α} {G : α → List Value → Prop} {St : Nat → Heap → Prop}
    {cenv : Env} {body : Sem Fin} {X : List Addr} {g : α → List PyData} {ds₀ : List PyData} {m : Str → Option Value}
    (hturn : compTurn (.ListComp elt gens scope pos) k (.ref I) (.ref D) cenv = turnB p target (.ref I) cenv body)
    (W : Feed prog w A I target tn fp wr xs G St) (hl : localEnv cenv tn) (hDC : D ≠ cenv.locals) (hDf : D ∉ fp) (hCf : cenv.locals ∉ fp)
    (hX : ∀ b, b = cenv.locals ∨ b = D ∨ b ∈ wr → b ∈ X)
    (hbody : ∀ i x vs (s₂ : Shared) m ys ds (Q : Fin → Shared → Prop) (E : Value → Shared → Prop), Pm m → xs[i]? = some x → G x vs → vs.length = tn.length → s₂.heap.Ns cenv.locals (bindTo m tn vs) → s₂.heap.PlainList D ys → RdL X s₂.heap ys.toList ds → ds = ds₀ ++ (xs.take i).flatMap g →
      (∀ b o, b ≠ cenv.locals → b ≠ D → b ∉ wr → s.heap.get? b = some o → s₂.heap.get? b = some o) → St (i + 1) s₂.heap →
      (∀ h₃ tk m₃ ys', Pm m₃ → h₃.Ns cenv.locals m₃ → h₃.PlainList D ys' → RdL X h₃ ys'.toList (ds ++ g x) → (∀ b o, b ≠ cenv.locals → b ≠ D → s₂.heap.get? b = some o → h₃.get? b = some o) →
        Q (.again (.compLoop (.ListComp elt gens scope pos) k (.ref I) (.ref D) cenv)) { s₂ with heap := h₃, toks := tk }) → wpAny (model prog w) A body Q E s₂)
    (hst : St 0 s.heap) {ys₀ : Array Value} (hacc : s.heap.PlainList D ys₀) (hd₀ : RdL X s.heap ys₀.toList ds₀) (hn : s.heap.Ns cenv.locals m) (hPm : Pm m)
    (hR : ∀ h' tk m' ys, h'.Ns cenv.locals m' → h'.PlainList D ys → RdL X h' ys.toList (ds₀ ++ xs.flatMap g) → (∀ b o, b ≠ cenv.locals → b ≠ D → b ∉ wr → s.heap.get? b = some o → h'.get? b = some o) →
      R (.ok .next) { s with heap := h', toks := tk }) :
    codeAny (model prog w) A (.compLoop (.ListComp elt gens scope pos) k (.ref I) (.ref D) cenv) R s := by
  have hCw : cenv.locals ∉ wr := fun h => hCf (W.sub _ h)
  have hDw : D ∉ wr := fun h => hDf (W.sub _ h)
  refine codeAny_loop rfl (fun n s' => ∃ h' tk m' ys i, s' = { s with heap := h', toks := tk } ∧ St i h' ∧ h'.PlainList D ys ∧ Pm m' ∧ h'.Ns cenv.locals m' ∧ RdL X h' ys.toList (ds₀ ++ (xs.take i).flatMap g) ∧ i ≤ xs.length ∧ n = xs.length + 1 - i ∧
    ∀ b o, b ≠ cenv.locals → b ≠ D → b ∉ wr → s.heap.get? b = some o → h'.get? b = some o) ?_ (xs.length + 1) ⟨s.heap, s.toks, m, ys₀, 0, rfl, hst, hacc, hPm, hn, by simpa using hd₀, Nat.zero_le _, rfl, fun _ _ _ _ _ e => e⟩
  rintro n s' ⟨H, tk, m', ys, i, rfl, hst', hacc', hPm', hn', hd, hi, rfl, hk⟩
  show wpAny _ A ((compTurn (.ListComp elt gens scope pos) k (.ref I) (.ref D) cenv).onRaise (fun x => do noteFrame x cenv; theTreesLotGoes x)) _ _ _
  refine wpAny_noted ?_
  rw [hturn]
  unfold turnB
  refine wpAny_bind (wpAny_standAt (wpAny_bind ?_))
  cases hx : xs[i]? with
  | none =>
    have hlen : i = xs.length := Nat.le_antisymm hi (by simpa using hx)
    subst hlen
    refine W.done _ _ _ hst' fun h₁ tk₁ hk₁ => wpAny_pure ?_
    refine hR h₁ tk₁ m' ys (hn'.at' fun o e => hk₁ _ o hCw e) (hacc'.at fun o e => hk₁ _ o hDw e) ?_ fun b o hbC hbD hbw e => hk₁ b o hbw (hk b o hbC hbD hbw e)
    rw [List.take_length] at hd
    exact hd.keepX fun b o hb e => hk₁ b o (fun h => hb (hX b (.inr (.inr h)))) e
  | some x =>
    have hlt : i < xs.length := (List.getElem?_eq_some_iff.mp hx).1
    refine wpAny_mono (W.turn cenv i x { s with heap := H, toks := tk } m' (fun s₃ => wpAny (model prog w) A body (fun fin s' => match fin with
        | .done f => R (.ok f) s'
        | .again c' => c' = (.compLoop (.ListComp elt gens scope pos) k (.ref I) (.ref D) cenv) ∧ ∃ m, m < xs.length + 1 - i ∧ ∃ h' tk m' ys i, s' = { s with heap := h', toks := tk } ∧ St i h' ∧ h'.PlainList D ys ∧ Pm m' ∧ h'.Ns cenv.locals m' ∧ RdL X h' ys.toList (ds₀ ++ (xs.take i).flatMap g) ∧ i ≤ xs.length ∧ m = xs.length + 1 - i ∧
            ∀ b o, b ≠ cenv.locals → b ≠ D → b ∉ wr → s.heap.get? b = some o → h'.get? b = some o) (notedBy (model prog w) A cenv fun e s' => R (.error e) s') s₃)
        (notedBy (model prog w) A cenv fun e s' => R (.error e) s') hl hCf hx hst' hn' ?_) (fun r s₁ h₁ => ?_) fun _ _ e => e
    · intro h₂ tk₂ vs hst₂ hn₂ hG hlen hk₂
      have hacc₂ : h₂.PlainList D ys := hacc'.at fun o e => hk₂ _ o hDw hDC e
      have hd₂ : RdL X h₂ ys.toList (ds₀ ++ (xs.take i).flatMap g) := hd.keepX fun b o hb e => hk₂ b o (fun h => hb (hX b (.inr (.inr h)))) (fun h => hb (hX b (.inl h))) e
      refine hbody i x vs { s with heap := h₂, toks := tk₂ } m' ys _ _ _ hPm' hx hG hlen hn₂ hacc₂ hd₂ rfl (fun b o hbC hbD hbw e => hk₂ b o hbw hbC (hk b o hbC hbD hbw e)) hst₂ fun h₃ tk₃ m₃ ys' hPm₃ hn₃ hacc₃ hd₃ hk₃ => ?_
      refine ⟨rfl, xs.length + 1 - (i + 1), by omega, h₃, tk₃, m₃, ys', i + 1, rfl, W.frame _ _ _ hst₂ fun b hb o e => hk₃ b o (fun h => hCf (h ▸ hb)) (fun h => hDf (h ▸ hb)) e, hacc₃, hPm₃, hn₃, ?_, hlt, rfl, fun b o hbC hbD hbw e => hk₃ b o hbC hbD (hk₂ b o hbw hbC (hk b o hbC hbD hbw e))⟩
      rw [List.take_add_one, hx, List.flatMap_append, ← List.append_assoc]
      simpa using hd₃
    · cases r with
      | none => exact h₁.elim
      | some v => exact wpAny_bind (wpAny_mono h₁ (fun _ s₂ h₂ => wpAny_bind (wpAny_mono h₂ (fun _ s₃ h₃ => h₃) fun _ _ e => e)) fun _ _ e => e)

theorem compStart1 {elt target iter : Expr} {g : Comprehension} {ifs : List Expr} {scope : Scope} {pos : Pos} {it acc : Value} {env : Env}
    (h0 : codeAny (model prog w) A (.compLoop (.ListComp elt [g, ⟨target, iter, ifs, 0⟩] scope pos) 1 it acc env) R s)
    (h : wpAny (model prog w) A (pyIter it) (fun it' s' => codeAny (model prog w) A (.compLoop (.ListComp elt [g, ⟨target, iter, ifs, 0⟩] scope pos) 1 it' acc env) R s')
      (notedBy (model prog w) A env fun x s' => R (.error x) s') s) :
    codeAny (model prog w) A (.compStart (.ListComp elt [g, ⟨target, iter, ifs, 0⟩] scope pos) 1 it acc env) R s := by
  refine codeAny_of_tree ?_
  show wpAny _ _ ((compStart (.ListComp elt [g, ⟨target, iter, ifs, 0⟩] scope pos) 1 it acc env).onRaise (fun x => do noteFrame x env; standAt theWindowsPlace)) _ _ s
  refine wpAny_notedAt ?_
  unfold compStart
  show wpAny _ _ (ask >>= _) _ _ s
  refine wpAny_bind (wpAny_askSetting (wpAny_ite ?_))
  split
  · first
      | exact wpAny_bind (wpAny_pure (wpAny_pure (And.intro rfl h0)))
      | exact wpAny_pure (And.intro rfl h0)
  · first
      | exact wpAny_bind (wpAny_rule (wpAny_bind (wpAny_standAt (wpAny_bind (wpAny_mono h (fun it' s' h' => wpAny_pure (And.intro rfl h')) fun _ _ x => x)))))
      | (refine wpAny_bind (wpAny_rule ?_); show wpAny _ _ (standAt iter.pos >>= _) _ _ s; exact wpAny_bind (wpAny_standAt (wpAny_bind (wpAny_mono h (fun it' s' h' => wpAny_pure (And.intro rfl h')) fun _ _ x => x))))
end
section
variable {c : Cx} {B : Heap → Prop}
theorem bodyL_ok2 {ifs : List Expr} {elt : Expr} {D : Addr} {cenv : Env} {next : Code} {X : List Addr} {m : Str → Option Value} {s₂ : Shared} {ys : Array Value} {ds : List PyData} {p : Bool} {d : PyData} {Q : Fin → Shared → Prop} {E : Value → Shared → Prop}
    (hDC : D ≠ cenv.locals) (hDX : D ∈ X) (hn : s₂.heap.Ns cenv.locals m) (hacc : s₂.heap.PlainList D ys) (hd : RdL X s₂.heap ys.toList ds) (hsz : ds.length ≤ sizeLine)
    (hok : ItemOk c B ifs elt cenv X m s₂.heap p d)
    (hQ : ∀ h₃ tk ys', h₃.Ns cenv.locals m → h₃.PlainList D ys' → RdL X h₃ ys'.toList (ds ++ if p then [d] else []) → (∀ b o, b ≠ cenv.locals → b ≠ D → s₂.heap.get? b = some o → h₃.get? b = some o) →
      Q (.again next) { s₂ with heap := h₃, toks := tk }) : wpAny c.M c.A (bodyL ifs elt (.ref D) cenv next) Q E s₂ := by
  unfold bodyL
  refine wpAny_bind (hok.tests s₂ _ _ (fun _ _ e => e) fun s₃ k₃ => ?_)
  have hr3 := k₃.rest
  cases hp : p with
  | false =>
    subst hp
    simp only [Bool.false_eq_true, if_false]
    refine wpAny_pure ?_
    rw [hr3]
    exact hQ s₃.heap s₃.toks ys (hn.keeps k₃.keep) (hacc.at fun o e => k₃.keep _ o e) (by simpa using hd.keep k₃.keep) fun b o _ _ e => k₃.keep b o e
  | true =>
    subst hp
    simp only [if_true]
    refine wpAny_bind (wpAny_bind (hok.elt rfl s₃ _ _ k₃.keep fun v s₄ k₄ r₄ => ?_))
    have hr4 := k₄.rest
    have k := k₃.trans k₄
    have hacc₄ : s₄.heap.PlainList D ys := hacc.at fun o e => k.keep _ o e
    refine wpAny_bind (wpAny_list_append_plain (hsz := by have := hd.length; simp at this; omega) hacc₄ fun h₅ hl₅ hs₅ => wpAny_pure (wpAny_pure ?_))
    have e : s₄ = { s₂ with heap := s₄.heap, toks := s₄.toks } := k.rest
    have e' : ({ s₄ with heap := h₅ } : Shared) = { s₂ with heap := h₅, toks := s₄.toks } := by rw [e]
    rw [e']
    refine hQ h₅ _ (ys.push v) ((hn.keeps k.keep).sameBut hs₅ hDC.symm) hl₅ ?_ fun b o _ hbD e => hs₅.extBut b o hbD (k.keep b o e)
    have r : RdL X s₄.heap (ys.toList ++ [v]) (ds ++ [d]) := (hd.keep k.keep).append (.cons r₄ .nil)
    simpa using r.keepX (KeepX.ofSameBut hs₅ hDX)
end
end Mine
end

section
open PySem PySem.W PyProof.Rows PySem.SeqAt
set_option Elab.async false
set_option maxRecDepth 100000
set_option linter.unusedVariables false
namespace Mine
theorem flat2_le {α β : Type} (g : α → List β) (n : Nat) (h : ∀ x, (g x).length ≤ n) : ∀ l : List α, (l.flatMap g).length ≤ l.length * n
  | [] => by simp
  | a :: l => by
    have := flat2_le g n h l
    have := h a
    rw [List.flatMap_cons, List.length_append, List.length_cons, Nat.succ_mul]; omega
theorem leC {scope : Scope} {cl : List (Str × Addr)} {C : Addr} {env : Env} {x : Str} (h : scope.names.lookup x = some .local) (hk : scope.kind = .function) : localEnv (compEnvC scope cl C env) [x] := by
  refine ⟨fun y hy => ?_, by simp [compEnvC, relabel, hk]⟩
  rw [List.mem_singleton.mp hy]; exact lookup_relabel_local h
section
variable {c : Cx} {B : Heap → Prop}
theorem comp_core2 {elt iter target t1 i1 : Expr} {f1 : List Expr} {scope : Scope} {pos : Pos} {x1 y1 : Str} {cl : List (Str × Addr)} {α β : Type} {xs : List α} {zs : List β} {e1 : α → PyData} {e2 : β → PyData} {p : α → β → Bool} {f : α → β → PyData} {s : Shared} {E : Value → Shared → Prop}
    {RR : Value → Addr → Result → Shared → Prop} (O : c.Ok B) (hB : BMono B) (hsrc : Src c iter target [x1] xs (fun x => [e1 x]))
    (hsrc1 : ∀ x ∈ xs, ∀ C X m v h, c.Sub (inner c (compEnvC scope cl C c.env) X (bindTo m [x1] [v]) h) → (inner c (compEnvC scope cl C c.env) X (bindTo m [x1] [v]) h).Ok B → Rd X h v (e1 x) →
      Src (inner c (compEnvC scope cl C c.env) X (bindTo m [x1] [v]) h) i1 t1 [y1] zs (fun y => [e2 y])) (hfold1 : ∀ env x, foldedSetIterable i1 env x = pure x)
    (hcell : ∀ y ∈ scope.names, y.2 ≠ .cell) (hkind : scope.kind = .function) (htn : scope.names.lookup x1 = some .local) (htn1 : scope.names.lookup y1 = some .local) (hxy : (x1 == y1) = false) (hsz : xs.length * zs.length ≤ sizeLine)
    (hel : ∀ x ∈ xs, ∀ y ∈ zs, ∀ C X m v w h, c.Sub (inner c (compEnvC scope cl C c.env) X (bindTo m [y1] [w]) h) → (inner c (compEnvC scope cl C c.env) X (bindTo m [y1] [w]) h).Ok B → m x1 = some v → Rd X h v (e1 x) → Rd X h w (e2 y) →
      ItemOk c B f1 elt (compEnvC scope cl C c.env) X (bindTo m [y1] [w]) h (p x y) (f x y))
    (hk : Keep c.h s.heap)
    (hRR : ∀ D C s' m', Kp s s' → s.heap.get? C = none → s'.heap.Ns C m' → RdP (C :: c.X) s'.heap (.ref D) (xs.flatMap fun x => zs.flatMap fun y => if p x y then [f x y] else []) → RR (.ref D) C (.ok .next) s') :
    wpAny c.M c.A (eval iter c.env) (fun x s₁ => wpAny c.M c.A (pyIter x) (fun it s₂ => wpAny c.M c.A (newList []) (fun acc s₃ => wpAny c.M c.A (newFunctionEnv scope c.env.globals cl [] c.env.qual none .none (some c.env)) (fun cenv s₄ =>
      codeAny c.M c.A (.compStart (.ListComp elt [⟨target, iter, [], 0⟩, ⟨t1, i1, f1, 0⟩] scope pos) 0 it acc { cenv with scope := relabel scope c.env }) (RR acc cenv.locals) s₄) E s₃) E s₂) E s₁) E s := by
  refine hsrc s _ _ hk fun I fp wr St s₂ h₀ K₂ hk₀ hk₂ hfp hwr hst W => ?_
  refine wpAny_newObj_type (hd := by size_fits) (wpAny_newFunctionEnv hcell (by intro y hy; simp at hy) (fun h₁ hns₁ hsb₁ => ?_) hkind)
  dsimp only at hns₁ hsb₁ ⊢
  generalize hH2 : s₂.heap.push { cls := .type "list", dict := none, data := .seq ([] : List Value).toArray } = H2 at hns₁ hsb₁ ⊢
  have hC : H2.objs.size = s₂.heap.objs.size + 1 := by rw [← hH2, Heap.size_push]
  have hDC : s₂.heap.objs.size ≠ H2.objs.size := by rw [hC]; exact Nat.ne_of_lt (Nat.lt_succ_self _)
  have fresh : ∀ a, s₂.heap.objs.size ≤ a → s₂.heap.get? a = none := fun a ha => by
    cases e : s₂.heap.get? a with
    | none => rfl
    | some o' => exact absurd (Heap.lt_size e) (Nat.not_lt.mpr ha)
  have hDn : s₂.heap.get? s₂.heap.objs.size = none := fresh _ (Nat.le_refl _)
  have hCn : s₂.heap.get? H2.objs.size = none := fresh _ (by rw [hC]; exact Nat.le_succ _)
  have none_of : ∀ {b : Addr} {g : Heap}, Keep g s₂.heap → s₂.heap.get? b = none → g.get? b = none := fun {b g} k e => by
    cases q : g.get? b with
    | none => rfl
    | some o => rw [k b o q] at e; cases e
  have below : ∀ b o, s₂.heap.get? b = some o → b ≠ H2.objs.size ∧ b ≠ s₂.heap.objs.size := fun b o e => ⟨fun q => (by rw [q, hCn] at e; cases e), fun q => (by rw [q, hDn] at e; cases e)⟩
  have hDf : s₂.heap.objs.size ∉ fp := fun hm => by obtain ⟨⟨o, e⟩, _⟩ := hfp _ hm; rw [hDn] at e; cases e
  have hCf : H2.objs.size ∉ fp := fun hm => by obtain ⟨⟨o, e⟩, _⟩ := hfp _ hm; rw [hCn] at e; cases e
  have old : ∀ b o, s₂.heap.get? b = some o → h₁.get? b = some o := fun b o e => hsb₁.extBut b o (below b o e).1 (Heap.get?_push_of_some _ (hH2 ▸ Heap.get?_push_of_some _ e))
  have hacc : h₁.PlainList s₂.heap.objs.size #[] := ⟨_, hsb₁.extBut _ _ hDC (Heap.get?_push_of_some _ (hH2 ▸ Heap.get?_push_size _ rfl))⟩
  have hst₁ : St 0 h₁ := W.frame _ _ _ hst fun b _ o e => old b o e
  have hwrs : ∀ b ∈ wr, s.heap.get? b = none := fun b hb => by
    cases q : s.heap.get? b with
    | none => rfl
    | some o => have := hwr b hb; rw [hk₀ b o q] at this; cases this
  have hkc : Keep c.h s₂.heap := fun b o e => K₂.keep b o (hk b o e)
  have loop : ∀ s₃ : Shared, s₃ = { s₂ with heap := h₁, toks := s₂.toks + ([] : List (Str × Value)).length } →
      codeAny c.M c.A (.compLoop (.ListComp elt [⟨target, iter, [], 0⟩, ⟨t1, i1, f1, 0⟩] scope pos) 0 (.ref I) (.ref s₂.heap.objs.size) (compEnvC scope cl H2.objs.size c.env)) (RR (.ref s₂.heap.objs.size) H2.objs.size) s₃ := by
    rintro s₃ rfl
    refine comp_loop (cenv := compEnvC scope cl H2.objs.size c.env) (X := H2.objs.size :: s₂.heap.objs.size :: (wr ++ c.X)) (g := fun x => zs.flatMap fun y => if p x y then [f x y] else []) (ds₀ := []) (turn20 ..) W
      (leC htn hkind) hDC hDf hCf ?_ ?_ hst₁ hacc .nil hns₁ ?_
    · rintro b (rfl | rfl | hb)
      · exact .head _
      · exact .tail _ (.head _)
      · exact .tail _ (.tail _ (List.mem_append.mpr (.inl hb)))
    · intro i x vs s₃ m ys ds Q E' hx hG hlen hn₃ hacc₃ hd₃ hds hk₃ hst₃ hQ
      have hmem : x ∈ xs := List.mem_of_getElem? hx
      have up : ∀ b o, b ∉ (H2.objs.size :: s₂.heap.objs.size :: (wr ++ c.X)) → s₂.heap.get? b = some o → s₃.heap.get? b = some o := fun b o hb e =>
        hk₃ b o (fun q => hb (q ▸ .head _)) (fun q => hb (q ▸ .tail _ (.head _))) (fun q => hb (.tail _ (.tail _ (List.mem_append.mpr (.inl q))))) (old b o e)
      have hnew : ∀ {g : Heap}, Keep s.heap g → Keep g s₂.heap → (∀ b ∈ wr, g.get? b = none) → Keep (hideAll g c.X) (hideAll s₃.heap (H2.objs.size :: s₂.heap.objs.size :: (wr ++ c.X))) := fun {g} k1 k2 k3 =>
        sub_new (fun b hb => by
          rcases List.mem_cons.mp hb with rfl | hb
          · exact .inr (none_of k2 hCn)
          · rcases List.mem_cons.mp hb with rfl | hb
            · exact .inr (none_of k2 hDn)
            · rcases List.mem_append.mp hb with hb | hb
              · exact .inr (k3 b hb)
              · exact .inl hb) fun b o hb e => up b o hb (k2 b o e)
      have hsub : c.Sub (inner c (compEnvC scope cl H2.objs.size c.env) (H2.objs.size :: s₂.heap.objs.size :: (wr ++ c.X)) (bindTo m [x1] vs) s₃.heap) := fun b o e =>
        hnew (fun _ _ e => e) K₂.keep hwrs b o (hid_keepX (Keep.toX hk) b o e)
      have hlive : Live (H2.objs.size :: s₂.heap.objs.size :: (wr ++ c.X)) s₃.heap := fun b hb => by
        rcases List.mem_cons.mp hb with rfl | hb
        · obtain ⟨o, _, _, e, _⟩ := hn₃; exact ⟨o, e⟩
        · rcases List.mem_cons.mp hb with rfl | hb
          · obtain ⟨_, e⟩ := hacc₃; exact ⟨_, e⟩
          · rcases List.mem_append.mp hb with hb | hb
            · exact W.live _ _ hst₃ b hb
            · obtain ⟨o, e⟩ := O.live b hb
              have e2 := hkc b o e
              refine ⟨o, hk₃ b o (below b o e2).1 (below b o e2).2 (fun q => ?_) (old b o e2)⟩
              have := hwrs b q; rw [hk b o e] at this; cases this
      have hok := inner_ok O hB hsub hn₃ (.head _) hlive (show (relabel scope c.env).kind = .function from hkind)
      have hG' : RdL (H2.objs.size :: s₂.heap.objs.size :: (wr ++ c.X)) s₃.heap vs [e1 x] := by
        obtain ⟨as, q⟩ := hG
        exact ⟨as, ReadsAll.keeps (hnew hk₀ hk₂ hwr) q⟩
      obtain ⟨v, vs', rfl, rv, rn⟩ := hG'.inv_cons
      obtain rfl := rn.inv_nil
      have hdl : ds.length ≤ i * zs.length := by
        rw [hds, List.nil_append]
        refine Nat.le_trans (flat2_le (fun x => zs.flatMap fun y => if p x y then [f x y] else []) zs.length (fun x => flat_le (p x) (f x) zs) _) ?_
        rw [List.length_take]; exact Nat.mul_le_mul_right _ (Nat.min_le_left _ _)
      have hix : i < xs.length := (List.getElem?_eq_some_iff.mp hx).1
      have S1 := hsrc1 x hmem _ _ m v _ hsub hok rv
      unfold bodyN
      refine wpAny_bind (wpAny_mono (S1 s₃ (fun it s₄ => wpAny c.M c.A (runOwn (.compStart (.ListComp elt [⟨target, iter, [], 0⟩, ⟨t1, i1, f1, 0⟩] scope pos) 1 it (.ref s₂.heap.objs.size) (compEnvC scope cl H2.objs.size c.env)) (compEnvC scope cl H2.objs.size c.env) >>= fun _ => again (.compLoop (.ListComp elt [⟨target, iter, [], 0⟩, ⟨t1, i1, f1, 0⟩] scope pos) 0 (.ref I) (.ref s₂.heap.objs.size) (compEnvC scope cl H2.objs.size c.env))) Q E' s₄) E' (fun _ _ e => e) ?_) (fun xv s₄ h₄ => wpAny_bind (wpAny_standAt ?_)) fun _ _ e => e)
      · intro I2 fp2 wr2 St2 s₄ h₀' K₄ hk₀' hk₄ hfp2 hwr2 hst2 W2
        have hX1 : ∀ b ∈ fp2, b ≠ H2.objs.size ∧ b ≠ s₂.heap.objs.size := fun b hb => ⟨fun q => (hfp2 b hb).2 (q ▸ .head _), fun q => (hfp2 b hb).2 (q ▸ .tail _ (.head _))⟩
        have hwr3 : ∀ b ∈ wr2, s₃.heap.get? b = none := fun b hb => by
          cases q : s₃.heap.get? b with
          | none => rfl
          | some o => have := hwr2 b hb; rw [hk₀' b o q] at this; cases this
        have X12 : ∀ {g : Heap}, (∀ b ∈ wr2, g.get? b = none) → ∀ b ∈ (H2.objs.size :: s₂.heap.objs.size :: (wr2 ++ (wr ++ c.X))), b ∈ (H2.objs.size :: s₂.heap.objs.size :: (wr ++ c.X)) ∨ g.get? b = none := fun hg b hb => by
          rcases List.mem_cons.mp hb with rfl | hb
          · exact .inl (.head _)
          · rcases List.mem_cons.mp hb with rfl | hb
            · exact .inl (.tail _ (.head _))
            · rcases List.mem_append.mp hb with hb | hb
              · exact .inr (hg b hb)
              · exact .inl (.tail _ (.tail _ hb))
        have X21 : ∀ b ∈ (H2.objs.size :: s₂.heap.objs.size :: (wr ++ c.X)), b ∈ (H2.objs.size :: s₂.heap.objs.size :: (wr2 ++ (wr ++ c.X))) := fun b hb => by
          rcases List.mem_cons.mp hb with rfl | hb
          · exact .head _
          · rcases List.mem_cons.mp hb with rfl | hb
            · exact .tail _ (.head _)
            · exact .tail _ (.tail _ (List.mem_append.mpr (.inr hb)))
        have hd₄ : RdL (H2.objs.size :: s₂.heap.objs.size :: (wr2 ++ (wr ++ c.X))) s₄.heap ys.toList ds := by
          obtain ⟨as, q⟩ := hd₃
          exact ⟨as, ReadsAll.keeps (sub_new (X12 hwr3) fun b o _ e => K₄.keep b o e) q⟩
        have hacc₄ : s₄.heap.PlainList s₂.heap.objs.size ys := hacc₃.at fun o e => K₄.keep _ o e
        have hn₄ := hn₃.keeps K₄.keep
        refine wpAny_bind (wpAny_runOwn ?_)
        have loop2 : codeAny c.M c.A (.compLoop (.ListComp elt [⟨target, iter, [], 0⟩, ⟨t1, i1, f1, 0⟩] scope pos) 1 (.ref I2) (.ref s₂.heap.objs.size) (compEnvC scope cl H2.objs.size c.env)) (fun r s' => match r with | .ok f => wpAny c.M c.A (again (.compLoop (.ListComp elt [⟨target, iter, [], 0⟩, ⟨t1, i1, f1, 0⟩] scope pos) 0 (.ref I) (.ref s₂.heap.objs.size) (compEnvC scope cl H2.objs.size c.env))) Q E' s' | .error e => cameBackBy c.M c.A (compEnvC scope cl H2.objs.size c.env) E' e s') s₄ := by
          refine comp_loopP (fun m1 => m1 x1 = some v) (cenv := compEnvC scope cl H2.objs.size c.env) (X := H2.objs.size :: s₂.heap.objs.size :: (wr2 ++ (wr ++ c.X))) (g := fun y => if p x y then [f x y] else []) (ds₀ := ds) (turn21 ..) W2
            (leC htn1 hkind) hDC (fun q => (hX1 _ q).2 rfl) (fun q => (hX1 _ q).1 rfl) ?_ ?_ hst2 hacc₄ hd₄ hn₄ (bind1 m x1 v).self ?_
          · rintro b (rfl | rfl | hb)
            · exact .head _
            · exact .tail _ (.head _)
            · exact .tail _ (.tail _ (List.mem_append.mpr (.inl hb)))
          · intro j y ws s₅ m5 ys5 ds5 Q5 E5 hm5 hy hG5 hlen5 hn₅ hacc₅ hd₅ hds5 hk₅ hst₅ hQ5
            have hymem : y ∈ zs := List.mem_of_getElem? hy
            have up5 : ∀ {g : Heap}, Keep g s₄.heap → ∀ b o, b ∉ (H2.objs.size :: s₂.heap.objs.size :: (wr2 ++ (wr ++ c.X))) → g.get? b = some o → s₅.heap.get? b = some o := fun k b o hb e =>
              hk₅ b o (fun q => hb (q ▸ .head _)) (fun q => hb (q ▸ .tail _ (.head _))) (fun q => hb (.tail _ (.tail _ (List.mem_append.mpr (.inl q))))) (k b o e)
            have K35 : Keep (hideAll s₃.heap (H2.objs.size :: s₂.heap.objs.size :: (wr ++ c.X))) (hideAll s₅.heap (H2.objs.size :: s₂.heap.objs.size :: (wr2 ++ (wr ++ c.X)))) := sub_new (X12 hwr3) (up5 K₄.keep)
            have hG5' : RdL (H2.objs.size :: s₂.heap.objs.size :: (wr2 ++ (wr ++ c.X))) s₅.heap ws [e2 y] := by
              obtain ⟨as, q⟩ := hG5
              exact ⟨as, ReadsAll.keeps (sub_new (X12 hwr2) (up5 hk₄)) q⟩
            obtain ⟨w, ws', rfl, rw', rn'⟩ := hG5'.inv_cons
            obtain rfl := rn'.inv_nil
            have rv5 : Rd (H2.objs.size :: s₂.heap.objs.size :: (wr2 ++ (wr ++ c.X))) s₅.heap v (e1 x) := let ⟨as, q⟩ := rv; ⟨as, Reads.keeps K35 q⟩
            have hsub5 : c.Sub (inner c (compEnvC scope cl H2.objs.size c.env) (H2.objs.size :: s₂.heap.objs.size :: (wr2 ++ (wr ++ c.X))) (bindTo m5 [y1] [w]) s₅.heap) := fun b o e => K35 b o (hsub b o e)
            have hlive5 : Live (H2.objs.size :: s₂.heap.objs.size :: (wr2 ++ (wr ++ c.X))) s₅.heap := fun b hb => by
              rcases List.mem_cons.mp hb with rfl | hb
              · obtain ⟨o, _, _, e, _⟩ := hn₅; exact ⟨o, e⟩
              · rcases List.mem_cons.mp hb with rfl | hb
                · obtain ⟨_, e⟩ := hacc₅; exact ⟨_, e⟩
                · by_cases q2 : b ∈ wr2
                  · exact W2.live _ _ hst₅ b q2
                  · rcases List.mem_append.mp hb with hb | hb
                    · exact absurd hb q2
                    · obtain ⟨o, e⟩ := hlive b (.tail _ (.tail _ hb))
                      by_cases qC : b = H2.objs.size
                      · subst qC; obtain ⟨o, _, _, e, _⟩ := hn₅; exact ⟨o, e⟩
                      · by_cases qD : b = s₂.heap.objs.size
                        · subst qD; obtain ⟨_, e⟩ := hacc₅; exact ⟨_, e⟩
                        · exact ⟨o, hk₅ b o qC qD q2 (K₄.keep b o e)⟩
            have hok5 := inner_ok O hB hsub5 hn₅ (.head _) hlive5 (show (relabel scope c.env).kind = .function from hkind)
            have hds5l : ds5.length ≤ sizeLine := by
              have hj : j < zs.length := (List.getElem?_eq_some_iff.mp hy).1
              have e1 : ((zs.take j).flatMap fun y => if p x y then [f x y] else []).length ≤ j := Nat.le_trans (flat_le (p x) (f x) _) (by rw [List.length_take]; exact Nat.min_le_left _ _)
              have e2 : (i + 1) * zs.length ≤ xs.length * zs.length := Nat.mul_le_mul_right _ hix
              have e3 : (i + 1) * zs.length = i * zs.length + zs.length := Nat.succ_mul ..
              rw [hds5, List.length_append]; omega
            refine bodyL_ok2 (c := c) hDC (.tail _ (.head _)) hn₅ hacc₅ hd₅ hds5l (hel x hmem y hymem _ _ m5 v w _ hsub5 hok5 hm5 rv5 rw') fun h₆ tk₆ ys₆ hn₆ hl₆ hd₆ hk₆ => hQ5 h₆ tk₆ _ ys₆ ((bind1 m5 y1 w).get hxy hm5) hn₆ hl₆ hd₆ hk₆
          · intro h₅ tk₅ m₅ ys₅ hn₅ hl₅ hd₅ hk₅
            refine wpAny_pure ?_
            have e' : ({ s₄ with heap := h₅, toks := tk₅ } : Shared) = { s₃ with heap := h₅, toks := tk₅ } := by rw [K₄.rest]
            rw [e']
            refine hQ h₅ tk₅ m₅ ys₅ hn₅ hl₅ (hd₅.sub X21) fun b o hbC hbD e => hk₅ b o hbC hbD (fun q => ?_) (K₄.keep b o e)
            have := hwr3 b q; rw [e] at this; cases this
        exact compStart1 loop2 (W2.self 0 _ _ _ hst2 loop2)
      · rw [hfold1]
        exact wpAny_bind (wpAny_pure (wpAny_bind (wpAny_holding h₄)))
    · intro h' tk m' ys hn' hl' hd' hk'
      have hr := K₂.rest
      have e' : ({ s₂ with heap := h', toks := tk } : Shared) = { s with heap := h', toks := tk } := by rw [hr]
      rw [e']
      refine hRR _ _ _ m' (.both s tk fun b o e => ?_) (none_of K₂.keep hCn) hn' ?_
      · have e2 := K₂.keep b o e
        refine hk' b o (below b o e2).1 (below b o e2).2 (fun q => ?_) (old b o e2)
        have := hwrs b q; rw [e] at this; cases this
      · refine ⟨_, ys, rfl, hl'.at fun o e => hid_get.mpr ⟨fun hm => ?_, e⟩, ?_⟩
        · rcases List.mem_cons.mp hm with q | hm
          · exact hDC q
          · obtain ⟨o, e⟩ := O.live _ hm
            have := hkc _ o e; rw [hDn] at this; cases this
        · rw [List.nil_append] at hd'
          refine hd'.sub fun b hb => ?_
          rcases List.mem_cons.mp hb with rfl | hb
          · exact .head _
          · exact .tail _ (.tail _ (List.mem_append.mpr (.inr hb)))
  exact codeAny_compStart_list (loop _ rfl) (W.self 0 _ _ _ hst₁ (loop _ rfl))

end
end Mine
end

section
open PySem PySem.W PyProof.Rows PySem.SeqAt
set_option Elab.async false
set_option maxRecDepth 100000
set_option linter.unusedVariables false
namespace Mine
section
variable {c : Cx} {B : Heap → Prop}
theorem evp_comp {elt iter target : Expr} {ifs : List Expr} {scope : Scope} {pos : Pos} {tn : List Str} {cl : List (Str × Addr)} {α : Type} {xs : List α} {enc : α → List PyData} {p : α → Bool} {f : α → PyData}
    (O : c.Ok B) (hB : BMono B) (hsrc : Src c iter target tn xs enc) (K : CompOk c scope tn cl iter) (hsz : xs.length ≤ sizeLine)
    (hel : ∀ x ∈ xs, ∀ C X m vs h, c.Sub (inner c (compEnvC scope cl C c.env) X (bindTo m tn vs) h) → (inner c (compEnvC scope cl C c.env) X (bindTo m tn vs) h).Ok B → RdL X h vs (enc x) → vs.length = tn.length →
      ItemOk c B ifs elt (compEnvC scope cl C c.env) X (bindTo m tn vs) h (p x) (f x)) :
    EvP c (.ListComp elt [⟨target, iter, ifs, 0⟩] scope pos) (fun h v => RdP c.X h v ((xs.filter p).map f)) := fun s Q E hk hQ => by
  show wpAny c.M c.A (comprehension (.ListComp elt [⟨target, iter, ifs, 0⟩] scope pos) scope c.env _ (newList []) false (eval iter c.env) none) Q E s
  refine wpAny_comprehension_free rfl K.fold K.clos K.kind K.names (comp_core O hB hsrc K.cell K.kind K.tn hsz hel hk ?_)
  intro D C s' m' k hC hn r
  refine ⟨m', hn, fun h' hs' => hQ _ _ ?_ ?_⟩
  · exact k.but hC hs'
  · exact (r.keepX (KeepX.ofSameBut hs' (.head _))).sub fun b hb => .tail _ hb

theorem st_assign_comp2 {elt iter target t1 i1 : Expr} {f1 : List Expr} {scope : Scope} {pos spos py : Pos} {y x1 y1 : Str} {cl : List (Str × Addr)} {α β : Type} {xs : List α} {zs : List β} {e1 : α → PyData} {e2 : β → PyData} {p : α → β → Bool} {f : α → β → PyData} {s : Shared} {Q : Flow → Shared → Prop} {E : Value → Shared → Prop}
    (O : c.Ok B) (hB : BMono B) (hk : Keep c.h s.heap) (hsrc : Src c iter target [x1] xs (fun x => [e1 x])) (K : CompOk c scope [x1, y1] cl iter)
    (hsrc1 : ∀ x ∈ xs, ∀ C X m v h, c.Sub (inner c (compEnvC scope cl C c.env) X (bindTo m [x1] [v]) h) → (inner c (compEnvC scope cl C c.env) X (bindTo m [x1] [v]) h).Ok B → Rd X h v (e1 x) →
      Src (inner c (compEnvC scope cl C c.env) X (bindTo m [x1] [v]) h) i1 t1 [y1] zs (fun y => [e2 y])) (hfold1 : ∀ env x, foldedSetIterable i1 env x = pure x) (hxy : (x1 == y1) = false) (hsz : xs.length * zs.length ≤ sizeLine)
    (hel : ∀ x ∈ xs, ∀ y ∈ zs, ∀ C X m v w h, c.Sub (inner c (compEnvC scope cl C c.env) X (bindTo m [y1] [w]) h) → (inner c (compEnvC scope cl C c.env) X (bindTo m [y1] [w]) h).Ok B → m x1 = some v → Rd X h v (e1 x) → Rd X h w (e2 y) →
      ItemOk c B f1 elt (compEnvC scope cl C c.env) X (bindTo m [y1] [w]) h (p x y) (f x y))
    (hy : c.env.kindOf y = some .local) (hs : swapsWith (.ListComp elt [⟨target, iter, [], 0⟩, ⟨t1, i1, f1, 0⟩] scope pos) (some (.Name y py)) spos.line c.env = pure true)
    (h : StoreTo c y (fun h' v => RdP c.X h' v (xs.flatMap fun x => zs.flatMap fun y => if p x y then [f x y] else [])) Q s) :
    wpAny c.M c.A (exec (.Assign [.Name y py] (.ListComp elt [⟨target, iter, [], 0⟩, ⟨t1, i1, f1, 0⟩] scope pos) spos) c.env) Q E s := by
  rw [exec_Assign_Name_used _ _ _ _ hs]
  refine wpAny_bind (wpAny_standAt (wpAny_bind ?_))
  show wpAny c.M c.A (do let _ ← comprehension (.ListComp elt [⟨target, iter, [], 0⟩, ⟨t1, i1, f1, 0⟩] scope pos) scope c.env _ (newList []) false (eval iter c.env) (some (assign (.Name y py) c.env))) _ _ s
  refine wpAny_bind (wpAny_mono (wpAny_comprehension_free (Q := fun _ s' => Q .next s') rfl K.fold K.clos K.kind K.names (comp_core2 O hB hsrc hsrc1 hfold1 K.cell K.kind (K.tn _ (.head _)) (K.tn _ (.tail _ (.head _))) hxy hsz hel hk ?_)) (fun _ s' hq => wpAny_pure (wpAny_pure hq)) fun _ _ e => e)
  intro D C s' m' k hC hn r
  have hLC : c.env.locals ≠ C := by rintro e; obtain ⟨o, _, _, ho, _⟩ := O.ns; have := hk _ _ ho; rw [e, hC] at this; cases this
  refine wpAny_assign_Name (wpAny_storeName_local hy (O.ns.keeps fun b o e => k.keep b o (hk b o e)) (fun h₂ hn₂ hs₂ => ?_) (by rw [O.kind]; rfl))
  refine ⟨m', hn.sameBut hs₂ (Ne.symm hLC), fun h₃ hs₃ => ?_⟩
  have e : ({ s' with heap := h₃, toks := s'.toks + 1 } : Shared) = { s with heap := h₃, toks := s'.toks + 1 } := by rw [k.rest]
  show Q .next { s' with heap := h₃, toks := s'.toks + 1 }
  rw [e]
  refine h _ h₃ _ (fun b o hb e => hs₃.extBut b o (fun q => ?_) (hs₂.extBut b o hb (k.keep b o e))) ?_ (hn₂.sameBut hs₃ hLC)
  · rw [q, hC] at e; cases e
  · exact ((r.keepX (KeepX.ofSameBut hs₂ (.tail _ O.mem))).keepX (KeepX.ofSameBut hs₃ (.head _))).sub fun b hb => .tail _ hb

theorem go_letC2 {elt iter target t1 i1 : Expr} {f1 : List Expr} {scope : Scope} {pos spos py : Pos} {y x1 y1 : Str} {cl : List (Str × Addr)} {α β : Type} {xs : List α} {zs : List β} {e1 : α → PyData} {e2 : β → PyData} {p : α → β → Bool} {f : α → β → PyData} {F : Flow → Heap → Prop} {rest : List Stmt}
    (O : c.Ok B) (hB : BMono B) (hsrc : Src c iter target [x1] xs (fun x => [e1 x])) (K : CompOk c scope [x1, y1] cl iter)
    (hsrc1 : ∀ x ∈ xs, ∀ C X m v h, c.Sub (inner c (compEnvC scope cl C c.env) X (bindTo m [x1] [v]) h) → (inner c (compEnvC scope cl C c.env) X (bindTo m [x1] [v]) h).Ok B → Rd X h v (e1 x) →
      Src (inner c (compEnvC scope cl C c.env) X (bindTo m [x1] [v]) h) i1 t1 [y1] zs (fun y => [e2 y])) (hfold1 : ∀ env x, foldedSetIterable i1 env x = pure x) (hxy : (x1 == y1) = false) (hsz : xs.length * zs.length ≤ sizeLine)
    (hel : ∀ x ∈ xs, ∀ y ∈ zs, ∀ C X m v w h, c.Sub (inner c (compEnvC scope cl C c.env) X (bindTo m [y1] [w]) h) → (inner c (compEnvC scope cl C c.env) X (bindTo m [y1] [w]) h).Ok B → m x1 = some v → Rd X h v (e1 x) → Rd X h w (e2 y) →
      ItemOk c B f1 elt (compEnvC scope cl C c.env) X (bindTo m [y1] [w]) h (p x y) (f x y))
    (hy : c.env.kindOf y = some .local) (hs : swapsWith (.ListComp elt [⟨target, iter, [], 0⟩, ⟨t1, i1, f1, 0⟩] scope pos) (some (.Name y py)) spos.line c.env = pure true)
    (h : ∀ v m' h', Up c.m m' y v → (c.at m' h').Ok B → Stp c (c.at m' h') [c.env.locals] → RdP c.X h' v (xs.flatMap fun x => zs.flatMap fun y => if p x y then [f x y] else []) → Go (c.at m' h') rest F) :
    Go c (.Assign [.Name y py] (.ListComp elt [⟨target, iter, [], 0⟩, ⟨t1, i1, f1, 0⟩] scope pos) spos :: rest) F :=
  ⟨fun s Q E hc hQ => wpAny_execs_cons (st_assign_comp2 O hB (fun b o e => by rw [hc]; exact e) hsrc K hsrc1 hfold1 hxy hsz hel hy hs fun v h' tk hk' hp hn => by
    have hk2 : ∀ b o, b ≠ c.env.locals → c.h.get? b = some o → h'.get? b = some o := fun b o hb e => hk' b o hb (hc ▸ e)
    exact (h v _ h' (up_upd _ _ _) (O.step hB hk2 hn) ⟨hid_keepX (step_keep O hk2), fun b o hb e => hk2 b o (fun q => hb (q ▸ .head _)) e⟩ hp).run _ _ _ rfl fun f h2 tk2 hF => hQ f h2 tk2 hF)⟩
theorem stable_rdp {ds : List PyData} : Stable c (fun h v => RdP c.X h v ds) := fun h h' v k r => r.keepX k

theorem ints_are {X : List Addr} {h : Heap} {vs : List Value} {ns : List Int} (r : RdL X h vs (ns.map PyData.int)) : IntsAre vs ns := by
  induction ns generalizing vs with
  | nil => rw [r.inv_nil]; exact .nil
  | cons n ns ih =>
    obtain ⟨v, vs', rfl, r1, r2⟩ := r.inv_cons
    obtain ⟨t, rfl⟩ := r1.inv_int
    exact .cons _ _ (ih r2)
theorem ev_count {o e : Expr} {apos pos : Pos} {ns : List Int} {k : Int} (h1 : EvP c o (fun h v => RdP c.X h v (ns.map PyData.int))) (h2 : Ev c e (.int k)) (hbase : attributeBase o (Str.ofString "count") c.env (eval o c.env) = eval o c.env) (hline : (apos.endLine == pos.line) = true)
    (hs : starEach [e] c.env = [(false, eval e c.env)]) : Ev c (.Call (.Attribute o (Str.ofString "count") apos) [e] [] pos) (.int (ns.count k)) := fun s Q E kk h =>
  Call_method1 hbase hs hline (h1 s _ _ kk fun v s₁ k₁ r₁ => by
    obtain ⟨a, items, rfl, hp, hr⟩ := r₁
    obtain ⟨n, e1⟩ := id hp
    have e1 := of_hideAll _ e1
    refine ⟨"list", _, F.plainAttrs_list, F.slot_list_count, F.type_list_count, ⟨_, e1, rfl⟩, (fun b e => by injection e with e; subst e; exact ⟨_, e1, rfl⟩), ?_⟩
    refine Calls.callWith_builtin rfl (Calls.evalArgs_plain (Calls.spliced_cons (h2 s₁ _ _ (fun b o e => k₁.keep b o (kk b o e)) fun v2 s₂ k₂ r₂ => Calls.spliced_nil ?_)))
    obtain ⟨t, rfl⟩ := r₂.inv_int
    have hl : s₂.heap.IsList a items.toList.toArray := (hp.at fun o e => k₂.keep _ o (of_hideAll _ e)).isList
    exact count_list_ints hl (ints_are hr) (h _ _ ((k₁.trans k₂).trans (.toks s₂ _)) (.int _ _)))
end
end Mine
end

section
open PySem PySem.W PyProof.Rows PySem.SeqAt
set_option Elab.async false
set_option maxRecDepth 100000
set_option linter.unusedVariables false
namespace Mine

abbrev Wd := Nat × Nat × Nat
def encW (t : Wd) : PyData := .tuple [.int t.1, .int t.2.1, .int t.2.2]
def wordOf (a b c d x y : Nat) : Wd := (x, (a * x + c * y) % 4, (b * x + d * y) % 4)
def addW (ws : List Wd) (t : Wd) : List Wd := if (!(ws.map encW).any fun y => PyData.eqv y (encW t)) then ws ++ [t] else ws
def wAt (a b c d : Nat) : Nat → List Wd
  | 0 => []
  | k + 1 => addW (wAt a b c d k) (wordOf a b c d (k / 4) (k % 4))
theorem wAt_len (a b c d : Nat) : ∀ k, (wAt a b c d k).length ≤ k
  | 0 => Nat.le_refl _
  | k + 1 => by
    have := wAt_len a b c d k
    unfold wAt addW
    split
    · rw [List.length_append]; simp; omega
    · omega
theorem lay_words : ∀ ws : List Wd, PyData.canLayAll0 (ws.map encW) = true
  | [] => by simp [PyData.canLayAll0]
  | t :: ws => by simp [PyData.canLayAll0, PyData.canLay0, encW, lay_words ws]
theorem lay_word (t : Wd) : (encW t).canLay0 = true := by simp [PyData.canLay0, PyData.canLayAll0, encW]
theorem dep_word (t : Wd) : (encW t).depth ≤ 64 := by simp [PyData.depth, PyData.depthAll, encW]
theorem fmod_nat (p q : Nat) : ((p : Nat) : Int).fmod (q : Nat) = ((p % q : Nat) : Int) := by
  rw [Int.fmod_eq_emod_of_nonneg _ (Int.natCast_nonneg q)]; rfl

section
variable {P : Params}
noncomputable def lawEnv (P : Params) (L fa : Addr) (cd : Value) : Env := envOfC (Str.ofString "law") (fdAt (KK P) 122).scope L fa cd
noncomputable def lawCx (P : Params) (prog : Program) (w : World) (A : Around) (L fa : Addr) (cd : Value) (X : List Addr) (m : Str → Option Value) (h : Heap) : Cx := ⟨prog, w, A, lawEnv P L fa cd, X, m, h⟩
def lawRest (k : Nat) : List Stmt := (bodyAt 14).drop k
theorem law_fd : (fdAt (KK P) 122).body = .stmts (bodyAt 14) := by kernel_rfl
theorem law_cells (L fa : Addr) (cd : Value) : (lawEnv P L fa cd).cells = [(Str.ofString "z", L + 6), (Str.ofString "weights", L + 5), (Str.ofString "d", L + 4), (Str.ofString "c", L + 3), (Str.ofString "b", L + 2), (Str.ofString "a", L + 1)] := by kernel_rfl

/-- the four digits stand in their cells -/
structure Dig (h : Heap) (X : List Addr) (L : Addr) (a b c d : Nat) : Prop where
  a : ∃ t, (hideAll h X).IsCell (L + 1) (some (.int a t))
  b : ∃ t, (hideAll h X).IsCell (L + 2) (some (.int b t))
  c : ∃ t, (hideAll h X).IsCell (L + 3) (some (.int c t))
  d : ∃ t, (hideAll h X).IsCell (L + 4) (some (.int d t))
theorem Dig.sub {c c2 : Cx} {L : Addr} {a b cc d : Nat} (D : Dig c.h c.X L a b cc d) (s : c.Sub c2) : Dig c2.h c2.X L a b cc d :=
  ⟨let ⟨t, q⟩ := D.a; ⟨t, cell_keep q s⟩, let ⟨t, q⟩ := D.b; ⟨t, cell_keep q s⟩, let ⟨t, q⟩ := D.c; ⟨t, cell_keep q s⟩, let ⟨t, q⟩ := D.d; ⟨t, cell_keep q s⟩⟩
theorem cell_un {h : Heap} {X : List Addr} {a : Addr} {v : Option Value} (q : (hideAll h X).IsCell a v) : h.IsCell a v := cell_keep q fun b o e => of_hideAll _ e

def WInv (aw : Addr) (a b c d k : Nat) (X : List Addr) (m : Str → Option Value) (h : Heap) : Prop := ∃ items, m (Str.ofString "words") = some (.ref aw) ∧ h.PlainList aw items ∧ RdL X h items.toList ((wAt a b c d k).map encW)

theorem evd {prog : Program} {w : World} {A : Around} {L fa : Addr} {cd : Value} {X : List Addr} {m : Str → Option Value} {h : Heap} {mg mb : Str → Option Value} {a b c d : Nat} (O : (lawCx P prog w A L fa cd X m h).Ok (Bs (KK P) mg mb)) (D : Dig h X L a b c d) :
    (∀ p, Ev (lawCx P prog w A L fa cd X m h) (.Name (Str.ofString "a") p) (.int a)) ∧ (∀ p, Ev (lawCx P prog w A L fa cd X m h) (.Name (Str.ofString "b") p) (.int b)) ∧ (∀ p, Ev (lawCx P prog w A L fa cd X m h) (.Name (Str.ofString "c") p) (.int c)) ∧ (∀ p, Ev (lawCx P prog w A L fa cd X m h) (.Name (Str.ofString "d") p) (.int d)) := by
  obtain ⟨t1, q1⟩ := D.a
  obtain ⟨t2, q2⟩ := D.b
  obtain ⟨t3, q3⟩ := D.c
  obtain ⟨t4, q4⟩ := D.d
  exact ⟨fun p => ev_cell O (by kernel_rfl) (by kernel_rfl) (cell_un q1) (.int _ _) (by kernel_rfl), fun p => ev_cell O (by kernel_rfl) (by kernel_rfl) (cell_un q2) (.int _ _) (by kernel_rfl), fun p => ev_cell O (by kernel_rfl) (by kernel_rfl) (cell_un q3) (.int _ _) (by kernel_rfl), fun p => ev_cell O (by kernel_rfl) (by kernel_rfl) (cell_un q4) (.int _ _) (by kernel_rfl)⟩
end
end Mine
end

section
open PySem PySem.W PyProof.Rows PySem.SeqAt
set_option Elab.async false
set_option maxRecDepth 100000
set_option linter.unusedVariables false
namespace Mine

theorem after_for {c : Cx} {B : Heap → Prop} {wr W : List Addr} {m : Str → Option Value} {h h' : Heap} (O : c.Ok B) (hB : BMono B) (O' : (c.hid (wr ++ c.X) m h).Ok B) (hw : ∀ b ∈ wr, c.h.get? b = none) (hk : ∀ b o, b ∉ wr → h.get? b = some o → h'.get? b = some o) (hn : h'.Ns c.env.locals m) (kW : KeepX W c.h h') (hWX : ∀ b ∈ W, b ∈ c.X) : (c.hid c.X m h').Ok B :=
  O.move hB (hid_keepX (kW.mono hWX)) hn O.mem fun b hb => by
    obtain ⟨o, e⟩ := O'.live b (List.mem_append.mpr (.inr hb))
    refine ⟨o, hk b o (fun q => ?_) e⟩
    obtain ⟨o', e'⟩ := O.live b hb
    have := (hw b q).symm.trans e'; cases this

/-- names that a loop leaves alone -/
def Same (ns : List Str) (m m' : Str → Option Value) : Prop := ∀ z, (ns.all fun y => !(z == y)) = true → m' z = m z
theorem Same.refl {ns : List Str} {m : Str → Option Value} : Same ns m m := fun _ _ => rfl
theorem Same.up {ns : List Str} {m m' m'' : Str → Option Value} {y : Str} {v : Value} (s : Same ns m m') (u : Up m' m'' y v) (hy : y ∈ ns) : Same ns m m'' := fun z hz => by
  have := List.all_eq_true.mp hz y hy
  rw [u.other z (by simpa using this)]; exact s z hz
theorem Same.trans {ns : List Str} {m m' m'' : Str → Option Value} (s : Same ns m m') (t : Same ns m' m'') : Same ns m m'' := fun z hz => (t z hz).trans (s z hz)
theorem Same.get {ns : List Str} {m m' : Str → Option Value} {z : Str} {v : Value} (s : Same ns m m') (hz : (ns.all fun y => !(z == y)) = true) (e : m z = some v) : m' z = some v := (s z hz).trans e

section
variable {P : Params}
def xyw : List Str := [Str.ofString "x", Str.ofString "y", Str.ofString "word"]

theorem words_in {prog : Program} {w : World} {A : Around} {L fa aw : Addr} {cd : Value} {X : List Addr} {m m0 : Str → Option Value} {h : Heap} {mg mb : Str → Option Value} {a b c d i : Nat} {tx : Tok} {F : Flow → Heap → Prop} (O : (lawCx P prog w A L fa cd X m h).Ok (Bs (KK P) mg mb)) (haX : aw ∈ X) (haL : aw ≠ L) (D : Dig h X L a b c d) (ha : a < 4 ∧ b < 4 ∧ c < 4 ∧ d < 4) (hi : i < 4)
    (hx : m (Str.ofString "x") = some (.int (i : Nat) tx)) (hI : WInv aw a b c d (4 * i) X m h) (hS : Same xyw m0 m)
    (hF : ∀ m' h', KeepX [aw, L] h h' → (lawCx P prog w A L fa cd X m' h').Ok (Bs (KK P) mg mb) → WInv aw a b c d (4 * (i + 1)) X m' h' → Same xyw m0 m' → F .next h') : Go (lawCx P prog w A L fa cd X m h) (forBody (nthS (bodyAt 14) 3)) F := by
  have hLX : L ∈ X := O.mem
  have WX : ∀ b ∈ [aw, L], b ∈ X := fun b hb => by
    rcases List.mem_cons.mp hb with rfl | hb
    · exact haX
    · rw [List.mem_singleton.mp hb]; exact hLX
  refine go_for (tn := [Str.ofString "y"]) O bs_mono (src_range (n := 4) O (glob_builtin O (by kernel_rfl) rfl rfl (by kernel_rfl) (by kernel_rfl) ne_range (by kernel_rfl)) ev_int (by decide) rfl) [aw, L] WX (.tail _ (.head _)) (le1 (by kernel_rfl) (by kernel_rfl)) (fun _ => rfl)
    (fun X' j m' h' => WInv aw a b c d (4 * i + j) X' m' h' ∧ Same xyw m0 m' ∧ m' (Str.ofString "x") = some (.int (i : Nat) tx)) ?_ ?_ ?_
  · rintro wr h' hw O' hs k
    obtain ⟨items, e1, e2, e3⟩ := hI
    refine ⟨⟨items, e1, e2.at fun o e => k _ o e, hs.rdl (c := lawCx P prog w A L fa cd X m h) e3⟩, hS, hx⟩
  · rintro wr j y m' h' vs h1 hw hy ⟨⟨items, e1, e2, e3⟩, hS', hx'⟩ hvl hk hr O1 hs1 kW
    obtain ⟨v, vs', rfl, rv, rn⟩ := hr.inv_cons
    obtain rfl := rn.inv_nil
    obtain ⟨rfl, hj⟩ := upto_get hy
    obtain ⟨ty, rfl⟩ := rv.inv_int
    have ub := bind1 m' (Str.ofString "y") (.int (j : Nat) ty)
    have awr : aw ∉ wr := fun q => by obtain ⟨o, e⟩ := O.live aw haX; have := (hw aw q).symm.trans e; cases this
    have hp1 : h1.PlainList aw items := e2.at fun o e => hk _ o awr haL e
    have hr1 : RdL (wr ++ X) h1 items.toList ((wAt a b c d (4 * i + j)).map encW) := e3.keepX fun b o hb e => hk b o (fun q => hb (List.mem_append.mpr (.inl q))) (fun q => hb (List.mem_append.mpr (.inr (q ▸ hLX)))) e
    have D1 : Dig h1 (wr ++ X) L a b c d := D.sub (c := lawCx P prog w A L fa cd X m h) hs1
    obtain ⟨ea, eb, ec, ed⟩ := evd (X := wr ++ X) O1 D1
    have ex : ∀ p, Ev (cxOf O1) (.Name (Str.ofString "x") p) (.int (i : Nat)) := fun p => ev_local O1 (by kernel_rfl) (ub.get (by kernel_rfl) hx') (.int _ _) (by kernel_rfl)
    have ey : ∀ p, Ev (cxOf O1) (.Name (Str.ofString "y") p) (.int (j : Nat)) := fun p => ev_local O1 (by kernel_rfl) ub.self (.int _ _) (by kernel_rfl)
    have sm : ∀ p q : Nat, p < 4 → IntMulOk (p : Int) (q : Int) := fun p q hp => .of_left (by
      have : p = 0 ∨ p = 1 ∨ p = 2 ∨ p = 3 := by omega
      rcases this with rfl | rfl | rfl | rfl <;> decide)
    have ew : encW (wordOf a b c d i j) = .tuple [.int (i : Nat), .int (((a : Int) * i + (c : Int) * j).fmod 4), .int (((b : Int) * i + (d : Int) * j).fmod 4)] := by
      have f1 : ((a : Int) * i + (c : Int) * j).fmod 4 = (((a * i + c * j) % 4 : Nat) : Int) := by rw [← fmod_nat]; push_cast; rfl
      have f2 : ((b : Int) * i + (d : Int) * j).fmod 4 = (((b * i + d * j) % 4 : Nat) : Int) := by rw [← fmod_nat]; push_cast; rfl
      rw [f1, f2]; rfl
    refine go_let (d := encW (wordOf a b c d i j)) O1 bs_mono (ew ▸ ev_tuple O1 (evl_cons (ex _) (evl_cons (ev_binop (ev_binop (ev_binop (ea _) (ex _) (op_mul (sm _ _ ha.1))) (ev_binop (ec _) (ey _) (op_mul (sm _ _ ha.2.2.1))) op_add) ev_int (op_mod (by decide))) (evl_cons (ev_binop (ev_binop (ev_binop (eb _) (ex _) (op_mul (sm _ _ ha.2.1))) (ev_binop (ed _) (ey _) (op_mul (sm _ _ ha.2.2.2))) op_add) ev_int (op_mod (by decide))) evl_nil rfl) rfl) rfl) (show 3 ≤ sizeLine by decide)) (by kernel_rfl) rfl fun vw m2 h2 u2 O2 st2 r2 => ?_
    have hp2 : h2.PlainList aw items := hp1.at fun o e => st2.keep _ o (fun q => haL (List.mem_singleton.mp q)) e
    have LX' : ∀ b ∈ [L], b ∈ wr ++ X := fun b hb => by rw [List.mem_singleton.mp hb]; exact List.mem_append.mpr (.inr hLX)
    have hr2 := hr1.keepX (KeepX.mono st2.keep LX')
    have ek : 4 * i + j < 16 := by omega
    have k4 : (4 * i + j) / 4 = i ∧ (4 * i + j) % 4 = j := by omega
    have wnext : wAt a b c d (4 * i + (j + 1)) = addW (wAt a b c d (4 * i + j)) (wordOf a b c d i j) := by
      show addW (wAt a b c d (4 * i + j)) (wordOf a b c d ((4 * i + j) / 4) ((4 * i + j) % 4)) = _
      rw [k4.1, k4.2]
    have mw : m2 (Str.ofString "words") = some (.ref aw) := u2.get (by kernel_rfl) (ub.get (by kernel_rfl) e1)
    have mx : m2 (Str.ofString "x") = some (.int (i : Nat) tx) := u2.get (by kernel_rfl) (ub.get (by kernel_rfl) hx')
    have sS : Same xyw m0 m2 := (hS'.up ub (.tail _ (.head _))).up u2 (.tail _ (.tail _ (.head _)))
    have fX : ∀ b ∈ (wr ++ X).filter (fun b => b != aw), b ∈ wr ++ X := fun b hb => (List.mem_filter.mp hb).1
    have aF : aw ∉ (wr ++ X).filter (fun b => b != aw) := fun q => by have := (List.mem_filter.mp q).2; simp at this
    have LF : L ∈ (wr ++ X).filter (fun b => b != aw) := List.mem_filter.mpr ⟨List.mem_append.mpr (.inr hLX), by simpa using haL.symm⟩
    have O2' := O2.unhide bs_mono ((wr ++ X).filter (fun b => b != aw)) fX LF
    have isz : items.size ≤ 16 := by have := hr2.length; have := wAt_len a b c d (4 * i + j); simp at *; omega
    refine go_if O2 bs_mono (tst_of (X' := (wr ++ X).filter (fun b => b != aw)) (tst_compare (ev_local O2' (by kernel_rfl) u2.self (r2.sub fX) (by kernel_rfl)) (ev_local O2' (by kernel_rfl) mw (.list (hid_list hp2.isList aF) (hr2.sub fX)) (by kernel_rfl)) (op_notin O2' (lay_words _) (lay_word _) (dep_word _)) (by kernel_rfl))) (fun e h3 k3 O3 st3 => ?_) (fun e h3 k3 O3 st3 => ?_)
    · refine go_append (a := aw) (items := items) O3 bs_mono (evp_local O3 (by kernel_rfl) mw (fun _ _ => rfl) (by kernel_rfl)) (hp2.at fun o e => k3 _ o e) (List.mem_append.mpr (.inr haX)) haL (ev_local O3 (by kernel_rfl) u2.self (r2.keep k3) (by kernel_rfl)) (Nat.le_trans isz (by decide)) rfl rfl rfl (by kernel_rfl) fun v h4 r4 hp4 O4 st4 => ?_
      have kk : KeepX [aw, L] h1 h4 := fun b o hb e => st4.keep b o (fun q => hb (by rw [List.mem_singleton.mp q]; exact .head _)) (k3 b o (st2.keep b o (fun q => hb (.tail _ q)) e))
      refine go_nil (then_nil (.inl ⟨rfl, m2, kk, O4, ⟨items.push v, mw, hp4, ?_⟩, sS, mx⟩))
      rw [wnext, show addW _ _ = _ from if_pos e, List.map_append, Array.toList_push]
      exact ((hr2.keep k3).keepX (KeepX.mono st4.keep fun b hb => by rw [List.mem_singleton.mp hb]; exact List.mem_append.mpr (.inr haX))).append (.cons r4 .nil)
    · have kk : KeepX [aw, L] h1 h3 := fun b o hb e => k3 b o (st2.keep b o (fun q => hb (.tail _ q)) e)
      refine go_nil (then_nil (.inl ⟨rfl, m2, kk, O3, ⟨items, mw, hp2.at fun o e => k3 _ o e, ?_⟩, sS, mx⟩))
      rw [wnext, show addW _ _ = _ from if_neg (ne_true_of_eq_false e)]
      exact hr2.keep k3
  · rintro wr m' h1 h2 hw ⟨⟨items, e1, e2, e3⟩, hS', hx'⟩ hk O1 hn kW
    have O2 := after_for O bs_mono O1 hw hk hn kW WX
    have awr : aw ∉ wr := fun q => by obtain ⟨o, e⟩ := O.live aw haX; have := (hw aw q).symm.trans e; cases this
    refine go_nil (then_nil (hF m' h2 kW O2 ⟨items, e1, e2.at fun o e => hk _ o awr e, ?_⟩ hS'))
    exact (e3.keepX fun b o hb e => hk b o (fun q => hb (List.mem_append.mpr (.inl q))) e).sub fun b hb => List.mem_append.mpr (.inr hb)

theorem words_go {prog : Program} {w : World} {A : Around} {L fa aw : Addr} {cd : Value} {X : List Addr} {m : Str → Option Value} {h : Heap} {mg mb : Str → Option Value} {a b c d : Nat} {F : Flow → Heap → Prop} (O : (lawCx P prog w A L fa cd X m h).Ok (Bs (KK P) mg mb)) (haX : aw ∈ X) (haL : aw ≠ L) (D : Dig h X L a b c d) (ha : a < 4 ∧ b < 4 ∧ c < 4 ∧ d < 4)
    (hI : WInv aw a b c d 0 X m h)
    (hF : ∀ m' h', KeepX [aw, L] h h' → (lawCx P prog w A L fa cd X m' h').Ok (Bs (KK P) mg mb) → WInv aw a b c d 16 X m' h' → Same xyw m m' → Go (lawCx P prog w A L fa cd X m' h') (lawRest 4) F) : Go (lawCx P prog w A L fa cd X m h) (lawRest 3) F := by
  have hLX : L ∈ X := O.mem
  have WX : ∀ b ∈ [aw, L], b ∈ X := fun b hb => by
    rcases List.mem_cons.mp hb with rfl | hb
    · exact haX
    · rw [List.mem_singleton.mp hb]; exact hLX
  refine go_for (tn := [Str.ofString "x"]) O bs_mono (src_range (n := 4) O (glob_builtin O (by kernel_rfl) rfl rfl (by kernel_rfl) (by kernel_rfl) ne_range (by kernel_rfl)) ev_int (by decide) rfl) [aw, L] WX (.tail _ (.head _)) (le1 (by kernel_rfl) (by kernel_rfl)) (fun _ => rfl)
    (fun X' i m' h' => WInv aw a b c d (4 * i) X' m' h' ∧ Same xyw m m') ?_ ?_ ?_
  · rintro wr h' hw O' hs k
    obtain ⟨items, e1, e2, e3⟩ := hI
    exact ⟨⟨items, e1, e2.at fun o e => k _ o e, hs.rdl (c := lawCx P prog w A L fa cd X m h) e3⟩, Same.refl⟩
  · rintro wr i x m' h' vs h1 hw hx ⟨⟨items, e1, e2, e3⟩, hS'⟩ hvl hk hr O1 hs1 kW
    obtain ⟨v, vs', rfl, rv, rn⟩ := hr.inv_cons
    obtain rfl := rn.inv_nil
    obtain ⟨rfl, hi⟩ := upto_get hx
    obtain ⟨tx, rfl⟩ := rv.inv_int
    have ub := bind1 m' (Str.ofString "x") (.int (i : Nat) tx)
    have awr : aw ∉ wr := fun q => by obtain ⟨o, e⟩ := O.live aw haX; have := (hw aw q).symm.trans e; cases this
    refine words_in (X := wr ++ X) (aw := aw) (i := i) O1 (List.mem_append.mpr (.inr haX)) haL (D.sub (c := lawCx P prog w A L fa cd X m h) hs1) ha hi ub.self ⟨items, ub.get (by kernel_rfl) e1, e2.at fun o e => hk _ o awr haL e, ?_⟩ (hS'.up ub (.head _)) fun m2 h2 k2 O2 I2 S2 => .inl ⟨rfl, m2, k2, O2, I2, S2⟩
    exact e3.keepX fun b o hb e => hk b o (fun q => hb (List.mem_append.mpr (.inl q))) (fun q => hb (List.mem_append.mpr (.inr (q ▸ hLX)))) e
  · rintro wr m' h1 h2 hw ⟨⟨items, e1, e2, e3⟩, hS'⟩ hk O1 hn kW
    have O2 := after_for O bs_mono O1 hw hk hn kW WX
    have awr : aw ∉ wr := fun q => by obtain ⟨o, e⟩ := O.live aw haX; have := (hw aw q).symm.trans e; cases this
    refine go_nil (.inl ⟨rfl, X, m', hF m' h2 kW O2 ⟨items, e1, e2.at fun o e => hk _ o awr e, ?_⟩ hS'⟩)
    exact (e3.keepX fun b o hb e => hk b o (fun q => hb (List.mem_append.mpr (.inl q))) e).sub fun b hb => List.mem_append.mpr (.inr hb)
end
end Mine
end

section
open PySem PySem.W PyProof.Rows PySem.SeqAt
set_option Elab.async false
set_option maxRecDepth 100000
set_option linter.unusedVariables false
namespace Mine

def okW (t : Wd) : Prop := t.1 < 4 ∧ t.2.1 < 4 ∧ t.2.2 < 4
theorem wAt_ok (a b c d : Nat) : ∀ k, k ≤ 16 → ∀ t ∈ wAt a b c d k, okW t
  | 0, _ => fun t h => nomatch h
  | k + 1, hk => fun t h => by
    unfold wAt addW at h
    split at h
    · rcases List.mem_append.mp h with h | h
      · exact wAt_ok a b c d k (by omega) t h
      · rw [List.mem_singleton.mp h]
        exact ⟨(by show k / 4 < 4; omega), Nat.mod_lt _ (by decide), Nat.mod_lt _ (by decide)⟩
    · exact wAt_ok a b c d k (by omega) t h
def dualP (c d : Nat) (v w : Int) : Bool := ((c : Int) * v + (d : Int) * w).fmod 4 == 0
def dualF (a b : Nat) (v w : Int) : PyData := .tuple [.int ((-(a : Int) * v - (b : Int) * w).fmod 4), .int v, .int w]
def dualW (a b c d : Nat) : List Wd := (List.range 4).flatMap fun v => (List.range 4).flatMap fun w => if dualP c d (v : Nat) (w : Nat) then [(((-(a : Int) * (v : Nat) - (b : Int) * (w : Nat)).fmod 4).toNat, v, w)] else []
theorem dual_eq (a b c d : Nat) : ((upto 4).flatMap fun v => (upto 4).flatMap fun w => if dualP c d v w then [dualF a b v w] else []) = (dualW a b c d).map encW := by
  unfold upto dualW
  rw [List.flatMap_map, List.map_flatMap]
  congr 1; funext v
  rw [List.flatMap_map, List.map_flatMap]
  congr 1; funext w
  split
  · rw [List.map_singleton]
    unfold dualF encW
    simp only
    rw [Int.toNat_of_nonneg (Int.fmod_nonneg_of_pos _ (by decide))]
  · rfl
theorem dual_ok (a b c d : Nat) : ∀ t ∈ dualW a b c d, okW t := by
  intro t ht
  obtain ⟨v, hv, ht⟩ := List.mem_flatMap.mp ht
  obtain ⟨w, hw, ht⟩ := List.mem_flatMap.mp ht
  rw [List.mem_range] at hv hw
  split at ht
  · rw [List.mem_singleton.mp ht]
    refine ⟨?_, hv, hw⟩
    have h1 := Int.fmod_lt_of_pos (-(a : Int) * (v : Nat) - (b : Int) * (w : Nat)) (show (0 : Int) < 4 by decide)
    have h2 := Int.fmod_nonneg_of_pos (-(a : Int) * (v : Nat) - (b : Int) * (w : Nat)) (show (0 : Int) < 4 by decide)
    simp only; omega
  · cases ht
theorem dual_len (a b c d : Nat) : (dualW a b c d).length ≤ 16 := by
  refine Nat.le_trans (flat2_le _ 4 (fun v => ?_) _) (by decide)
  exact Nat.le_trans (flat_le (fun w : Nat => dualP c d (v : Nat) (w : Nat)) (fun w => (((-(a : Int) * (v : Nat) - (b : Int) * (w : Nat)).fmod 4).toNat, v, w)) (List.range 4)) (by decide)
def nmW (t : Wd) : List Str := named t.1 t.2.1 t.2.2
theorem sgn_join : ∀ k < 64, JoinOk (Str.ofString "") (six.map (sign (nmAt (64 + (k : Nat)) 7))) = true := by decide +kernel
theorem nm_lay : ∀ k < 64, PyData.canLayAll0 ((nmAt (64 + (k : Nat)) 7).map PyData.str) = true := by decide +kernel

section
variable {P : Params}
theorem sm4 {p q : Int} (h : p = 0 ∨ p = 1 ∨ p = 2 ∨ p = 3 ∨ p = -1 ∨ p = -2 ∨ p = -3) : IntMulOk p q := .of_left (by rcases h with rfl | rfl | rfl | rfl | rfl | rfl | rfl <;> decide)

theorem dual_go {prog : Program} {w : World} {A : Around} {L fa : Addr} {cd : Value} {X : List Addr} {m : Str → Option Value} {h : Heap} {mg mb : Str → Option Value} {a b c d : Nat} {F : Flow → Heap → Prop} (O : (lawCx P prog w A L fa cd X m h).Ok (Bs (KK P) mg mb)) (D : Dig h X L a b c d) (ha : a < 4 ∧ b < 4 ∧ c < 4 ∧ d < 4)
    (hF : ∀ v m' h', Up m m' (Str.ofString "dual") v → (lawCx P prog w A L fa cd X m' h').Ok (Bs (KK P) mg mb) → KeepX [L] h h' → Rd X h' v (.list ((dualW a b c d).map encW)) → Go (lawCx P prog w A L fa cd X m' h') (lawRest 5) F) : Go (lawCx P prog w A L fa cd X m h) (lawRest 4) F := by
  refine go_letC2 (x1 := Str.ofString "v") (y1 := Str.ofString "w") (cl := [(Str.ofString "d", L + 4), (Str.ofString "c", L + 3), (Str.ofString "b", L + 2), (Str.ofString "a", L + 1)]) (xs := upto 4) (zs := upto 4) (e1 := PyData.int) (e2 := PyData.int) (p := dualP c d) (f := dualF a b) O bs_mono (src_range (n := 4) O (glob_builtin O (by kernel_rfl) rfl rfl (by kernel_rfl) (by kernel_rfl) ne_range (by kernel_rfl)) ev_int (by decide) rfl) ⟨by kernel_rfl, by decide +kernel, by kernel_rfl, by decide +kernel, by decide +kernel, fun _ => rfl⟩ ?_ (fun _ _ => rfl) (by kernel_rfl) (by decide) ?_ (by kernel_rfl) (by kernel_rfl) fun v m' h' u O' st r => hF v m' h' u O' st.keep (dual_eq a b c d ▸ r.rd)
  · intro x hx C X' m' v h' hs O' r
    exact src_range (n := 4) O' (glob_builtin O' (by kernel_rfl) rfl rfl (by kernel_rfl) (by kernel_rfl) ne_range (by kernel_rfl)) ev_int (by decide) rfl
  · intro x hx y hy C X' m' v w' h' hs O' hm rv rw'
    have D' := D.sub (c := lawCx P prog w A L fa cd X m h) hs
    obtain ⟨t1, q1⟩ := D'.a
    obtain ⟨t2, q2⟩ := D'.b
    obtain ⟨t3, q3⟩ := D'.c
    obtain ⟨t4, q4⟩ := D'.d
    have ub := bind1 m' (Str.ofString "w") w'
    have ev : ∀ p, Ev (cxOf O') (.Name (Str.ofString "v") p) (.int x) := fun p => ev_local O' (by kernel_rfl) (ub.get (by kernel_rfl) hm) rv (by kernel_rfl)
    have ew : ∀ p, Ev (cxOf O') (.Name (Str.ofString "w") p) (.int y) := fun p => ev_local O' (by kernel_rfl) ub.self rw' (by kernel_rfl)
    have ea : ∀ p, Ev (cxOf O') (.Name (Str.ofString "a") p) (.int a) := fun p => ev_cell O' (by kernel_rfl) (by kernel_rfl) (cell_un q1) (.int _ _) (by kernel_rfl)
    have eb : ∀ p, Ev (cxOf O') (.Name (Str.ofString "b") p) (.int b) := fun p => ev_cell O' (by kernel_rfl) (by kernel_rfl) (cell_un q2) (.int _ _) (by kernel_rfl)
    have ec : ∀ p, Ev (cxOf O') (.Name (Str.ofString "c") p) (.int c) := fun p => ev_cell O' (by kernel_rfl) (by kernel_rfl) (cell_un q3) (.int _ _) (by kernel_rfl)
    have ed : ∀ p, Ev (cxOf O') (.Name (Str.ofString "d") p) (.int d) := fun p => ev_cell O' (by kernel_rfl) (by kernel_rfl) (cell_un q4) (.int _ _) (by kernel_rfl)
    refine ⟨tsts_one (tst_compare (ev_binop (ev_binop (ev_binop (ec _) (ev _) (op_mul (sm4 (by omega)))) (ev_binop (ed _) (ew _) (op_mul (sm4 (by omega)))) op_add) ev_int (op_mod (by decide))) ev_int op_eq (by kernel_rfl)), fun _ => ev_tuple O' (evl_cons (ev_binop (ev_binop (ev_binop (ev_unop (ea _) op_neg) (ev _) (op_mul (sm4 (by omega)))) (ev_binop (eb _) (ew _) (op_mul (sm4 (by omega)))) op_sub) ev_int (op_mod (by decide))) (evl_cons (ev _) (evl_cons (ew _) evl_nil rfl) rfl) rfl) (show 3 ≤ sizeLine by decide)⟩
end
end Mine
end

section
open PySem PySem.W PyProof.Rows PySem.SeqAt
set_option Elab.async false
set_option maxRecDepth 100000
set_option linter.unusedVariables false
namespace Mine

def nmD (t : Wd) : PyData := .list ((nmW t).map PyData.str)
def ltW (t : Wd) : Str := letters (nmW t)
theorem filt {α β : Type} (l : List α) (f : α → β) : (l.filter fun _ => true).map f = l.map f := by rw [List.filter_eq_self.mpr fun _ _ => rfl]

section
variable {P : Params}
/-- _law_named, called on a word -/
theorem ev_named {c : Cx} {mg mb : Str → Option Value} {n : Nat} {e : Expr} {p pos : Pos} {t : Wd} (O : c.Ok (Bs (KK P) mg mb)) (hr : Room c.A (n + 2)) (ht : okW t) (hl : c.env.kindOf (Str.ofString "_law_named") = some .globalImplicit) (hg : c.env.globals = mainGlobals) (he : Ev c e (encW t)) (hs : starEach [e] c.env = (false, eval e c.env) :: starEach [] c.env) :
    Ev c (.Call (.Name (Str.ofString "_law_named") p) [e] [] pos) (nmD t) :=
  evp_fn O hl hg (by kernel_rfl) (by kernel_rfl) fok107.fn (evl_cons he evl_nil hs) (law_named ht.1 ht.2.1 ht.2.2 O hr) hs

theorem named_go {prog : Program} {w : World} {A : Around} {L fa : Addr} {cd : Value} {X : List Addr} {m : Str → Option Value} {h : Heap} {mg mb : Str → Option Value} {ws : List Wd} {vw : Value} {F : Flow → Heap → Prop} {n : Nat} (O : (lawCx P prog w A L fa cd X m h).Ok (Bs (KK P) mg mb)) (hr : Room A (n + 2)) (hm : m (Str.ofString "words") = some vw) (rw : Rd X h vw (.list (ws.map encW))) (hok : ∀ t ∈ ws, okW t) (hlen : ws.length ≤ 16)
    (hF : ∀ v m' h', Up m m' (Str.ofString "named") v → (lawCx P prog w A L fa cd X m' h').Ok (Bs (KK P) mg mb) → KeepX [L] h h' → Rd X h' v (.list (ws.map nmD)) → Go (lawCx P prog w A L fa cd X m' h') (lawRest 6) F) : Go (lawCx P prog w A L fa cd X m h) (lawRest 5) F := by
  refine go_letC (tn := [Str.ofString "word"]) (cl := []) (xs := ws) (enc := fun t => [encW t]) (p := fun _ => true) (f := nmD) O bs_mono (src_list (enc := encW) O (ev_local O (by kernel_rfl) hm rw (by kernel_rfl))) ⟨by kernel_rfl, by decide +kernel, by kernel_rfl, by decide +kernel, by decide +kernel, fun _ => rfl⟩ (Nat.le_trans hlen (by decide)) ?_ (by kernel_rfl) (by kernel_rfl) fun v m' h' u O' st r => hF v m' h' u O' st.keep (filt ws nmD ▸ r.rd)
  intro t ht C X' m' vs h' hs O' hr' hl
  obtain ⟨v, vs', rfl, rv, rn⟩ := hr'.inv_cons
  obtain rfl := rn.inv_nil
  exact ⟨tsts_nil, fun _ => ev_named O' hr (hok t ht) (by kernel_rfl) rfl (ev_local O' (by kernel_rfl) (bind1 m' (Str.ofString "word") v).self rv (by kernel_rfl)) rfl⟩

theorem texts_go {prog : Program} {w : World} {A : Around} {L fa : Addr} {cd : Value} {X : List Addr} {m : Str → Option Value} {h : Heap} {mg mb : Str → Option Value} {ws : List Wd} {vn : Value} {F : Flow → Heap → Prop} {n : Nat} (O : (lawCx P prog w A L fa cd X m h).Ok (Bs (KK P) mg mb)) (hr : Room A (n + 2)) (hm : m (Str.ofString "named") = some vn) (rn : Rd X h vn (.list (ws.map nmD))) (hok : ∀ t ∈ ws, okW t) (hlen : ws.length ≤ 16)
    (hF : ∀ v m' h', Up m m' (Str.ofString "texts") v → (lawCx P prog w A L fa cd X m' h').Ok (Bs (KK P) mg mb) → KeepX [L] h h' → Rd X h' v (.list (ws.map fun t => .str (ltW t))) → Go (lawCx P prog w A L fa cd X m' h') (lawRest 7) F) : Go (lawCx P prog w A L fa cd X m h) (lawRest 6) F := by
  refine go_letC (tn := [Str.ofString "flags"]) (cl := []) (xs := ws) (enc := fun t => [nmD t]) (p := fun _ => true) (f := fun t => .str (ltW t)) O bs_mono (src_list (enc := nmD) O (ev_local O (by kernel_rfl) hm rn (by kernel_rfl))) ⟨by kernel_rfl, by decide +kernel, by kernel_rfl, by decide +kernel, by decide +kernel, fun _ => rfl⟩ (Nat.le_trans hlen (by decide)) ?_ (by kernel_rfl) (by kernel_rfl) fun v m' h' u O' st r => hF v m' h' u O' st.keep (filt ws (fun t => PyData.str (ltW t)) ▸ r.rd)
  intro t ht C X' m' vs h' hs O' hr' hl
  obtain ⟨v, vs', rfl, rv, rn⟩ := hr'.inv_cons
  obtain rfl := rn.inv_nil
  have ok := hok t ht
  have hk := code_lt ok.1 ok.2.1 ok.2.2
  have e0 : ∀ p, Ev (cxOf O') (.Name (Str.ofString "flags") p) (.list ((nmW t).map PyData.str)) := fun p => ev_local O' (by kernel_rfl) (bind1 m' (Str.ofString "flags") v).self rv (by kernel_rfl)
  exact ⟨tsts_nil, fun _ => evp_fn O' (by kernel_rfl) rfl (by kernel_rfl) (by kernel_rfl) fn112 (evl_cons (e0 _) evl_nil rfl) (law_letters (ys := nmW t) (sgn_join _ hk) (nm_lay _ hk) O' (hr.less (Nat.le_succ _))) rfl⟩

theorem place_go {prog : Program} {w : World} {A : Around} {L fa : Addr} {cd : Value} {X : List Addr} {m : Str → Option Value} {h : Heap} {mg mb : Str → Option Value} {ws : List Wd} {vw vd : Value} {dr : List Int} {e : Nat} {F : Flow → Heap → Prop} (O : (lawCx P prog w A L fa cd X m h).Ok (Bs (KK P) mg mb)) (hm : m (Str.ofString "words") = some vw) (rw : Rd X h vw (.list (ws.map encW))) (hd : m (Str.ofString "draws") = some vd) (rd : Rd X h vd (.list (dr.map PyData.int))) (he : dr[4]? = some ((e : Nat) : Int)) (hlen : ws.length ≤ 16) (hpos : 0 < ws.length)
    (hF : ∀ v m' h', Up m m' (Str.ofString "place") v → (lawCx P prog w A L fa cd X m' h').Ok (Bs (KK P) mg mb) → KeepX [L] h h' → Rd X h' v (.int ((e % ws.length : Nat) : Int)) → Go (lawCx P prog w A L fa cd X m' h') (lawRest 8) F) : Go (lawCx P prog w A L fa cd X m h) (lawRest 7) F := by
  have e1 : ((e % ws.length : Nat) : Int) = ((e : Nat) : Int).fmod ((ws.map encW).length : Nat) := by rw [fmod_nat, List.length_map]
  refine go_let O bs_mono (ev_binop (ev_index_list (i := 4) (ev_local O (by kernel_rfl) hd rd (by kernel_rfl)) ev_int (by rw [List.getElem?_map, he]; rfl) (by decide) (fun _ _ => rfl)) (ev_len O (by kernel_rfl) rfl rfl (ev_local O (by kernel_rfl) hm rw (by kernel_rfl)) (by rw [List.length_map]; exact Nat.le_trans hlen (by decide)) rfl) (op_mod (by rw [List.length_map]; omega))) (by kernel_rfl) rfl fun v m' h' u O' st r => hF v m' h' u O' st.keep (e1 ▸ r)
end
end Mine
end

section
open PySem PySem.W PyProof.Rows PySem.SeqAt
set_option Elab.async false
set_option maxRecDepth 100000
set_option linter.unusedVariables false
namespace Mine

def prs (t u : Wd) : List (Nat × Nat) := [(t.1, u.1), (t.2.1, u.2.1), (t.2.2, u.2.2)]
def ring1 (p : Nat × Nat) : Int := min (((p.1 : Int) - p.2).fmod 4) (((p.2 : Int) - p.1).fmod 4)
def ringW (t u : Wd) : Int := ((prs t u).map ring1).sum
def chs (t u : Wd) : List (Nat × Nat) := (ltW t).cps.toList.zip (ltW u).cps.toList
def cost1 (p : Nat × Nat) : Int := cost ⟨#[p.1]⟩ ⟨#[p.2]⟩
def costW (t u : Wd) : Int := ((chs t u).map cost1).sum
theorem lt_facts : ∀ k < 64, ((letters (nmAt (64 + (k : Nat)) 7)).cps.size == 6 && (letters (nmAt (64 + (k : Nat)) 7)).cps.toList.all (fun ch => decide (ch < 128) && !Builtin.Str.tooLong (Txt.lower ⟨#[ch]⟩).length)) = true := by decide +kernel
theorem lt_size {t : Wd} (h : okW t) : (ltW t).cps.toList.length = 6 := by
  have := lt_facts _ (code_lt h.1 h.2.1 h.2.2)
  rw [Bool.and_eq_true] at this
  have := this.1; simp at this; rw [Array.length_toList]; exact this
theorem lt_ch {t : Wd} (h : okW t) : ∀ ch ∈ (ltW t).cps.toList, ch < 128 ∧ Builtin.Str.tooLong (Txt.lower ⟨#[ch]⟩).length = false := by
  have := lt_facts _ (code_lt h.1 h.2.1 h.2.2)
  rw [Bool.and_eq_true] at this
  intro ch hc
  have := List.all_eq_true.mp this.2 ch hc
  simpa using this
theorem lt_asc {t : Wd} (h : okW t) : (ltW t).cps.all (· < 128) = true := by
  rw [← Array.all_toList, List.all_eq_true]
  intro ch hc
  simpa using (lt_ch h ch hc).1
theorem iter_fst {t u : Wd} (h : okW t) (h' : okW u) : IterD (.str (ltW t)) ((chs t u).map fun p => .str ⟨#[p.1]⟩) := by
  have e : ((chs t u).map fun p => PyData.str ⟨#[p.1]⟩) = (ltW t).cps.toList.map fun c => PyData.str ⟨#[c]⟩ := by
    have := List.map_fst_zip (l₁ := (ltW t).cps.toList) (l₂ := (ltW u).cps.toList) (by rw [lt_size h, lt_size h']; exact Nat.le_refl _)
    conv => rhs; rw [← this]
    rw [List.map_map]; rfl
  rw [e]; exact .str _ (lt_asc h)
theorem iter_snd {t u : Wd} (h : okW t) (h' : okW u) : IterD (.str (ltW u)) ((chs t u).map fun p => .str ⟨#[p.2]⟩) := by
  have e : ((chs t u).map fun p => PyData.str ⟨#[p.2]⟩) = (ltW u).cps.toList.map fun c => PyData.str ⟨#[c]⟩ := by
    have := List.map_snd_zip (l₁ := (ltW t).cps.toList) (l₂ := (ltW u).cps.toList) (by rw [lt_size h, lt_size h']; exact Nat.le_refl _)
    conv => rhs; rw [← this]
    rw [List.map_map]; rfl
  rw [e]; exact .str _ (lt_asc h')

section
variable {P : Params}
theorem ne_sum : Str.ofString "sum" ≠ "__name__" := by decide
theorem ne_min : Str.ofString "min" ≠ "__name__" := by decide
/-- sum of a list of the text -/
theorem ev_sum {c : Cx} {mg mb : Str → Option Value} {e : Expr} {p pos : Pos} {ns : List Int} (O : c.Ok (Bs (KK P) mg mb)) (hl : c.env.kindOf (Str.ofString "sum") = some .globalImplicit) (hg : c.env.globals = mainGlobals) (hb : c.env.builtins = builtinsNs) (he : Ev c e (.list (ns.map PyData.int))) (hs : starEach [e] c.env = (false, eval e c.env) :: starEach [] c.env) :
    Ev c (.Call (.Name (Str.ofString "sum") p) [e] [] pos) (.int ns.sum) :=
  evp_call_builtin (glob_builtin O hl hg hb (by kernel_rfl) (by kernel_rfl) ne_sum (by kernel_rfl)) (evl_cons he evl_nil hs) (call_sum O) hs rfl
theorem ev_min {c : Cx} {mg mb : Str → Option Value} {e1 e2 : Expr} {p pos : Pos} {i j : Int} (O : c.Ok (Bs (KK P) mg mb)) (hl : c.env.kindOf (Str.ofString "min") = some .globalImplicit) (hg : c.env.globals = mainGlobals) (hb : c.env.builtins = builtinsNs) (h1 : Ev c e1 (.int i)) (h2 : Ev c e2 (.int j)) (hs : starEach [e1, e2] c.env = (false, eval e1 c.env) :: starEach [e2] c.env) (hs2 : starEach [e2] c.env = (false, eval e2 c.env) :: starEach [] c.env) :
    Ev c (.Call (.Name (Str.ofString "min") p) [e1, e2] [] pos) (.int (min i j)) :=
  evp_call_builtin (glob_builtin O hl hg hb (by kernel_rfl) (by kernel_rfl) ne_min (by kernel_rfl)) (evl_cons h1 (evl_cons h2 evl_nil hs2) hs) (call_min O) hs (by rw [hs2]; rfl)

def ApInv (ap : Addr) (ws : List Wd) (t : Wd) (i : Nat) (X : List Addr) (m : Str → Option Value) (h : Heap) : Prop := ∃ items, m (Str.ofString "apart") = some (.ref ap) ∧ h.PlainList ap items ∧ RdL X h items.toList (((ws.take i).map (costW t)).map PyData.int)
def kr : List Str := [Str.ofString "k", Str.ofString "ring"]

theorem apart_go {prog : Program} {w : World} {A : Around} {L fa ap : Addr} {cd : Value} {X : List Addr} {m : Str → Option Value} {h : Heap} {mg mb : Str → Option Value} {ws : List Wd} {t : Wd} {pl n : Nat} {vw vt : Value} {tp : Tok} {F : Flow → Heap → Prop} (O : (lawCx P prog w A L fa cd X m h).Ok (Bs (KK P) mg mb)) (hr : Room A (n + 2)) (haX : ap ∈ X) (haL : ap ≠ L)
    (hm : m (Str.ofString "words") = some vw) (rw : Rd X h vw (.list (ws.map encW))) (ht : m (Str.ofString "texts") = some vt) (rt : Rd X h vt (.list (ws.map fun t => .str (ltW t)))) (hp : m (Str.ofString "place") = some (.int (pl : Nat) tp)) (hpl : ws[pl]? = some t) (hok : ∀ t ∈ ws, okW t) (hlen : ws.length ≤ 16) (hcost : ∀ t u, okW t → okW u → costW t u = ringW t u)
    (hI : ApInv ap ws t 0 X m h)
    (hF : ∀ m' h', KeepX [ap, L] h h' → (lawCx P prog w A L fa cd X m' h').Ok (Bs (KK P) mg mb) → ApInv ap ws t ws.length X m' h' → Same kr m m' → Go (lawCx P prog w A L fa cd X m' h') (lawRest 10) F) : Go (lawCx P prog w A L fa cd X m h) (lawRest 9) F := by
  have hLX : L ∈ X := O.mem
  have WX : ∀ b ∈ [ap, L], b ∈ X := fun b hb => by
    rcases List.mem_cons.mp hb with rfl | hb
    · exact haX
    · rw [List.mem_singleton.mp hb]; exact hLX
  have wl : (ws.map encW).length = ws.length := by simp
  have tok := hok t (List.mem_of_getElem? hpl)
  refine go_for (tn := [Str.ofString "k"]) (xs := upto ws.length) O bs_mono (src_range (n := ws.length) O (glob_builtin O (by kernel_rfl) rfl rfl (by kernel_rfl) (by kernel_rfl) ne_range (by kernel_rfl)) (wl ▸ ev_len O (by kernel_rfl) rfl rfl (ev_local O (by kernel_rfl) hm rw (by kernel_rfl)) (by rw [wl]; exact Nat.le_trans hlen (by decide)) rfl) (Nat.le_trans hlen (by decide)) rfl) [ap, L] WX (.tail _ (.head _)) (le1 (by kernel_rfl) (by kernel_rfl)) (fun _ => rfl)
    (fun X' i m' h' => ApInv ap ws t i X' m' h' ∧ Same kr m m') ?_ ?_ ?_
  · rintro wr h' hw O' hs k
    obtain ⟨items, e1, e2, e3⟩ := hI
    exact ⟨⟨items, e1, e2.at fun o e => k _ o e, hs.rdl (c := lawCx P prog w A L fa cd X m h) e3⟩, Same.refl⟩
  · rintro wr i x m' h' vs h1 hw hx ⟨⟨items, e1, e2, e3⟩, hS'⟩ hvl hk hr1 O1 hs1 kW
    obtain ⟨v, vs', rfl, rv, rn⟩ := hr1.inv_cons
    obtain rfl := rn.inv_nil
    obtain ⟨rfl, hi⟩ := upto_get hx
    obtain ⟨tk, rfl⟩ := rv.inv_int
    have ub := bind1 m' (Str.ofString "k") (.int (i : Nat) tk)
    have awr : ap ∉ wr := fun q => by obtain ⟨o, e⟩ := O.live ap haX; have := (hw ap q).symm.trans e; cases this
    have hp1 : h1.PlainList ap items := e2.at fun o e => hk _ o awr haL e
    have hr1' : RdL (wr ++ X) h1 items.toList _ := e3.keepX fun b o hb e => hk b o (fun q => hb (List.mem_append.mpr (.inl q))) (fun q => hb (List.mem_append.mpr (.inr (q ▸ hLX)))) e
    obtain ⟨u, hu⟩ : ∃ u, ws[i]? = some u := ⟨_, List.getElem?_eq_getElem hi⟩
    have uok := hok u (List.mem_of_getElem? hu)
    have pl16 : pl ≤ sizeLine := by have := (List.getElem?_eq_some_iff.mp hpl).1; exact Nat.le_trans (Nat.le_of_lt (Nat.lt_of_lt_of_le this hlen)) (by decide)
    have i16 : i ≤ sizeLine := Nat.le_trans (Nat.le_of_lt (Nat.lt_of_lt_of_le hi hlen)) (by decide)
    have rw1 := hs1.rd (c := lawCx P prog w A L fa cd X m h) rw
    have rt1 := hs1.rd (c := lawCx P prog w A L fa cd X m h) rt
    have nm : ∀ z, (kr.all fun y => !(z == y)) = true → (z == Str.ofString "k") = false → ∀ {vv}, m z = some vv → bindTo m' [Str.ofString "k"] [.int (i : Nat) tk] z = some vv := fun z h1 h2 vv e => ub.get h2 (hS'.get h1 e)
    have enc1 : ∀ p, Ev (cxOf O1) (.Name (Str.ofString "words") p) (.list (ws.map encW)) := fun p => ev_local O1 (by kernel_rfl) (nm _ (by kernel_rfl) (by kernel_rfl) hm) rw1 (by kernel_rfl)
    have epl : ∀ p, Ev (cxOf O1) (.Name (Str.ofString "place") p) (.int (pl : Nat)) := fun p => ev_local O1 (by kernel_rfl) (nm _ (by kernel_rfl) (by kernel_rfl) hp) (.int _ _) (by kernel_rfl)
    have ekk : ∀ p, Ev (cxOf O1) (.Name (Str.ofString "k") p) (.int (i : Nat)) := fun p => ev_local O1 (by kernel_rfl) ub.self (.int _ _) (by kernel_rfl)
    have fr : (((prs t u).filter fun _ => true).map fun p => PyData.int (ring1 p)) = ((prs t u).map ring1).map PyData.int := by rw [filt, List.map_map]; rfl
    have fc : (((chs t u).filter fun _ => true).map fun p => PyData.int (cost1 p)) = ((chs t u).map cost1).map PyData.int := by rw [filt, List.map_map]; rfl
    refine go_let (d := .int (ringW t u)) O1 bs_mono (ev_sum (ns := (prs t u).map ring1) O1 (by kernel_rfl) rfl rfl (fr ▸ ev_comp (tn := [Str.ofString "p", Str.ofString "q"]) (cl := []) (xs := prs t u) (enc := fun p => [.int (p.1 : Nat), .int (p.2 : Nat)]) (p := fun _ => true) (f := fun p => .int (ring1 p)) O1 bs_mono
      (src_zip (xs := prs t u) (d1 := encW t) (d2 := encW u) (f1 := fun p : Nat × Nat => .int (p.1 : Nat)) (f2 := fun p : Nat × Nat => .int (p.2 : Nat)) O1 (glob_builtin O1 (by kernel_rfl) rfl rfl (by kernel_rfl) (by kernel_rfl) ne_zip (by kernel_rfl)) (ev_index_list (enc1 _) (epl _) (by rw [List.getElem?_map, hpl]; rfl) pl16 (fun _ _ => rfl)) (ev_index_list (enc1 _) (ekk _) (by rw [List.getElem?_map, hu]; rfl) i16 (fun _ _ => rfl)) (.tuple [.int t.1, .int t.2.1, .int t.2.2]) (.tuple [.int u.1, .int u.2.1, .int u.2.2]) rfl rfl)
      ⟨by kernel_rfl, by decide +kernel, by kernel_rfl, by decide +kernel, by decide +kernel, fun _ => rfl⟩ (show 3 ≤ sizeLine by decide) ?_) rfl) (by kernel_rfl) rfl fun vr m2 h2 u2 O2 st2 r2 => ?_
    · intro p hp' C X' m'' vs h'' hs'' O'' hr'' hl''
      obtain ⟨v1, vs', rfl, q1, q2⟩ := hr''.inv_cons
      obtain ⟨v2, vs', rfl, q3, q4⟩ := q2.inv_cons
      obtain rfl := q4.inv_nil
      have ep : ∀ ps, Ev (cxOf O'') (.Name (Str.ofString "p") ps) (.int (p.1 : Nat)) := fun ps => ev_local O'' (by kernel_rfl) (bind2a m'' (Str.ofString "p") (Str.ofString "q") v1 v2 (by kernel_rfl)) q1 (by kernel_rfl)
      have eq : ∀ ps, Ev (cxOf O'') (.Name (Str.ofString "q") ps) (.int (p.2 : Nat)) := fun ps => ev_local O'' (by kernel_rfl) (bind2b m'' (Str.ofString "p") (Str.ofString "q") v1 v2) q3 (by kernel_rfl)
      exact ⟨tsts_nil, fun _ => ev_min O'' (by kernel_rfl) rfl rfl (ev_binop (ev_binop (ep _) (eq _) op_sub) ev_int (op_mod (by decide))) (ev_binop (ev_binop (eq _) (ep _) op_sub) ev_int (op_mod (by decide))) rfl rfl⟩
    obtain ⟨trg, rfl⟩ := r2.inv_int
    have LX' : ∀ b ∈ [L], b ∈ wr ++ X := fun b hb => by rw [List.mem_singleton.mp hb]; exact List.mem_append.mpr (.inr hLX)
    have hp2 : h2.PlainList ap items := hp1.at fun o e => st2.keep _ o (fun q => haL (List.mem_singleton.mp q)) e
    have hr2 := hr1'.keepX (KeepX.mono st2.keep LX')
    have rt2 := rt1.keepX (KeepX.mono st2.keep LX')
    have mt2 : m2 (Str.ofString "texts") = some vt := u2.get (by kernel_rfl) (nm _ (by kernel_rfl) (by kernel_rfl) ht)
    have mp2 : m2 (Str.ofString "place") = some (.int (pl : Nat) tp) := u2.get (by kernel_rfl) (nm _ (by kernel_rfl) (by kernel_rfl) hp)
    have mk2 : m2 (Str.ofString "k") = some (.int (i : Nat) tk) := u2.get (by kernel_rfl) ub.self
    have ma2 : m2 (Str.ofString "apart") = some (.ref ap) := u2.get (by kernel_rfl) (ub.get (by kernel_rfl) e1)
    have isz : items.size = i := by have := hr2.length; simp at this; omega
    have etx : ∀ p, Ev (cxOf O2) (.Name (Str.ofString "texts") p) (.list (ws.map fun t => .str (ltW t))) := fun p => ev_local O2 (by kernel_rfl) mt2 rt2 (by kernel_rfl)
    refine go_append (a := ap) (items := items) (d := .int (costW t u)) O2 bs_mono (evp_local O2 (by kernel_rfl) ma2 (fun _ _ => rfl) (by kernel_rfl)) hp2 (List.mem_append.mpr (.inr haX)) haL
      (ev_sum (ns := (chs t u).map cost1) O2 (by kernel_rfl) rfl rfl (fc ▸ ev_comp (tn := [Str.ofString "one", Str.ofString "two"]) (cl := []) (xs := chs t u) (enc := fun p => [.str ⟨#[p.1]⟩, .str ⟨#[p.2]⟩]) (p := fun _ => true) (f := fun p => .int (cost1 p)) O2 bs_mono
        (src_zip (xs := chs t u) (d1 := .str (ltW t)) (d2 := .str (ltW u)) (f1 := fun p : Nat × Nat => .str ⟨#[p.1]⟩) (f2 := fun p : Nat × Nat => .str ⟨#[p.2]⟩) O2 (glob_builtin O2 (by kernel_rfl) rfl rfl (by kernel_rfl) (by kernel_rfl) ne_zip (by kernel_rfl)) (ev_index_list (etx _) (ev_local O2 (by kernel_rfl) mp2 (.int _ _) (by kernel_rfl)) (by rw [List.getElem?_map, hpl]; rfl) pl16 (fun _ _ => rfl)) (ev_index_list (etx _) (ev_local O2 (by kernel_rfl) mk2 (.int _ _) (by kernel_rfl)) (by rw [List.getElem?_map, hu]; rfl) i16 (fun _ _ => rfl)) (iter_fst tok uok) (iter_snd tok uok) rfl rfl)
        ⟨by kernel_rfl, by decide +kernel, by kernel_rfl, by decide +kernel, by decide +kernel, fun _ => rfl⟩ (by unfold chs; rw [List.length_zip, lt_size tok, lt_size uok]; decide) ?_) rfl)
      (by rw [isz]; exact i16) rfl rfl rfl (by kernel_rfl) fun v3 h3 r3 hp3 O3 st3 => ?_
    · intro p hp' C X' m'' vs h'' hs'' O'' hr'' hl''
      obtain ⟨v1, vs', rfl, q1, q2⟩ := hr''.inv_cons
      obtain ⟨v2, vs', rfl, q3, q4⟩ := q2.inv_cons
      obtain rfl := q4.inv_nil
      have e1 : ∀ ps, Ev (cxOf O'') (.Name (Str.ofString "one") ps) (.str ⟨#[p.1]⟩) := fun ps => ev_local O'' (by kernel_rfl) (bind2a m'' (Str.ofString "one") (Str.ofString "two") v1 v2 (by kernel_rfl)) q1 (by kernel_rfl)
      have e2 : ∀ ps, Ev (cxOf O'') (.Name (Str.ofString "two") ps) (.str ⟨#[p.2]⟩) := fun ps => ev_local O'' (by kernel_rfl) (bind2b m'' (Str.ofString "one") (Str.ofString "two") v1 v2) q3 (by kernel_rfl)
      have hz := List.of_mem_zip hp'
      exact ⟨tsts_nil, fun _ => evp_fn O'' (by kernel_rfl) rfl (by kernel_rfl) (by kernel_rfl) fok28.fn (evl_cons (e1 _) (evl_cons (e2 _) evl_nil rfl) rfl) (subst_cost O'' (hr.less (Nat.le_add_left 1 (n + 1))) (lt_ch tok _ hz.1).2 (lt_ch uok _ hz.2).2) rfl⟩
    have tk1 : (ws.take (i + 1)).map (costW t) = (ws.take i).map (costW t) ++ [costW t u] := by rw [List.take_add_one, hu]; simp
    have rd3 : RdL (wr ++ X) h3 (items.push v3).toList (((ws.take (i + 1)).map (costW t)).map PyData.int) := by
      rw [tk1, List.map_append, Array.toList_push]
      exact (hr2.keepX (KeepX.mono st3.keep fun b hb => by rw [List.mem_singleton.mp hb]; exact List.mem_append.mpr (.inr haX))).append (.cons r3 .nil)
    have fX : ∀ b ∈ (wr ++ X).filter (fun b => b != ap), b ∈ wr ++ X := fun b hb => (List.mem_filter.mp hb).1
    have aF : ap ∉ (wr ++ X).filter (fun b => b != ap) := fun q => by have := (List.mem_filter.mp q).2; simp at this
    have LF : L ∈ (wr ++ X).filter (fun b => b != ap) := List.mem_filter.mpr ⟨List.mem_append.mpr (.inr hLX), by simpa using haL.symm⟩
    have O3' := O3.unhide bs_mono ((wr ++ X).filter (fun b => b != ap)) fX LF
    have hget : (((ws.take (i + 1)).map (costW t)).map PyData.int)[i]? = some (.int (costW t u)) := by
      rw [tk1, List.map_append, List.getElem?_append_right (by simp; omega)]
      have : i - (((ws.take i).map (costW t)).map PyData.int).length = 0 := by simp; omega
      rw [this]; rfl
    refine go_if O3 bs_mono (tst_of (X' := (wr ++ X).filter (fun b => b != ap)) (tst_compare (ev_index_list (ev_local O3' (by kernel_rfl) ma2 (.list (hid_list hp3.isList aF) (rd3.sub fX)) (by kernel_rfl)) (ev_local O3' (by kernel_rfl) mk2 (.int _ _) (by kernel_rfl)) hget i16 (fun _ _ => rfl)) (ev_local O3' (by kernel_rfl) u2.self (.int (ringW t u) trg) (by kernel_rfl)) op_ne (by kernel_rfl))) (fun e h4 k4 O4 st4 => ?_) (fun e h4 k4 O4 st4 => ?_)
    · rw [hcost t u tok uok] at e
      simp at e
    · have kk : KeepX [ap, L] h1 h4 := fun b o hb e => k4 b o (st3.keep b o (fun q => hb (by rw [List.mem_singleton.mp q]; exact .head _)) (st2.keep b o (fun q => hb (.tail _ q)) e))
      exact go_nil (then_nil (.inl ⟨rfl, m2, kk, O4, ⟨items.push v3, ma2, hp3.at fun o e => k4 _ o e, rd3.keep k4⟩, (hS'.up ub (.head _)).up u2 (.tail _ (.head _))⟩))
  · rintro wr m' h1 h2 hw ⟨⟨items, e1, e2, e3⟩, hS'⟩ hk O1 hn kW
    have O2 := after_for O bs_mono O1 hw hk hn kW WX
    have awr : ap ∉ wr := fun q => by obtain ⟨o, e⟩ := O.live ap haX; have := (hw ap q).symm.trans e; cases this
    rw [upto_length] at e3
    refine go_nil (.inl ⟨rfl, X, m', hF m' h2 kW O2 ⟨items, e1, e2.at fun o e => hk _ o awr e, ?_⟩ hS'⟩)
    exact (e3.keepX fun b o hb e => hk b o (fun q => hb (List.mem_append.mpr (.inl q))) e).sub fun b hb => List.mem_append.mpr (.inr hb)
end
end Mine
end

section
open PySem PySem.W PyProof.Rows PySem.SeqAt
set_option Elab.async false
set_option maxRecDepth 100000
set_option linter.unusedVariables false
namespace Mine

/-! The plain law. -/
theorem nm_len1 : ∀ k < 64, 1 ≤ (nmAt (64 + (k : Nat)) 7).length := by decide +kernel
def wt (t : Wd) : Nat := (nmW t).length - 1
/-- the weight of a digit -/
def dg (q : Nat) : Nat := [0, 1, 2, 1].getD q 0
def wg (t : Wd) : Nat := dg t.1 + dg t.2.1 + dg t.2.2
theorem wt_wg : ∀ x < 4, ∀ y < 4, ∀ z < 4, wt (x, y, z) = wg (x, y, z) := by decide +kernel
theorem dg_lt : ∀ x < 4, dg x < 3 := by decide
def rg (p q : Nat) : Nat := dg ((p + 4 - q) % 4)
theorem ring1_rg : ∀ x < 4, ∀ y < 4, ring1 (x, y) = (rg x y : Nat) := by decide +kernel
def rgW (t u : Wd) : Nat := rg t.1 u.1 + rg t.2.1 u.2.1 + rg t.2.2 u.2.2
theorem ringW_rg {t u : Wd} (h : okW t) (h' : okW u) : ringW t u = (rgW t u : Nat) := by
  unfold ringW prs rgW
  simp only [List.map_cons, List.map_nil, List.sum_cons, List.sum_nil]
  rw [ring1_rg _ h.1 _ h'.1, ring1_rg _ h.2.1 _ h'.2.1, ring1_rg _ h.2.2 _ h'.2.2]
  push_cast; omega
/-- the letters of a word, by its digits -/
def ltD (i q : Nat) : List Nat := [[97 + 2 * i, 98 + 2 * i], [65 + 2 * i, 98 + 2 * i], [65 + 2 * i, 66 + 2 * i], [97 + 2 * i, 66 + 2 * i]].getD q []
theorem lt_dig : ∀ x < 4, ∀ y < 4, ∀ z < 4, (ltW (x, y, z)).cps.toList = ltD 0 x ++ ltD 1 y ++ ltD 2 z := by decide +kernel
theorem cost_dig : ∀ i < 3, ∀ x < 4, ∀ y < 4, (((ltD i x).zip (ltD i y)).map cost1).sum = (rg x y : Nat) := by decide +kernel
theorem ltD_len : ∀ i < 3, ∀ x < 4, (ltD i x).length = 2 := by decide
theorem cost_ring {t u : Wd} (h : okW t) (h' : okW u) : costW t u = ringW t u := by
  obtain ⟨x, y, z⟩ := t
  obtain ⟨x', y', z'⟩ := u
  rw [ringW_rg h h']
  unfold costW chs
  rw [lt_dig x h.1 y h.2.1 z h.2.2, lt_dig x' h'.1 y' h'.2.1 z' h'.2.2]
  rw [List.zip_append (by rw [List.length_append, List.length_append, ltD_len 0 (by decide) x h.1, ltD_len 1 (by decide) y h.2.1, ltD_len 0 (by decide) x' h'.1, ltD_len 1 (by decide) y' h'.2.1]),
    List.zip_append (by rw [ltD_len 0 (by decide) x h.1, ltD_len 0 (by decide) x' h'.1]), List.map_append, List.map_append, List.sum_append, List.sum_append,
    cost_dig 0 (by decide) x h.1 x' h'.1, cost_dig 1 (by decide) y h.2.1 y' h'.2.1, cost_dig 2 (by decide) z h.2.2 z' h'.2.2]
  unfold rgW; push_cast; rfl
end Mine
end

section
open PySem PySem.W PyProof.Rows PySem.SeqAt
set_option Elab.async false
set_option maxRecDepth 100000
set_option linter.unusedVariables false
namespace Mine
theorem eqvW (s t : Wd) : PyData.eqv (encW s) (encW t) = (s == t) := by
  obtain ⟨a, b, c⟩ := s
  obtain ⟨x, y, z⟩ := t
  unfold encW
  simp only [PyData.eqv, PyData.eqvAll, Bool.and_true]
  rw [Bool.eq_iff_iff]
  simp only [Bool.and_eq_true, beq_iff_eq, Prod.mk.injEq]
  omega
def addF (ws : List Wd) (t : Wd) : List Wd := if ws.contains t then ws else ws ++ [t]
theorem addW_F (ws : List Wd) (t : Wd) : addW ws t = addF ws t := by
  unfold addW addF
  have e : ((ws.map encW).any fun y => PyData.eqv y (encW t)) = ws.contains t := by
    induction ws with
    | nil => rfl
    | cons s ws ih => rw [List.map_cons, List.any_cons, List.contains_cons, ih, eqvW, BEq.comm]
  rw [e]
  cases ws.contains t <;> rfl
def fw (a b c d : Nat) : Nat → List Wd
  | 0 => []
  | k + 1 => addF (fw a b c d k) (wordOf a b c d (k / 4) (k % 4))
theorem wAt_fw (a b c d : Nat) : ∀ k, wAt a b c d k = fw a b c d k
  | 0 => rfl
  | k + 1 => by unfold wAt fw; rw [wAt_fw a b c d k, addW_F]

theorem bump_cons0 (x : Int) (xs : List Int) : bump (x :: xs) 0 = (x + 1) :: xs := by
  unfold bump wsGrow; simp
theorem bump_consS (x : Int) (xs : List Int) (k : Nat) : bump (x :: xs) (k + 1) = x :: bump xs k := by
  unfold bump wsGrow
  simp only [List.length_cons, Nat.add_le_add_iff_right, Nat.add_sub_add_right]
  split <;> simp
theorem bump_nil0 : bump [] 0 = [1] := rfl
theorem bump_nilS (k : Nat) : bump [] (k + 1) = 0 :: bump [] k := by
  unfold bump wsGrow
  simp [List.replicate_succ]
end Mine
end

section
open PySem PySem.W PyProof.Rows PySem.SeqAt
set_option Elab.async false
set_option maxRecDepth 100000
set_option linter.unusedVariables false
namespace Mine

theorem wt_len {t : Wd} (h : okW t) : (((nmW t).map PyData.str).length : Int) - 1 = (wt t : Nat) := by
  have := nm_len1 _ (code_lt h.1 h.2.1 h.2.2)
  have e : (nmW t).length = (nmAt (64 + (code t.1 t.2.1 t.2.2 : Nat)) 7).length := rfl
  rw [List.length_map]; unfold wt; omega
theorem wt_lt {t : Wd} (h : okW t) : wt t < 7 := by
  have : (nmW t).length ≤ 7 := nm_len _ 7
  have := nm_len1 _ (code_lt h.1 h.2.1 h.2.2)
  have e : (nmW t).length = (nmAt (64 + (code t.1 t.2.1 t.2.2 : Nat)) 7).length := rfl
  unfold wt; omega
theorem wts_lt {ws : List Wd} (h : ∀ t ∈ ws, okW t) : ∀ k ∈ ws.map wt, k < 7 := fun k hk => by
  obtain ⟨t, ht, rfl⟩ := List.mem_map.mp hk; exact wt_lt (h t ht)
theorem mapN {ws : List Wd} (f : Wd → Nat) : ((ws.filter fun _ => true).map fun t => PyData.int (f t : Nat)) = (ws.map f).map fun k : Nat => PyData.int k := by rw [filt, List.map_map]; rfl
theorem stable_lead {c : Cx} {ns : List Int} {b nt : Nat} : Stable c (fun h v => Lead c.X h v ns b nt) := fun h h' v k l => l.keepX k

section
variable {P : Params}
theorem evp_lead {c : Cx} {mg mb : Str → Option Value} {n : Nat} {e : Expr} {p pos : Pos} {ks : List Nat} (O : c.Ok (Bs (KK P) mg mb)) (hr : Room c.A (n + 8)) (h7 : ∀ k ∈ ks, k < 7) (hl : ks.length ≤ 16) (hk : c.env.kindOf (Str.ofString "_law_lead") = some .globalImplicit) (hg : c.env.globals = mainGlobals) (he : Ev c e (.list (ks.map fun k : Nat => .int k))) (hs : starEach [e] c.env = (false, eval e c.env) :: starEach [] c.env) :
    EvP c (.Call (.Name (Str.ofString "_law_lead") p) [e] [] pos) (fun h v => Lead c.X h v (ks.foldl bump []) 0 ks.length) :=
  evp_fn O hk hg (by kernel_rfl) (by kernel_rfl) fok117.fn (evl_cons he evl_nil hs) (law_lead h7 hl O hr) hs

theorem near_go {prog : Program} {w : World} {A : Around} {L fa : Addr} {cd : Value} {X : List Addr} {m : Str → Option Value} {h : Heap} {mg mb : Str → Option Value} {ws : List Wd} {vn : Value} {F : Flow → Heap → Prop} {n : Nat} (O : (lawCx P prog w A L fa cd X m h).Ok (Bs (KK P) mg mb)) (hr : Room A (n + 8)) (hm : m (Str.ofString "named") = some vn) (rn : Rd X h vn (.list (ws.map nmD))) (hok : ∀ t ∈ ws, okW t) (hlen : ws.length ≤ 16)
    (hF : ∀ v m' h', Up m m' (Str.ofString "near") v → (lawCx P prog w A L fa cd X m' h').Ok (Bs (KK P) mg mb) → KeepX [L] h h' → Lead X h' v ((ws.map wt).foldl bump []) 0 ws.length → Go (lawCx P prog w A L fa cd X m' h') (lawRest 11) F) : Go (lawCx P prog w A L fa cd X m h) (lawRest 10) F := by
  refine go_letV O bs_mono (evp_lead (ks := ws.map wt) O hr (wts_lt hok) (by rw [List.length_map]; exact hlen) (by kernel_rfl) rfl (mapN wt ▸ ev_comp (tn := [Str.ofString "flags"]) (cl := []) (xs := ws) (enc := fun t => [nmD t]) (p := fun _ => true) (f := fun t => .int (wt t : Nat)) O bs_mono (src_list (enc := nmD) O (ev_local O (by kernel_rfl) hm rn (by kernel_rfl))) ⟨by kernel_rfl, by decide +kernel, by kernel_rfl, by decide +kernel, by decide +kernel, fun _ => rfl⟩ (Nat.le_trans hlen (by decide)) ?_) rfl) stable_lead (by kernel_rfl) rfl fun v m' h' u O' st l => hF v m' h' u O' st.keep (by have := l; rw [List.length_map] at this; exact this)
  intro t ht C X' m' vs h' hs O' hr' hl
  obtain ⟨v, vs', rfl, rv, rn⟩ := hr'.inv_cons
  obtain rfl := rn.inv_nil
  have e0 : ∀ p, Ev (cxOf O') (.Name (Str.ofString "flags") p) (.list ((nmW t).map PyData.str)) := fun p => ev_local O' (by kernel_rfl) (bind1 m' (Str.ofString "flags") v).self rv (by kernel_rfl)
  refine ⟨tsts_nil, fun _ => wt_len (hok t ht) ▸ ev_binop (ev_len O' (by kernel_rfl) rfl rfl (e0 _) ?_ rfl) ev_int op_sub⟩
  rw [List.length_map]; exact Nat.le_trans (nm_len _ 7) (by decide)

theorem back_go {prog : Program} {w : World} {A : Around} {L fa : Addr} {cd : Value} {X : List Addr} {m : Str → Option Value} {h : Heap} {mg mb : Str → Option Value} {ws : List Wd} {vn : Value} {F : Flow → Heap → Prop} {n : Nat} (O : (lawCx P prog w A L fa cd X m h).Ok (Bs (KK P) mg mb)) (hr : Room A (n + 8)) (hm : m (Str.ofString "dual") = some vn) (rn : Rd X h vn (.list (ws.map encW))) (hok : ∀ t ∈ ws, okW t) (hlen : ws.length ≤ 16)
    (hF : ∀ v m' h', Up m m' (Str.ofString "back") v → (lawCx P prog w A L fa cd X m' h').Ok (Bs (KK P) mg mb) → KeepX [L] h h' → Lead X h' v ((ws.map wt).foldl bump []) 0 ws.length → Go (lawCx P prog w A L fa cd X m' h') (lawRest 12) F) : Go (lawCx P prog w A L fa cd X m h) (lawRest 11) F := by
  refine go_letV O bs_mono (evp_lead (ks := ws.map wt) O hr (wts_lt hok) (by rw [List.length_map]; exact hlen) (by kernel_rfl) rfl (mapN wt ▸ ev_comp (tn := [Str.ofString "word"]) (cl := []) (xs := ws) (enc := fun t => [encW t]) (p := fun _ => true) (f := fun t => .int (wt t : Nat)) O bs_mono (src_list (enc := encW) O (ev_local O (by kernel_rfl) hm rn (by kernel_rfl))) ⟨by kernel_rfl, by decide +kernel, by kernel_rfl, by decide +kernel, by decide +kernel, fun _ => rfl⟩ (Nat.le_trans hlen (by decide)) ?_) rfl) stable_lead (by kernel_rfl) rfl fun v m' h' u O' st l => hF v m' h' u O' st.keep (by have := l; rw [List.length_map] at this; exact this)
  intro t ht C X' m' vs h' hs O' hr' hl
  obtain ⟨v, vs', rfl, rv, rn⟩ := hr'.inv_cons
  obtain rfl := rn.inv_nil
  have e0 : ∀ p, Ev (cxOf O') (.Name (Str.ofString "word") p) (encW t) := fun p => ev_local O' (by kernel_rfl) (bind1 m' (Str.ofString "word") v).self rv (by kernel_rfl)
  refine ⟨tsts_nil, fun _ => wt_len (hok t ht) ▸ ev_binop (ev_len O' (by kernel_rfl) rfl rfl (ev_named (n := n) O' (hr.less (by omega)) (hok t ht) (by kernel_rfl) rfl (e0 _) rfl) ?_ rfl) ev_int op_sub⟩
  rw [List.length_map]; exact Nat.le_trans (nm_len _ 7) (by decide)

/-- `is not True` of True itself -/
theorem tst_isnot {c : Cx} {e : Expr} {k : Nat} {p pos : Pos} (he : EvP c e (fun _ v => v = .bool true)) (hm : behindInMarks .IsNot (.Constant (.bool true) k p) = false) : Tst c (.Compare e [.IsNot] [.Constant (.bool true) k p] pos) false := fun s Q E kk h =>
  wpAny_isTrue_Compare1 (he s _ _ kk fun v1 s1 k1 r1 => ev_bool s1 _ _ (fun b o e => k1.keep b o (kk b o e)) fun v2 s2 k2 r2 => by
    rw [r1, r2.inv_bool]
    exact wpAny_isNot_self rfl (wpAny_truthy_bool (h _ (k1.trans k2)))) hm
end
end Mine
end

section
open PySem PySem.W PyProof.Rows PySem.SeqAt
set_option Elab.async false
set_option maxRecDepth 100000
set_option linter.unusedVariables false
namespace Mine

theorem eqv_ints : ∀ ns : List Int, PyData.eqvAll (ns.map PyData.int) (ns.map PyData.int) = true
  | [] => by simp [PyData.eqvAll]
  | n :: ns => by simp [PyData.eqvAll, PyData.eqv, eqv_ints ns]
theorem eqv_norm (ns : List Int) (b : Nat) : PyData.eqv (normD ns b) (normD ns b) = true := by
  unfold normD; simp [PyData.eqv, PyData.eqvAll, eqv_ints ns]
theorem rg_lt : ∀ x < 4, ∀ y < 4, rg x y < 3 := by decide
theorem rgW_lt {t u : Wd} (h : okW t) (h' : okW u) : rgW t u < 7 := by
  have := rg_lt _ h.1 _ h'.1; have := rg_lt _ h.2.1 _ h'.2.1; have := rg_lt _ h.2.2 _ h'.2.2
  unfold rgW; omega
theorem cost_list {ws : List Wd} {t : Wd} (ht : okW t) (h : ∀ u ∈ ws, okW u) : (ws.map (costW t)).map PyData.int = (ws.map (rgW t)).map fun k : Nat => PyData.int k := by
  rw [List.map_map, List.map_map]
  refine List.map_congr_left fun u hu => ?_
  show PyData.int (costW t u) = PyData.int (rgW t u : Nat)
  rw [cost_ring ht (h u hu), ringW_rg ht (h u hu)]
def dgs (t : Wd) : List Nat := [t.1, t.2.1, t.2.2]
def dmin (q : Nat) : Int := min (q : Int) (4 - q)
theorem dmin_dg : ∀ q < 4, dmin q = (dg q : Nat) := by decide
theorem wgI {t : Wd} (h : okW t) : ((dgs t).map dmin).sum = (wg t : Nat) := by
  unfold dgs wg
  simp only [List.map_cons, List.map_nil, List.sum_cons, List.sum_nil]
  rw [dmin_dg _ h.1, dmin_dg _ h.2.1, dmin_dg _ h.2.2]
  push_cast; omega

section
variable {P : Params}
theorem equal_go {prog : Program} {w : World} {A : Around} {L fa : Addr} {cd : Value} {X : List Addr} {m : Str → Option Value} {h : Heap} {mg mb : Str → Option Value} {ws : List Wd} {t : Wd} {va vn : Value} {nt : Nat} {F : Flow → Heap → Prop} {n : Nat} (O : (lawCx P prog w A L fa cd X m h).Ok (Bs (KK P) mg mb)) (hr : Room A (n + 8)) (hn : m (Str.ofString "near") = some vn) (ln : Lead X h vn ((ws.map wt).foldl bump []) 0 nt) (hm : m (Str.ofString "apart") = some va) (rn : Rd X h va (.list ((ws.map (costW t)).map PyData.int))) (ht : okW t) (hok : ∀ t ∈ ws, okW t) (hlen : ws.length ≤ 16)
    (hP : (ws.map wt).foldl bump [] = (ws.map (rgW t)).foldl bump [])
    (hF : ∀ h', (lawCx P prog w A L fa cd X m h').Ok (Bs (KK P) mg mb) → Keep h h' → Go (lawCx P prog w A L fa cd X m h') (lawRest 13) F) : Go (lawCx P prog w A L fa cd X m h) (lawRest 12) F := by
  rw [cost_list ht hok] at rn
  have lead2 : ∀ {p1 p2 p3 : Pos}, EvP (cxOf O) (.Call (.Name (Str.ofString "_law_lead") p1) [.Name (Str.ofString "apart") p2] [] p3) (fun h v => Lead X h v ((ws.map (rgW t)).foldl bump []) 0 (ws.map (rgW t)).length) := fun {p1 p2 p3} =>
    evp_lead (ks := ws.map (rgW t)) O hr (fun k hk => by obtain ⟨u, hu, rfl⟩ := List.mem_map.mp hk; exact rgW_lt ht (hok u hu)) (by rw [List.length_map]; exact hlen) (by kernel_rfl) rfl (ev_local O (by kernel_rfl) hm rn (by kernel_rfl)) rfl
  have eqt : PyData.eqv (normD ((ws.map wt).foldl bump []) 0) (normD ((ws.map (rgW t)).foldl bump []) 0) = true := by rw [hP]; exact eqv_norm _ _
  refine go_if O bs_mono (tst_isnot (fun s Q E k hq => evp_equal O (hr.less (show n + 1 ≤ n + 8 by omega)) (by kernel_rfl) hn ln (by kernel_rfl) lead2 rfl rfl s Q E k fun v s' k' r => hq v s' k' (by rw [r, eqt])) (by kernel_rfl)) (fun e => nomatch e) (fun _ h' k O' st => go_nil (.inl ⟨rfl, X, m, hF h' O' k⟩))

theorem weights_go {prog : Program} {w : World} {A : Around} {L fa : Addr} {cd : Value} {X : List Addr} {m : Str → Option Value} {h : Heap} {mg mb : Str → Option Value} {ws : List Wd} {vw : Value} {v0 : Option Value} {F : Flow → Heap → Prop} (O : (lawCx P prog w A L fa cd X m h).Ok (Bs (KK P) mg mb)) (hm : m (Str.ofString "words") = some vw) (rw : Rd X h vw (.list (ws.map encW))) (hok : ∀ t ∈ ws, okW t) (hlen : ws.length ≤ 16) (hc : h.IsCell (L + 5) v0) (hcX : L + 5 ∈ X)
    (hF : ∀ v h', h'.IsCell (L + 5) (some v) → (lawCx P prog w A L fa cd X m h').Ok (Bs (KK P) mg mb) → KeepX [L + 5] h h' → RdP X h' v ((ws.map fun t => ((wg t : Nat) : Int)).map PyData.int) → Go (lawCx P prog w A L fa cd X m h') (lawRest 14) F) : Go (lawCx P prog w A L fa cd X m h) (lawRest 13) F := by
  have e0 : ((ws.filter fun _ => true).map fun t => PyData.int (wg t : Nat)) = (ws.map fun t => ((wg t : Nat) : Int)).map PyData.int := by rw [filt, List.map_map]; rfl
  refine go_letCell (a := L + 5) O bs_mono (evp_comp (tn := [Str.ofString "word"]) (cl := []) (xs := ws) (enc := fun t => [encW t]) (p := fun _ => true) (f := fun t => .int (wg t : Nat)) O bs_mono (src_list (enc := encW) O (ev_local O (by kernel_rfl) hm rw (by kernel_rfl))) ⟨by kernel_rfl, by decide +kernel, by kernel_rfl, by decide +kernel, by decide +kernel, fun _ => rfl⟩ (Nat.le_trans hlen (by decide)) ?_) stable_rdp (by kernel_rfl) (by kernel_rfl) hc hcX (Nat.ne_of_gt (Nat.lt_add_of_pos_right (by decide))) (by kernel_rfl) fun v h' hc' O' st r => hF v h' hc' O' st.keep (e0 ▸ r)
  intro t ht C X' m' vs h' hs O' hr' hl
  obtain ⟨v, vs', rfl, rv, rn⟩ := hr'.inv_cons
  obtain rfl := rn.inv_nil
  have fq : (((dgs t).filter fun _ => true).map fun q => PyData.int (dmin q)) = ((dgs t).map dmin).map PyData.int := by rw [filt, List.map_map]; rfl
  refine ⟨tsts_nil, fun _ => wgI (hok t ht) ▸ ev_sum (ns := (dgs t).map dmin) O' (by kernel_rfl) rfl rfl (fq ▸ ev_comp (tn := [Str.ofString "q"]) (cl := []) (xs := dgs t) (enc := fun q : Nat => [.int q]) (p := fun _ => true) (f := fun q => .int (dmin q)) O' bs_mono (src_tuple (xs := dgs t) (enc := fun q : Nat => .int q) O' (ev_local O' (by kernel_rfl) (bind1 m' (Str.ofString "word") v).self rv (by kernel_rfl))) ⟨by kernel_rfl, by decide +kernel, by kernel_rfl, by decide +kernel, by decide +kernel, fun _ => rfl⟩ (show 3 ≤ sizeLine by decide) ?_) rfl⟩
  intro q hq C2 X2 m2 vs2 h2 hs2 O2 hr2 hl2
  obtain ⟨v2, vs', rfl, rv2, rn⟩ := hr2.inv_cons
  obtain rfl := rn.inv_nil
  have eq : ∀ p, Ev (cxOf O2) (.Name (Str.ofString "q") p) (.int (q : Nat)) := fun p => ev_local O2 (by kernel_rfl) (bind1 m2 (Str.ofString "q") v2).self rv2 (by kernel_rfl)
  exact ⟨tsts_nil, fun _ => ev_min O2 (by kernel_rfl) rfl rfl (eq _) (ev_binop ev_int (eq _) op_sub) rfl rfl⟩
end
end Mine
end

section
open PySem PySem.W PyProof.Rows PySem.SeqAt
set_option Elab.async false
set_option maxRecDepth 100000
set_option linter.unusedVariables false
namespace Mine

section
variable {P : Params}
theorem ne_max : Str.ofString "max" ≠ "__name__" := by decide
theorem ne_enum : Str.ofString "enumerate" ≠ "__name__" := by decide
theorem evp_cell {c : Cx} {B : Heap → Prop} {x : Str} {pos : Pos} {v : Value} {a : Addr} {Pv : Heap → Value → Prop} (O : c.Ok B) (hl : c.env.kindOf x = some .cell) (hc : c.env.cells.lookup x = some a) (hm : c.h.IsCell a (some v)) (r : ∀ h', Keep c.h h' → Pv h' v) (hd : (x == ("__debug__" : Str)) = false) : EvP c (.Name x pos) Pv := fun s Q E k h =>
  wpAny_Name (wpAny_loadName_cell O.kind hl hc (cell_keep hm k) (h _ _ (.refl s) (r _ k))) hd
theorem RdP.sub2 {c c2 : Cx} {v : Value} {ds : List PyData} (s : c.Sub c2) (r : RdP c.X c.h v ds) : RdP c2.X c2.h v ds := by
  obtain ⟨a, items, rfl, hp, hr⟩ := r
  exact ⟨a, items, rfl, hp.at fun o e => s _ o e, s.rdl hr⟩
theorem tst_or {c : Cx} {e1 e2 : Expr} {pos : Pos} (h1 : Tst c e1 false) (h2 : Tst c e2 false) : Tst c (.BoolOp .Or [e1, e2] pos) false := fun s Q E k h =>
  wpAny_isTrue_BoolOp (wpAny_allTrue_Or_cons (h1 s _ _ k fun s1 k1 => wpAny_allTrue_Or_cons (h2 s1 _ _ (fun b o e => k1.keep b o (k b o e)) fun s2 k2 => wpAny_allTrue_Or_nil (h _ (k1.trans k2)))))

def hist (ns : List Int) (N : Nat) : List Int := (upto N).map fun a => ((ns.count a : Nat) : Int)

theorem norm_go {prog : Program} {w : World} {A : Around} {L fa : Addr} {cd : Value} {X : List Addr} {m : Str → Option Value} {h : Heap} {mg mb : Str → Option Value} {wI ns : List Int} {N nt : Nat} {vn vc : Value} {F : Flow → Heap → Prop} (O : (lawCx P prog w A L fa cd X m h).Ok (Bs (KK P) mg mb)) (hn : m (Str.ofString "near") = some vn) (ln : Lead X h vn ns 0 nt) (hc : (hideAll h X).IsCell (L + 5) (some vc)) (rc : RdP X h vc (wI.map PyData.int)) (hne : 0 < wI.length) (hN : maxL wI + 1 = (N : Nat)) (hN7 : N ≤ 7)
    (hP : ns = hist wI N)
    (hF : ∀ h', (lawCx P prog w A L fa cd X m h').Ok (Bs (KK P) mg mb) → Keep h h' → Go (lawCx P prog w A L fa cd X m h') (lawRest 15) F) : Go (lawCx P prog w A L fa cd X m h) (lawRest 14) F := by
  have fh : (((upto N).filter fun _ => true).map fun a => PyData.int ((wI.count a : Nat) : Int)) = (hist wI N).map PyData.int := by rw [filt]; unfold hist; rw [List.map_map]; rfl
  have hl : (hist wI N).length = N := by unfold hist; rw [List.length_map, upto_length]
  have eqt : (!PyData.eqv (normD ns 0) (normD (hist wI N) 0)) = false := by rw [hP, eqv_norm]; rfl
  have emax : ∀ p1 p2 p3, Ev (cxOf O) (.Call (.Name (Str.ofString "max") p1) [.Name (Str.ofString "weights") p2] [] p3) (.int (maxL wI)) := fun p1 p2 p3 =>
    evp_call_builtin (glob_builtin O (by kernel_rfl) rfl rfl (by kernel_rfl) (by kernel_rfl) ne_max (by kernel_rfl)) (evl_cons (ev_cell O (by kernel_rfl) (by kernel_rfl) (cell_un hc) rc.rd (by kernel_rfl)) evl_nil rfl) (call_max O hne) rfl rfl
  refine go_if (b := !PyData.eqv (normD ns 0) (normD (hist wI N) 0)) O bs_mono (tst_compare (ev_norm O (by kernel_rfl) hn ln (by kernel_rfl)) (ev_tuple O (evl_cons (evp_call_type (glob_builtin O (by kernel_rfl) rfl rfl (by kernel_rfl) (by kernel_rfl) ne_tuple (by kernel_rfl)) (evl_cons (fh ▸ ev_comp (tn := [Str.ofString "n"]) (cl := [(Str.ofString "weights", L + 5)]) (xs := upto N) (enc := fun a => [.int a]) (p := fun _ => true) (f := fun a => .int ((wI.count a : Nat) : Int)) O bs_mono (src_range (n := N) O (glob_builtin O (by kernel_rfl) rfl rfl (by kernel_rfl) (by kernel_rfl) ne_range (by kernel_rfl)) (hN ▸ ev_binop (emax _ _ _) ev_int op_add) (Nat.le_trans hN7 (by decide)) rfl) ⟨by kernel_rfl, by decide +kernel, by kernel_rfl, by decide +kernel, by decide +kernel, fun _ => rfl⟩ (by rw [upto_length]; exact Nat.le_trans hN7 (by decide)) ?_) evl_nil rfl) (call_tuple O (by rw [List.length_map, hl]; exact Nat.le_trans hN7 (by decide))) rfl rfl) (evl_cons ev_int evl_nil rfl) rfl) (show 2 ≤ sizeLine by decide)) (op_dne O (shaped_norm _ _) (shaped_norm (hist wI N) 0)) (by kernel_rfl)) (fun e => absurd (e.symm.trans eqt) (by decide)) (fun _ h' k O' st => go_nil (.inl ⟨rfl, X, m, hF h' O' k⟩))
  intro a ha C X' m' vs h' hs O' hr' hl'
  obtain ⟨v, vs', rfl, rv, rn⟩ := hr'.inv_cons
  obtain rfl := rn.inv_nil
  have hc' : h'.IsCell (L + 5) (some vc) := cell_un (cell_keep hc hs)
  exact ⟨tsts_nil, fun _ => ev_count (evp_cell O' (by kernel_rfl) (by kernel_rfl) hc' (fun h2 k2 => (RdP.sub2 (c := lawCx P prog w A L fa cd X m h) hs rc).keepX (Keep.toX k2)) (by kernel_rfl)) (ev_local O' (by kernel_rfl) (bind1 m' (Str.ofString "n") v).self rv (by kernel_rfl)) rfl rfl rfl⟩
end
end Mine
end

section
open PySem PySem.W PyProof.Rows PySem.SeqAt
set_option Elab.async false
set_option maxRecDepth 100000
set_option linter.unusedVariables false
namespace Mine

def ownS (ns : List Int) : Int := (((upto ns.length).zip ns).map fun p => p.2 * (1 + 100) ^ (6 - p.1).toNat * (1 - 100) ^ p.1.toNat).sum
def backS (ns : List Int) : Int := (((upto ns.length).zip ns).map fun p => p.2 * 100 ^ p.1.toNat).sum
theorem pw1 : ∀ n < 7, Builtin.Int.intBits ((1 + 100 : Int) ^ (6 - (n : Nat) : Int).toNat) ≤ 64 := by decide +kernel
theorem pw2 : ∀ n < 7, Builtin.Int.intBits ((1 - 100 : Int) ^ ((n : Nat) : Int).toNat) ≤ 64 := by decide +kernel
theorem pw3 : ∀ n < 7, Builtin.Int.intBits ((100 : Int) ^ ((n : Nat) : Int).toNat) ≤ 64 := by decide +kernel

section
variable {P : Params}
theorem or_go {prog : Program} {w : World} {A : Around} {L fa : Addr} {cd : Value} {X : List Addr} {m : Str → Option Value} {h : Heap} {mg mb : Str → Option Value} {ns ns2 : List Int} {n1 n2 : Nat} {vn vb : Value} {F : Flow → Heap → Prop} (O : (lawCx P prog w A L fa cd X m h).Ok (Bs (KK P) mg mb)) (hn : m (Str.ofString "near") = some vn) (ln : Lead X h vn ns 0 n1) (hb : m (Str.ofString "back") = some vb) (lb : Lead X h vb ns2 0 n2) (h1 : n1 ≤ 16) (h2 : n1 * n2 = 64)
    (hF : ∀ h', (lawCx P prog w A L fa cd X m h').Ok (Bs (KK P) mg mb) → Keep h h' → Go (lawCx P prog w A L fa cd X m h') (lawRest 16) F) : Go (lawCx P prog w A L fa cd X m h) (lawRest 15) F := by
  have mo : IntMulOk (n1 : Int) (n2 : Int) := .of_left (by
    have : ∀ k < 17, Builtin.Int.intBits ((k : Nat) : Int) ≤ 64 := by decide +kernel
    exact this n1 (by omega))
  have e1 : ((n1 : Int) * (n2 : Int) != 64) = false := by
    have : (n1 : Int) * (n2 : Int) = 64 := by exact_mod_cast h2
    rw [this]; rfl
  have t1 : ∀ p1 p2 p3 p4 p5 p6 p7 k, Tst (cxOf O) (.Compare (.BinOp (.Attribute (.Name (Str.ofString "near") p1) (Str.ofString "nt") p2) .Mult (.Attribute (.Name (Str.ofString "back") p3) (Str.ofString "nt") p4) p5) [.NotEq] [.Constant (.int 64) k p6] p7) false := fun p1 p2 p3 p4 p5 p6 p7 k =>
    e1 ▸ tst_compare (ev_binop (ev_nt O (by kernel_rfl) hn ln (by kernel_rfl)) (ev_nt O (by kernel_rfl) hb lb (by kernel_rfl)) (op_mul mo)) ev_int op_ne rfl
  have t2 : ∀ p1 p2 p3 p4 p5 p6 k k2, Tst (cxOf O) (.Compare (.Subscript (.Attribute (.Name (Str.ofString "back") p1) (Str.ofString "norm") p2) (.Constant (.int 1) k p3) p4) [.NotEq] [.Constant (.int 0) k2 p5] p6) false := fun p1 p2 p3 p4 p5 p6 k k2 =>
    tst_compare (b := ((0 : Nat) : Int) != 0) (ev_index_tuple (i := 1) (ds := [.tuple (ns2.map PyData.int), .int ((0 : Nat) : Int)]) (ev_norm O (by kernel_rfl) hb lb (by kernel_rfl)) ev_int rfl (by decide) (fun _ _ => rfl)) ev_int op_ne rfl
  refine go_if O bs_mono (tst_or (t1 _ _ _ _ _ _ _ _) (t2 _ _ _ _ _ _ _ _)) (fun e => nomatch e) (fun _ h' k O' st => go_nil (.inl ⟨rfl, X, m, hF h' O' k⟩))
end
end Mine
end

section
open PySem PySem.W PyProof.Rows PySem.SeqAt
set_option Elab.async false
set_option maxRecDepth 100000
set_option linter.unusedVariables false
namespace Mine

theorem enum_get {ns : List Int} (h7 : ns.length ≤ 7) {p : Int × Int} (hp : p ∈ (upto ns.length).zip ns) : ∃ n : Nat, n < 7 ∧ p.1 = (n : Nat) := by
  have := (List.of_mem_zip hp).1
  unfold upto at this
  obtain ⟨n, hn, e⟩ := List.mem_map.mp this
  rw [List.mem_range] at hn
  exact ⟨n, by omega, e.symm⟩
theorem bits_small {a : Int} {n : Nat} (ha : Builtin.Int.intBits a ≤ 7) (hn : n < 7) : (Builtin.Int.intBits a : Int) * ((n : Nat) : Int) ≤ 2 ^ 27 := by
  have : (Builtin.Int.intBits a) * n ≤ 7 * 7 := Nat.mul_le_mul ha (by omega)
  have h2 : ((Builtin.Int.intBits a * n : Nat) : Int) ≤ 49 := by omega
  rw [← Int.natCast_mul]; omega

section
variable {P : Params}
theorem z_go {prog : Program} {w : World} {A : Around} {L fa : Addr} {cd : Value} {X : List Addr} {m : Str → Option Value} {h : Heap} {mg mb : Str → Option Value} {v0 : Option Value} {F : Flow → Heap → Prop} (O : (lawCx P prog w A L fa cd X m h).Ok (Bs (KK P) mg mb)) (hc : h.IsCell (L + 6) v0) (hcX : L + 6 ∈ X)
    (hF : ∀ t h', h'.IsCell (L + 6) (some (.int 100 t)) → (lawCx P prog w A L fa cd X m h').Ok (Bs (KK P) mg mb) → KeepX [L + 6] h h' → Go (lawCx P prog w A L fa cd X m h') (lawRest 17) F) : Go (lawCx P prog w A L fa cd X m h) (lawRest 16) F :=
  go_letCell (a := L + 6) O bs_mono (Ev.toP ev_int) stable_rd (by kernel_rfl) (by kernel_rfl) hc hcX (Nat.ne_of_gt (Nat.lt_add_of_pos_right (by decide))) rfl fun v h' hc' O' st r => by
    obtain ⟨t, rfl⟩ := r.inv_int
    exact hF t h' hc' O' st.keep

theorem own_go {prog : Program} {w : World} {A : Around} {L fa : Addr} {cd : Value} {X : List Addr} {m : Str → Option Value} {h : Heap} {mg mb : Str → Option Value} {ns : List Int} {nt : Nat} {vn : Value} {tz : Tok} {F : Flow → Heap → Prop} (O : (lawCx P prog w A L fa cd X m h).Ok (Bs (KK P) mg mb)) (hn : m (Str.ofString "near") = some vn) (ln : Lead X h vn ns 0 nt) (h7 : ns.length ≤ 7) (hz : (hideAll h X).IsCell (L + 6) (some (.int 100 tz)))
    (hF : ∀ v m' h', Up m m' (Str.ofString "own") v → (lawCx P prog w A L fa cd X m' h').Ok (Bs (KK P) mg mb) → KeepX [L] h h' → Rd X h' v (.int (ownS ns)) → Go (lawCx P prog w A L fa cd X m' h') (lawRest 18) F) : Go (lawCx P prog w A L fa cd X m h) (lawRest 17) F := by
  have fo : ((((upto ns.length).zip ns).filter fun _ => true).map fun p => PyData.int (p.2 * (1 + 100) ^ (6 - p.1).toNat * (1 - 100) ^ p.1.toNat)) = (((upto ns.length).zip ns).map fun p => p.2 * (1 + 100) ^ (6 - p.1).toNat * (1 - 100) ^ p.1.toNat).map PyData.int := by rw [filt, List.map_map]; rfl
  refine go_let (d := .int (ownS ns)) O bs_mono (ev_sum (ns := ((upto ns.length).zip ns).map fun p => p.2 * (1 + 100) ^ (6 - p.1).toNat * (1 - 100) ^ p.1.toNat) O (by kernel_rfl) rfl rfl (fo ▸ ev_comp (tn := [Str.ofString "n", Str.ofString "count"]) (cl := [(Str.ofString "z", L + 6)]) (xs := (upto ns.length).zip ns) (enc := fun p => [.int p.1, .int p.2]) (p := fun _ => true) (f := fun p => .int (p.2 * (1 + 100) ^ (6 - p.1).toNat * (1 - 100) ^ p.1.toNat)) O bs_mono
    (src_enum O (glob_builtin O (by kernel_rfl) rfl rfl (by kernel_rfl) (by kernel_rfl) ne_enum (by kernel_rfl)) (ev_index_tuple (i := 0) (ds := [.tuple (ns.map PyData.int), .int ((0 : Nat) : Int)]) (ev_norm O (by kernel_rfl) hn ln (by kernel_rfl)) ev_int rfl (by decide) (fun _ _ => rfl)) rfl)
    ⟨by kernel_rfl, by decide +kernel, by kernel_rfl, by decide +kernel, by decide +kernel, fun _ => rfl⟩ (by rw [List.length_zip, upto_length, Nat.min_self]; exact Nat.le_trans h7 (by decide)) ?_) rfl) (by kernel_rfl) rfl fun v m' h' u O' st r => hF v m' h' u O' st.keep r
  intro p hp C X' m' vs h' hs O' hr' hl'
  obtain ⟨v1, vs', rfl, q1, q2⟩ := hr'.inv_cons
  obtain ⟨v2, vs', rfl, q3, q4⟩ := q2.inv_cons
  obtain rfl := q4.inv_nil
  obtain ⟨n, hn7, en⟩ := enum_get h7 hp
  obtain ⟨i, ct⟩ := p
  simp only at en
  subst en
  have hz' : h'.IsCell (L + 6) (some (.int 100 tz)) := cell_un (cell_keep hz hs)
  have ez : ∀ ps, Ev (cxOf O') (.Name (Str.ofString "z") ps) (.int 100) := fun ps => ev_cell O' (by kernel_rfl) (by kernel_rfl) hz' (.int _ _) (by kernel_rfl)
  have en : ∀ ps, Ev (cxOf O') (.Name (Str.ofString "n") ps) (.int (n : Nat)) := fun ps => ev_local O' (by kernel_rfl) (bind2a m' (Str.ofString "n") (Str.ofString "count") v1 v2 (by kernel_rfl)) q1 (by kernel_rfl)
  have ec : ∀ ps, Ev (cxOf O') (.Name (Str.ofString "count") ps) (.int ct) := fun ps => ev_local O' (by kernel_rfl) (bind2b m' (Str.ofString "n") (Str.ofString "count") v1 v2) q3 (by kernel_rfl)
  have b6 : (Builtin.Int.intBits (1 + 100) : Int) * (6 - (n : Nat) : Int) ≤ 2 ^ 27 := by
    have := bits_small (a := 1 + 100) (n := 6 - n) (by decide) (by omega)
    rw [show ((6 - n : Nat) : Int) = 6 - (n : Nat) by omega] at this; exact this
  exact ⟨tsts_nil, fun _ => ev_binop (ev_binop (ec _) (ev_binop (ev_binop ev_int (ez _) op_add) (ev_binop ev_int (en _) op_sub) (op_pow (by omega) b6)) (op_mul (.of_right (pw1 n hn7)))) (ev_binop (ev_binop ev_int (ez _) op_sub) (en _) (op_pow (by omega) (bits_small (by decide) hn7))) (op_mul (.of_right (pw2 n hn7)))⟩
end
end Mine
end

section
open PySem PySem.W PyProof.Rows PySem.SeqAt
set_option Elab.async false
set_option maxRecDepth 100000
set_option linter.unusedVariables false
namespace Mine
section
variable {P : Params}
theorem ret_go {prog : Program} {w : World} {A : Around} {L fa : Addr} {cd : Value} {X : List Addr} {m : Str → Option Value} {h : Heap} {mg mb : Str → Option Value} {ns : List Int} {ws : List Wd} {nt : Nat} {own : Int} {vb vw vo : Value} {tz : Tok} {F : Flow → Heap → Prop} (O : (lawCx P prog w A L fa cd X m h).Ok (Bs (KK P) mg mb)) (hb : m (Str.ofString "back") = some vb) (lb : Lead X h vb ns 0 nt) (h7 : ns.length ≤ 7) (hz : (hideAll h X).IsCell (L + 6) (some (.int 100 tz))) (hm : m (Str.ofString "words") = some vw) (rw : Rd X h vw (.list (ws.map encW))) (hlen : ws.length ≤ 16) (ho : m (Str.ofString "own") = some vo) (ro : Rd X h vo (.int own))
    (hP : own = (ws.length : Int) * backS ns) (hF : ∀ h', Keep h h' → F (.ret (.bool true)) h') : Go (lawCx P prog w A L fa cd X m h) (lawRest 18) F := by
  have fo : ((((upto ns.length).zip ns).filter fun _ => true).map fun p => PyData.int (p.2 * 100 ^ p.1.toNat)) = (((upto ns.length).zip ns).map fun p : Int × Int => p.2 * 100 ^ p.1.toNat).map PyData.int := by rw [filt, List.map_map]; rfl
  have wl : (ws.map encW).length = ws.length := by simp
  have mo : IntMulOk (((ws.map encW).length : Nat) : Int) (backS ns) := .of_left (by
    have : ∀ k < 17, Builtin.Int.intBits ((k : Nat) : Int) ≤ 64 := by decide +kernel
    rw [wl]; exact this _ (by omega))
  have et : (own == (((ws.map encW).length : Nat) : Int) * backS ns) = true := by rw [wl, hP]; exact beq_self_eq_true _
  refine go_retD (d := .bool (own == (((ws.map encW).length : Nat) : Int) * backS ns)) (ev_compare (ev_local O (by kernel_rfl) ho ro (by kernel_rfl)) (ev_binop (ev_len O (by kernel_rfl) rfl rfl (ev_local O (by kernel_rfl) hm rw (by kernel_rfl)) (by rw [wl]; exact Nat.le_trans hlen (by decide)) rfl) (show Ev (cxOf O) _ (.int (backS ns)) from ev_sum (ns := ((upto ns.length).zip ns).map fun p : Int × Int => p.2 * 100 ^ p.1.toNat) O (by kernel_rfl) rfl rfl (fo ▸ ev_comp (tn := [Str.ofString "n", Str.ofString "count"]) (cl := [(Str.ofString "z", L + 6)]) (xs := (upto ns.length).zip ns) (enc := fun p => [.int p.1, .int p.2]) (p := fun _ => true) (f := fun p : Int × Int => .int (p.2 * 100 ^ p.1.toNat)) O bs_mono
    (src_enum O (glob_builtin O (by kernel_rfl) rfl rfl (by kernel_rfl) (by kernel_rfl) ne_enum (by kernel_rfl)) (ev_index_tuple (i := 0) (ds := [.tuple (ns.map PyData.int), .int ((0 : Nat) : Int)]) (ev_norm O (by kernel_rfl) hb lb (by kernel_rfl)) ev_int rfl (by decide) (fun _ _ => rfl)) rfl)
    ⟨by kernel_rfl, by decide +kernel, by kernel_rfl, by decide +kernel, by decide +kernel, fun _ => rfl⟩ (by rw [List.length_zip, upto_length, Nat.min_self]; exact Nat.le_trans h7 (by decide)) ?_) rfl) (op_mul mo)) op_eq (by kernel_rfl)) fun v h' k r => by
      rw [et] at r; rw [r.inv_bool]; exact hF h' k
  intro p hp C X' m' vs h' hs O' hr' hl'
  obtain ⟨v1, vs', rfl, q1, q2⟩ := hr'.inv_cons
  obtain ⟨v2, vs', rfl, q3, q4⟩ := q2.inv_cons
  obtain rfl := q4.inv_nil
  obtain ⟨n, hn7, en⟩ := enum_get h7 hp
  obtain ⟨i, ct⟩ := p
  simp only at en
  subst en
  have hz' : h'.IsCell (L + 6) (some (.int 100 tz)) := cell_un (cell_keep hz hs)
  exact ⟨tsts_nil, fun _ => ev_binop (ev_local O' (by kernel_rfl) (bind2b m' (Str.ofString "n") (Str.ofString "count") v1 v2) q3 (by kernel_rfl)) (ev_binop (ev_cell O' (by kernel_rfl) (by kernel_rfl) hz' (.int _ _) (by kernel_rfl)) (ev_local O' (by kernel_rfl) (bind2a m' (Str.ofString "n") (Str.ofString "count") v1 v2 (by kernel_rfl)) q1 (by kernel_rfl)) (op_pow (by omega) (bits_small (by decide) hn7))) (op_mul (.of_right (pw3 n hn7)))⟩
end
end Mine
end

section
open PySem PySem.W PyProof.Rows PySem.SeqAt
set_option Elab.async false
set_option maxRecDepth 100000
set_option linter.unusedVariables false
namespace Mine

/-! Counts as one number, base 32. -/
def dec : Nat → Nat → List Int
  | 0, _ => []
  | f + 1, n => if n = 0 then [] else ((n % 32 : Nat) : Int) :: dec f (n / 32)
theorem dec_zero : ∀ f, dec f 0 = []
  | 0 => rfl
  | f + 1 => if_pos rfl
theorem dec_pos {f n : Nat} (h : n ≠ 0) : dec (f + 1) n = ((n % 32 : Nat) : Int) :: dec f (n / 32) := if_neg h
theorem bump_dec : ∀ (k f n : Nat), k < f → n < 32 ^ f → (n / 32 ^ k) % 32 < 31 → bump (dec f n) k = dec f (n + 32 ^ k)
  | 0, f + 1, n, _, hn, h => by
    simp only [Nat.pow_zero, Nat.div_one] at h ⊢
    have e : (n + 1) % 32 = n % 32 + 1 := by omega
    have e2 : (n + 1) / 32 = n / 32 := by omega
    rw [dec_pos (Nat.succ_ne_zero n), e, e2]
    by_cases h0 : n = 0
    · subst h0; rw [dec_zero, Nat.zero_div, dec_zero]; rfl
    · rw [dec_pos h0, bump_cons0]; push_cast; rfl
  | k + 1, f + 1, n, hk, hn, h => by
    have hp : 32 ^ (k + 1) = 32 ^ k * 32 := Nat.pow_succ ..
    have e : (n + 32 ^ (k + 1)) % 32 = n % 32 := by rw [hp]; omega
    have e2 : (n + 32 ^ (k + 1)) / 32 = n / 32 + 32 ^ k := by rw [hp]; omega
    have hpos : 0 < 32 ^ k := Nat.pow_pos (by decide)
    have ih := bump_dec k f (n / 32) (by omega) (by rw [Nat.pow_succ] at hn; omega) (by rw [Nat.div_div_eq_div_mul, Nat.mul_comm, ← hp]; exact h)
    have hne : n + 32 ^ (k + 1) ≠ 0 := by have : 0 < 32 ^ (k + 1) := Nat.pow_pos (by decide); omega
    rw [dec_pos hne, e, e2, ← ih]
    by_cases h0 : n = 0
    · subst h0; rw [dec_zero, bump_nilS, Nat.zero_div, dec_zero]; rfl
    · rw [dec_pos h0, bump_consS]
end Mine
end

section
open PySem PySem.W PyProof.Rows PySem.SeqAt
set_option Elab.async false
set_option maxRecDepth 100000
set_option linter.unusedVariables false
namespace Mine

def hc (ks : List Nat) : Nat := ks.foldl (fun n k => n + 32 ^ k) 0
/-- the digits of a number that is a sum of few powers -/
theorem dig_add (n j k : Nat) (h : (n / 32 ^ k) % 32 < 31) : ((n + 32 ^ k) / 32 ^ j) % 32 ≤ (n / 32 ^ j) % 32 + 1 := by
  by_cases hjk : j ≤ k
  · obtain ⟨d, rfl⟩ : ∃ d, k = j + d := ⟨k - j, by omega⟩
    have hp : 0 < 32 ^ j := Nat.pow_pos (by decide)
    rw [Nat.pow_add, Nat.add_mul_div_left _ _ hp]
    cases d with
    | zero => simp only [Nat.pow_zero]; omega
    | succ d => rw [Nat.pow_succ]; omega
  · obtain ⟨d, rfl⟩ : ∃ d, j = k + 1 + d := ⟨j - k - 1, by omega⟩
    have hp : 0 < 32 ^ k := Nat.pow_pos (by decide)
    have e : (n + 32 ^ k) / 32 ^ (k + 1) = n / 32 ^ (k + 1) := by
      rw [Nat.pow_succ, ← Nat.div_div_eq_div_mul, ← Nat.div_div_eq_div_mul, Nat.add_div_right _ hp]; omega
    rw [Nat.pow_add, ← Nat.div_div_eq_div_mul, e, Nat.div_div_eq_div_mul]
    omega
theorem fold_dec : ∀ (ks : List Nat) (n i : Nat), (∀ k ∈ ks, k < 7) → i + ks.length ≤ 30 → (∀ j, (n / 32 ^ j) % 32 ≤ i) → n + ks.length * 32 ^ 6 < 32 ^ 7 → ks.foldl bump (dec 7 n) = dec 7 (ks.foldl (fun n k => n + 32 ^ k) n)
  | [], _, _, _, _, _, _ => rfl
  | k :: ks, n, i, hk, hl, hd, hn => by
    have k7 := hk k (.head _)
    have hpk : 32 ^ k ≤ 32 ^ 6 := Nat.pow_le_pow_right (by decide) (by omega)
    rw [List.length_cons, Nat.succ_mul] at hn
    rw [List.length_cons] at hl
    have hdk := hd k
    rw [List.foldl_cons, List.foldl_cons, bump_dec k 7 n k7 (by omega) (by omega)]
    exact fold_dec ks (n + 32 ^ k) (i + 1) (fun q hq => hk q (.tail _ hq)) (by omega) (fun j => Nat.le_trans (dig_add n j k (by omega)) (Nat.succ_le_succ (hd j))) (by omega)
theorem bump_hc {ks : List Nat} (hk : ∀ k ∈ ks, k < 7) (hl : ks.length ≤ 16) : ks.foldl bump [] = dec 7 (hc ks) := by
  have := fold_dec ks 0 0 hk (by omega) (fun j => by rw [Nat.zero_div]; decide) (by
    have : ks.length * 32 ^ 6 ≤ 16 * 32 ^ 6 := Nat.mul_le_mul_right _ hl
    omega)
  rw [dec_zero] at this; exact this
end Mine
end

section
open PySem PySem.W PyProof.Rows PySem.SeqAt
set_option Elab.async false
set_option maxRecDepth 100000
set_option linter.unusedVariables false
namespace Mine

/-! The code is a group: from every word the distances are the weights. -/
theorem mem_addF {ws : List Wd} {t u : Wd} : u ∈ addF ws t ↔ u ∈ ws ∨ u = t := by
  unfold addF
  split
  · rename_i h
    have h : t ∈ ws := by simpa using h
    constructor
    · exact .inl
    · rintro (q | rfl)
      · exact q
      · exact h
  · simp
theorem mem_fw {a b c d : Nat} {u : Wd} : ∀ k, u ∈ fw a b c d k ↔ ∃ j < k, u = wordOf a b c d (j / 4) (j % 4)
  | 0 => by
    constructor
    · intro h; cases h
    · rintro ⟨j, h, _⟩; exact absurd h (Nat.not_lt_zero _)
  | k + 1 => by
    unfold fw
    rw [mem_addF, mem_fw k]
    constructor
    · rintro (⟨j, hj, e⟩ | e)
      · exact ⟨j, by omega, e⟩
      · exact ⟨k, by omega, e⟩
    · rintro ⟨j, hj, e⟩
      by_cases q : j = k
      · subst q; exact .inr e
      · exact .inl ⟨j, by omega, e⟩
theorem mem_code {a b c d : Nat} {u : Wd} : u ∈ fw a b c d 16 ↔ ∃ x < 4, ∃ y < 4, u = wordOf a b c d x y := by
  rw [mem_fw]
  constructor
  · rintro ⟨j, hj, e⟩; exact ⟨j / 4, by omega, j % 4, by omega, e⟩
  · rintro ⟨x, hx, y, hy, e⟩
    refine ⟨4 * x + y, by omega, ?_⟩
    rw [show (4 * x + y) / 4 = x by omega, show (4 * x + y) % 4 = y by omega]; exact e
theorem nodup_fw (a b c d : Nat) : ∀ k, (fw a b c d k).Nodup
  | 0 => List.nodup_nil
  | k + 1 => by
    unfold fw addF
    split
    · exact nodup_fw a b c d k
    · rename_i h
      rw [List.nodup_append]
      refine ⟨nodup_fw a b c d k, by simp, ?_⟩
      intro x hx y hy e
      rw [List.mem_singleton.mp hy] at e
      exact h (by rw [← e]; simpa using hx)
def sub4 (p q : Nat) : Nat := (p + 4 - q) % 4
def subW (t u : Wd) : Wd := (sub4 t.1 u.1, sub4 t.2.1 u.2.1, sub4 t.2.2 u.2.2)
theorem sub4_sub4 : ∀ p < 4, ∀ q < 4, sub4 p (sub4 p q) = q := by decide
theorem subW_subW {t u : Wd} (h : okW t) (h' : okW u) : subW t (subW t u) = u := by
  unfold subW
  simp only
  rw [sub4_sub4 _ h.1 _ h'.1, sub4_sub4 _ h.2.1 _ h'.2.1, sub4_sub4 _ h.2.2 _ h'.2.2]
theorem sub_lin : ∀ a < 4, ∀ c < 4, ∀ x < 4, ∀ y < 4, ∀ x' < 4, ∀ y' < 4, sub4 ((a * x + c * y) % 4) ((a * x' + c * y') % 4) = (a * sub4 x x' + c * sub4 y y') % 4 := by decide +kernel
theorem sub_code {a b c d : Nat} (ha : a < 4 ∧ b < 4 ∧ c < 4 ∧ d < 4) {t u : Wd} (ht : t ∈ fw a b c d 16) (hu : u ∈ fw a b c d 16) : subW t u ∈ fw a b c d 16 := by
  obtain ⟨x, hx, y, hy, rfl⟩ := mem_code.mp ht
  obtain ⟨x', hx', y', hy', rfl⟩ := mem_code.mp hu
  refine mem_code.mpr ⟨sub4 x x', Nat.mod_lt _ (by decide), sub4 y y', Nat.mod_lt _ (by decide), ?_⟩
  unfold subW wordOf
  simp only
  rw [sub_lin a ha.1 c ha.2.2.1 x hx y hy x' hx' y' hy', sub_lin b ha.2.1 d ha.2.2.2 x hx y hy x' hx' y' hy']
theorem code_ok {a b c d : Nat} {t : Wd} (ht : t ∈ fw a b c d 16) : okW t := by
  rw [← wAt_fw] at ht; exact wAt_ok a b c d 16 (Nat.le_refl _) t ht
theorem perm_code {a b c d : Nat} (ha : a < 4 ∧ b < 4 ∧ c < 4 ∧ d < 4) {t : Wd} (ht : t ∈ fw a b c d 16) : ((fw a b c d 16).map (subW t)).Perm (fw a b c d 16) := by
  refine (List.perm_ext_iff_of_nodup ?_ (nodup_fw a b c d 16)).mpr fun u => ?_
  · refine List.pairwise_map.mpr (List.Pairwise.imp_of_mem ?_ (nodup_fw a b c d 16))
    intro u v hu hv hne e
    have := congrArg (subW t) e
    rw [subW_subW (code_ok ht) (code_ok hu), subW_subW (code_ok ht) (code_ok hv)] at this
    exact hne this
  · constructor
    · intro h
      obtain ⟨v, hv, rfl⟩ := List.mem_map.mp h
      exact sub_code ha ht hv
    · intro h
      exact List.mem_map.mpr ⟨subW t u, sub_code ha ht h, subW_subW (code_ok ht) (code_ok h)⟩
theorem hc_perm {ks js : List Nat} (h : ks.Perm js) : hc ks = hc js := by
  unfold hc
  exact h.foldl_eq' (fun x _ y _ z => by omega) 0
theorem wt_wgW {t : Wd} (h : okW t) : wt t = wg t := wt_wg t.1 h.1 t.2.1 h.2.1 t.2.2 h.2.2
theorem wts_wg {ws : List Wd} (h : ∀ t ∈ ws, okW t) : ws.map wt = ws.map wg := List.map_congr_left fun t ht => wt_wgW (h t ht)
theorem dist_code {a b c d : Nat} (ha : a < 4 ∧ b < 4 ∧ c < 4 ∧ d < 4) {t : Wd} (ht : t ∈ fw a b c d 16) : ((fw a b c d 16).map wt).foldl bump [] = ((fw a b c d 16).map (rgW t)).foldl bump [] := by
  have hl : (fw a b c d 16).length ≤ 16 := by rw [← wAt_fw]; exact wAt_len a b c d 16
  rw [bump_hc (wts_lt fun t h => code_ok h) (by rw [List.length_map]; exact hl), bump_hc (fun k hk => by obtain ⟨u, hu, rfl⟩ := List.mem_map.mp hk; exact rgW_lt (code_ok ht) (code_ok hu)) (by rw [List.length_map]; exact hl)]
  have e : (fw a b c d 16).map (rgW t) = ((fw a b c d 16).map (subW t)).map wg := by rw [List.map_map]; rfl
  rw [e, wts_wg fun t h => code_ok h, hc_perm ((perm_code ha ht).map wg)]
theorem dec_len : ∀ f n, (dec f n).length ≤ f
  | 0, _ => Nat.le_refl _
  | f + 1, n => by
    unfold dec
    split
    · exact Nat.zero_le _
    · rw [List.length_cons]; exact Nat.succ_le_succ (dec_len f _)
theorem code_pos (a b c d : Nat) : 0 < (fw a b c d 16).length := List.length_pos_of_mem (mem_code.mpr ⟨0, by decide, 0, by decide, rfl⟩)
end Mine
end

section
open PySem PySem.W PyProof.Rows PySem.SeqAt
set_option Elab.async false
set_option maxRecDepth 100000
set_option linter.unusedVariables false
namespace Mine
/-! The counts up to the greatest weight. -/
theorem bump_len : ∀ (k : Nat) (cnt : List Int), (bump cnt k).length = max cnt.length (k + 1)
  | 0, [] => rfl
  | 0, x :: xs => by rw [bump_cons0]; simp only [List.length_cons]; omega
  | k + 1, [] => by rw [bump_nilS, List.length_cons, bump_len k]; simp only [List.length_nil]; omega
  | k + 1, x :: xs => by rw [bump_consS, List.length_cons, bump_len k]; simp only [List.length_cons]; omega
theorem bump_get : ∀ (k : Nat) (cnt : List Int) (i : Nat), (bump cnt k).getD i 0 = cnt.getD i 0 + (if k = i then 1 else 0)
  | 0, [], 0 => rfl
  | 0, [], i + 1 => by rw [bump_nil0]; simp
  | 0, x :: xs, 0 => by rw [bump_cons0]; rfl
  | 0, x :: xs, i + 1 => by rw [bump_cons0]; simp
  | k + 1, [], 0 => by rw [bump_nilS]; simp
  | k + 1, [], i + 1 => by
    have := bump_get k [] i
    rw [bump_nilS, List.getD_cons_succ, this]; simp
  | k + 1, x :: xs, 0 => by rw [bump_consS]; simp
  | k + 1, x :: xs, i + 1 => by
    have := bump_get k xs i
    rw [bump_consS, List.getD_cons_succ, List.getD_cons_succ, this]; simp
theorem fold_get : ∀ (ks : List Nat) (cnt : List Int) (i : Nat), (ks.foldl bump cnt).getD i 0 = cnt.getD i 0 + ((ks.count i : Nat) : Int)
  | [], cnt, i => by simp
  | k :: ks, cnt, i => by
    rw [List.foldl_cons, fold_get ks, bump_get, List.count_cons]
    by_cases h : k = i
    · subst h; simp; omega
    · simp [h]
theorem fold_max : ∀ (ks : List Nat) (m : Nat) (cnt : List Int), cnt.length = m + 1 → (ks.map fun (k : Nat) => (k : Int)).foldl max (m : Int) + 1 = ((ks.foldl bump cnt).length : Nat)
  | [], m, cnt, h => by rw [List.map_nil, List.foldl_nil, List.foldl_nil, h]; push_cast; rfl
  | k :: ks, m, cnt, h => by
    rw [List.map_cons, List.foldl_cons, List.foldl_cons, show max (m : Int) (k : Int) = ((max m k : Nat) : Int) by omega]
    exact fold_max ks (max m k) (bump cnt k) (by rw [bump_len, h]; omega)
theorem max_hist {ks : List Nat} (h : 0 < ks.length) : maxL (ks.map fun (k : Nat) => (k : Int)) + 1 = ((ks.foldl bump []).length : Nat) ∧ ks.foldl bump [] = hist (ks.map fun (k : Nat) => (k : Int)) (ks.foldl bump []).length := by
  constructor
  · cases ks with
    | nil => cases h
    | cons k ks =>
      unfold maxL
      rw [List.map_cons, List.headD_cons, List.foldl_cons, List.foldl_cons, show max (k : Int) (k : Int) = (k : Int) by omega]
      exact fold_max ks k (bump [] k) (by rw [bump_len]; simp)
  · have e : ∀ i, (ks.foldl bump []).getD i 0 = ((ks.count i : Nat) : Int) := fun i => by rw [fold_get]; simp
    generalize ks.foldl bump [] = f at e
    have hl : (hist (ks.map fun (k : Nat) => (k : Int)) f.length).length = f.length := by unfold hist; rw [List.length_map, upto_length]
    refine List.ext_getElem hl.symm fun i h1 h2 => ?_
    have h3 : i < (upto f.length).length := by rw [upto_length]; exact h1
    have h4 := upto_get (List.getElem?_eq_getElem h3)
    have h5 : f[i] = f.getD i 0 := by rw [List.getD_eq_getElem?_getD, List.getElem?_eq_getElem h1]; rfl
    have h6 : (hist (ks.map fun (k : Nat) => (k : Int)) f.length)[i] = (((ks.map fun (k : Nat) => (k : Int)).count (upto f.length)[i] : Nat) : Int) := List.getElem_map ..
    rw [h5, e, h6, h4.1]
    congr 1
    unfold List.count
    rw [List.countP_map]
    refine List.countP_congr fun k _ => ?_
    simp
    omega

/-! The words of the code, each once. -/
def mY (c d : Nat) : Nat := if Nat.beq c 0 && Nat.beq d 0 then 1 else if Nat.beq (c % 2) 0 && Nat.beq (d % 2) 0 then 2 else 4
def cw (a b c d : Nat) : List Wd := (List.range 4).flatMap fun x => (List.range (mY c d)).map fun y => wordOf a b c d x y
theorem mY_le : ∀ c < 4, ∀ d < 4, 0 < mY c d ∧ mY c d ≤ 4 := by decide +kernel
theorem mY_fold : ∀ c < 4, ∀ d < 4, ∀ y < 4, (c * y) % 4 = (c * (y % mY c d)) % 4 ∧ (d * y) % 4 = (d * (y % mY c d)) % 4 := by decide +kernel
def injB (c d y z : Nat) : Bool := !(decide (y < mY c d) && decide (z < mY c d) && decide ((c * y) % 4 = (c * z) % 4) && decide ((d * y) % 4 = (d * z) % 4)) || decide (y = z)
theorem injB_all : ∀ c < 4, ∀ d < 4, ∀ y < 4, ∀ z < 4, injB c d y z = true := by decide +kernel
theorem mY_inj {c d y z : Nat} (hc : c < 4) (hd : d < 4) (hy : y < 4) (hz : z < 4) (h1 : y < mY c d) (h2 : z < mY c d) (h3 : (c * y) % 4 = (c * z) % 4) (h4 : (d * y) % 4 = (d * z) % 4) : y = z := by
  have := injB_all c hc d hd y hy z hz
  unfold injB at this
  simpa [h1, h2, h3, h4] using this
theorem mem_cw {a b c d : Nat} {u : Wd} : u ∈ cw a b c d ↔ ∃ x < 4, ∃ y < mY c d, u = wordOf a b c d x y := by
  unfold cw
  simp only [List.mem_flatMap, List.mem_map, List.mem_range]
  constructor
  · rintro ⟨x, hx, y, hy, e⟩; exact ⟨x, hx, y, hy, e.symm⟩
  · rintro ⟨x, hx, y, hy, e⟩; exact ⟨x, hx, y, hy, e.symm⟩
theorem nodup_cw {a b c d : Nat} (h : a < 4 ∧ b < 4 ∧ c < 4 ∧ d < 4) : (cw a b c d).Nodup := by
  unfold cw List.Nodup
  rw [List.pairwise_flatMap]
  constructor
  · intro x _
    rw [List.pairwise_map]
    refine List.Pairwise.imp_of_mem ?_ (List.nodup_range (n := mY c d))
    intro y z hy hz hne e
    rw [List.mem_range] at hy hz
    unfold wordOf at e
    simp only [Prod.mk.injEq, true_and] at e
    have hm := mY_le c h.2.2.1 d h.2.2.2
    exact hne (mY_inj h.2.2.1 h.2.2.2 (by omega) (by omega) hy hz (by omega) (by omega))
  · refine List.Pairwise.imp ?_ (List.nodup_range (n := 4))
    intro x x' hne u hu v hv e
    obtain ⟨y, _, rfl⟩ := List.mem_map.mp hu
    obtain ⟨z, _, rfl⟩ := List.mem_map.mp hv
    unfold wordOf at e
    simp only [Prod.mk.injEq] at e
    exact hne e.1
theorem perm_cw {a b c d : Nat} (h : a < 4 ∧ b < 4 ∧ c < 4 ∧ d < 4) : (fw a b c d 16).Perm (cw a b c d) := by
  refine (List.perm_ext_iff_of_nodup (nodup_fw a b c d 16) (nodup_cw h)).mpr fun u => ?_
  rw [mem_code, mem_cw]
  have hm := mY_le c h.2.2.1 d h.2.2.2
  constructor
  · rintro ⟨x, hx, y, hy, rfl⟩
    refine ⟨x, hx, y % mY c d, Nat.mod_lt _ hm.1, ?_⟩
    have e := mY_fold c h.2.2.1 d h.2.2.2 y hy
    unfold wordOf
    simp only [Prod.mk.injEq, true_and]
    exact ⟨by omega, by omega⟩
  · rintro ⟨x, hx, y, hy, rfl⟩
    exact ⟨x, hx, y, by omega, rfl⟩

/-! What is left of the plain law, reckoned for the 256 codes. -/
def nH (a b c d : Nat) : List Int := dec 7 (hc ((cw a b c d).map wg))
def nB (a b c d : Nat) : List Int := dec 7 (hc ((dualW a b c d).map wg))
def chk (a b c d : Nat) : Bool := decide ((cw a b c d).length * (dualW a b c d).length = 64) && decide (ownS (nH a b c d) = ((cw a b c d).length : Int) * backS (nB a b c d))
theorem chk_0 : ∀ b < 4, ∀ c < 4, ∀ d < 4, chk 0 b c d = true := by decide +kernel
theorem chk_1 : ∀ b < 4, ∀ c < 4, ∀ d < 4, chk 1 b c d = true := by decide +kernel
theorem chk_2 : ∀ b < 4, ∀ c < 4, ∀ d < 4, chk 2 b c d = true := by decide +kernel
theorem chk_3 : ∀ b < 4, ∀ c < 4, ∀ d < 4, chk 3 b c d = true := by decide +kernel
theorem chk_all {a b c d : Nat} (h : a < 4 ∧ b < 4 ∧ c < 4 ∧ d < 4) : chk a b c d = true := by
  have : a = 0 ∨ a = 1 ∨ a = 2 ∨ a = 3 := by omega
  rcases this with rfl | rfl | rfl | rfl
  · exact chk_0 b h.2.1 c h.2.2.1 d h.2.2.2
  · exact chk_1 b h.2.1 c h.2.2.1 d h.2.2.2
  · exact chk_2 b h.2.1 c h.2.2.1 d h.2.2.2
  · exact chk_3 b h.2.1 c h.2.2.1 d h.2.2.2
theorem nH_eq {a b c d : Nat} (h : a < 4 ∧ b < 4 ∧ c < 4 ∧ d < 4) : ((fw a b c d 16).map wt).foldl bump [] = nH a b c d := by
  have hl : (fw a b c d 16).length ≤ 16 := by rw [← wAt_fw]; exact wAt_len a b c d 16
  rw [bump_hc (wts_lt fun t h => code_ok h) (by rw [List.length_map]; exact hl), wts_wg fun t h => code_ok h, hc_perm ((perm_cw h).map wg)]; rfl
theorem nB_eq (a b c d : Nat) : ((dualW a b c d).map wt).foldl bump [] = nB a b c d := by
  rw [bump_hc (wts_lt (dual_ok a b c d)) (by rw [List.length_map]; exact dual_len a b c d), wts_wg (dual_ok a b c d)]; rfl
/-- the plain law -/
structure Plain (ws du : List Wd) : Prop where
  ok : ∀ t ∈ ws, okW t
  len : ws.length ≤ 16
  pos : 0 < ws.length
  dok : ∀ t ∈ du, okW t
  dlen : du.length ≤ 16
  dist : ∀ t ∈ ws, (ws.map wt).foldl bump [] = (ws.map (rgW t)).foldl bump []
  many : ws.length * du.length = 64
  norm : ∃ N : Nat, maxL (ws.map fun t => ((wg t : Nat) : Int)) + 1 = (N : Nat) ∧ N ≤ 7 ∧ (ws.map wt).foldl bump [] = hist (ws.map fun t => ((wg t : Nat) : Int)) N
  h7 : ((ws.map wt).foldl bump []).length ≤ 7
  d7 : ((du.map wt).foldl bump []).length ≤ 7
  mac : ownS ((ws.map wt).foldl bump []) = (ws.length : Int) * backS ((du.map wt).foldl bump [])
theorem plain {a b c d : Nat} (h : a < 4 ∧ b < 4 ∧ c < 4 ∧ d < 4) : Plain (wAt a b c d 16) (dualW a b c d) := by
  have hk := chk_all h
  unfold chk at hk
  rw [Bool.and_eq_true, decide_eq_true_eq, decide_eq_true_eq, ← (perm_cw h).length_eq] at hk
  rw [wAt_fw]
  have h7 : (((fw a b c d 16).map wt).foldl bump []).length ≤ 7 := by rw [nH_eq h]; exact dec_len 7 _
  have em : ((fw a b c d 16).map fun t => ((wg t : Nat) : Int)) = ((fw a b c d 16).map wt).map fun (k : Nat) => (k : Int) := by
    rw [wts_wg fun t h => code_ok h, List.map_map]; rfl
  have hm := max_hist (ks := (fw a b c d 16).map wt) (by rw [List.length_map]; exact code_pos a b c d)
  refine ⟨fun t ht => code_ok ht, by rw [← wAt_fw]; exact wAt_len a b c d 16, code_pos a b c d, dual_ok a b c d, dual_len a b c d, fun t ht => dist_code h ht, hk.1, ⟨_, ?_, h7, ?_⟩, h7, ?_, ?_⟩
  · rw [em]; exact hm.1
  · rw [em]; exact hm.2
  · rw [nB_eq]; exact dec_len 7 _
  · rw [nH_eq h, nB_eq]; exact hk.2
end Mine
end

section
open PySem PySem.W PyProof.Rows PySem.SeqAt
set_option Elab.async false
set_option maxRecDepth 100000
set_option linter.unusedVariables false
namespace Mine

/-- what the script gives -/
def picks (ns : List Int) : List Int := ns.take 5 ++ ([1, 2, 2, 0, 5] : List Int).drop ns.length
def drawsOf (ns : List Int) : List Int := (picks ns).map fun x => x.fmod 16
theorem picks_len (ns : List Int) : (picks ns).length = 5 := by
  unfold picks; rw [List.length_append, List.length_take, List.length_drop]; simp; omega
theorem draws_len (ns : List Int) : (drawsOf ns).length = 5 := by unfold drawsOf; rw [List.length_map, picks_len]
theorem five {α : Type} : ∀ l : List α, l.length = 5 → ∃ a b c d e, l = [a, b, c, d, e]
  | [a, b, c, d, e], _ => ⟨a, b, c, d, e, rfl⟩
  | [], h => by simp at h
  | [_], h => by simp at h
  | [_, _], h => by simp at h
  | [_, _, _], h => by simp at h
  | [_, _, _, _], h => by simp at h
  | _ :: _ :: _ :: _ :: _ :: _ :: _, h => by simp at h

section
variable {P : Params}
theorem draws_go {prog : Program} {w : World} {A : Around} {L fa : Addr} {cd : Value} {X : List Addr} {m : Str → Option Value} {h : Heap} {mg mb : Str → Option Value} {ns : List Int} {vs : Value} {F : Flow → Heap → Prop} (O : (lawCx P prog w A L fa cd X m h).Ok (Bs (KK P) mg mb)) (hm : m (Str.ofString "script") = some vs) (rs : Rd X h vs (.list (ns.map PyData.int))) (hlen : ns.length ≤ 63)
    (hF : ∀ v m' h', Up m m' (Str.ofString "draws") v → (lawCx P prog w A L fa cd X m' h').Ok (Bs (KK P) mg mb) → KeepX [L] h h' → Rd X h' v (.list ((drawsOf ns).map PyData.int)) → Go (lawCx P prog w A L fa cd X m' h') (lawRest 1) F) : Go (lawCx P prog w A L fa cd X m h) (lawRest 0) F := by
  have e0 : (((picks ns).filter fun _ => true).map fun x => PyData.int (x.fmod 16)) = (drawsOf ns).map PyData.int := by rw [filt]; unfold drawsOf; rw [List.map_map]; rfl
  have ep : (picks ns).map PyData.int = (ns.map PyData.int).take 5 ++ [PyData.int 1, .int 2, .int 2, .int 0, .int 5].drop (ns.map PyData.int).length := by
    unfold picks
    rw [List.map_append, List.map_take, List.map_drop, List.length_map]; rfl
  have hl : (ns.map PyData.int).length ≤ sizeLine := by rw [List.length_map]; exact Nat.le_trans hlen (by decide)
  have es : ∀ p, Ev (cxOf O) (.Name (Str.ofString "script") p) (.list (ns.map PyData.int)) := fun p => ev_local O (by kernel_rfl) hm rs (by kernel_rfl)
  refine go_letC (tn := [Str.ofString "x"]) (cl := []) (xs := picks ns) (enc := fun x => [.int x]) (p := fun _ => true) (f := fun x => .int (x.fmod 16)) O bs_mono (src_list (enc := PyData.int) O (ep ▸ ev_binop (ev_upto (n := 5) O (es _) ev_int hl) (ev_from O (ev_list O (evl_cons ev_int (evl_cons ev_int (evl_cons ev_int (evl_cons ev_int (evl_cons ev_int evl_nil rfl) rfl) rfl) rfl) rfl) (show 5 ≤ sizeLine by decide)) (ev_len O (by kernel_rfl) rfl rfl (es _) hl rfl) (show 5 ≤ sizeLine by decide)) (op_ladd O ?_))) ⟨by kernel_rfl, by decide +kernel, by kernel_rfl, by decide +kernel, by decide +kernel, fun _ => rfl⟩ (by rw [picks_len]; decide) ?_ (by kernel_rfl) (by kernel_rfl) fun v m' h' u O' st r => hF v m' h' u O' st.keep (e0 ▸ r.rd)
  · rw [List.length_take, List.length_drop]
    exact Nat.le_trans (show _ ≤ 10 by simp; omega) (by decide)
  · intro x hx C X' m' vs h' hs O' hr' hl
    obtain ⟨v, vs', rfl, rv, rn⟩ := hr'.inv_cons
    obtain rfl := rn.inv_nil
    exact ⟨tsts_nil, fun _ => ev_binop (ev_local O' (by kernel_rfl) (bind1 m' (Str.ofString "x") v).self rv (by kernel_rfl)) ev_int (op_mod (by decide))⟩

/-- the four digits, unpacked into their cells -/
theorem digits_go {prog : Program} {w : World} {A : Around} {L fa : Addr} {cd : Value} {X : List Addr} {m : Str → Option Value} {h : Heap} {mg mb : Str → Option Value} {d1 d2 d3 d4 d5 : Int} {vd : Value} {F : Flow → Heap → Prop} (O : (lawCx P prog w A L fa cd X m h).Ok (Bs (KK P) mg mb)) (hm : m (Str.ofString "draws") = some vd) (rd : Rd X h vd (.list ([d1, d2, d3, d4, d5].map PyData.int)))
    (hv : ∀ a ∈ [L + 1, L + 2, L + 3, L + 4], (∃ v, h.IsCell a v) ∧ a ∈ X)
    (hF : ∀ t1 t2 t3 t4 h', h'.IsCell (L + 1) (some (.int (d1.fmod 4) t1)) → h'.IsCell (L + 2) (some (.int (d2.fmod 4) t2)) → h'.IsCell (L + 3) (some (.int (d3.fmod 4) t3)) → h'.IsCell (L + 4) (some (.int (d4.fmod 4) t4)) → (lawCx P prog w A L fa cd X m h').Ok (Bs (KK P) mg mb) → KeepX [L + 1, L + 2, L + 3, L + 4] h h' → Go (lawCx P prog w A L fa cd X m h') (lawRest 2) F) : Go (lawCx P prog w A L fa cd X m h) (lawRest 1) F := by
  have ed : ∀ p, Ev (cxOf O) (.Name (Str.ofString "draws") p) (.list ([d1, d2, d3, d4, d5].map PyData.int)) := fun p => ev_local O (by kernel_rfl) hm rd (by kernel_rfl)
  refine go_unpack4 (i1 := d1.fmod 4) (i2 := d2.fmod 4) (i3 := d3.fmod 4) (i4 := d4.fmod 4) (a1 := L + 1) (a2 := L + 2) (a3 := L + 3) (a4 := L + 4) O bs_mono (ev_comp (tn := [Str.ofString "x"]) (cl := []) (xs := [d1, d2, d3, d4]) (enc := fun x => [.int x]) (p := fun _ => true) (f := fun x => .int (x.fmod 4)) O bs_mono (src_list (enc := PyData.int) O (ev_upto (n := 4) O (ed _) ev_int (show 5 ≤ sizeLine by decide))) ⟨by kernel_rfl, by decide +kernel, by kernel_rfl, by decide +kernel, by decide +kernel, fun _ => rfl⟩ (show 4 ≤ sizeLine by decide) ?_)
    ⟨by kernel_rfl, by kernel_rfl, by kernel_rfl, by kernel_rfl⟩ ⟨by kernel_rfl, by kernel_rfl, by kernel_rfl, by kernel_rfl⟩ (fun a ha => ⟨(hv a ha).1, (hv a ha).2, fun q => ?_⟩) ?_ rfl rfl fun t1 t2 t3 t4 h' c1 c2 c3 c4 O' st => hF t1 t2 t3 t4 h' c1 c2 c3 c4 O' st.keep
  · intro x hx C X' m' vs h' hs O' hr' hl
    obtain ⟨v, vs', rfl, rv, rn⟩ := hr'.inv_cons
    obtain rfl := rn.inv_nil
    exact ⟨tsts_nil, fun _ => ev_binop (ev_local O' (by kernel_rfl) (bind1 m' (Str.ofString "x") v).self rv (by kernel_rfl)) ev_int (op_mod (by decide))⟩
  · have q : a = L := q
    subst q
    simp at ha
  · simp

theorem new_go {prog : Program} {w : World} {A : Around} {L fa : Addr} {cd : Value} {X : List Addr} {m : Str → Option Value} {h : Heap} {mg mb : Str → Option Value} {F : Flow → Heap → Prop} (O : (lawCx P prog w A L fa cd X m h).Ok (Bs (KK P) mg mb))
    (hF : ∀ a m' h', h.get? a = none → a ∉ X → h'.PlainList a #[] → Up m m' (Str.ofString "words") (.ref a) → (lawCx P prog w A L fa cd (a :: X) m' h').Ok (Bs (KK P) mg mb) → KeepX [L] h h' → Go (lawCx P prog w A L fa cd (a :: X) m' h') (lawRest 3) F) : Go (lawCx P prog w A L fa cd X m h) (lawRest 2) F :=
  go_letNew O bs_mono (by kernel_rfl) fun a m' h' h1 h2 h3 u O' st => hF a m' h' h1 h2 h3 u O' st.keep
theorem new8_go {prog : Program} {w : World} {A : Around} {L fa : Addr} {cd : Value} {X : List Addr} {m : Str → Option Value} {h : Heap} {mg mb : Str → Option Value} {F : Flow → Heap → Prop} (O : (lawCx P prog w A L fa cd X m h).Ok (Bs (KK P) mg mb))
    (hF : ∀ a m' h', h.get? a = none → a ∉ X → h'.PlainList a #[] → Up m m' (Str.ofString "apart") (.ref a) → (lawCx P prog w A L fa cd (a :: X) m' h').Ok (Bs (KK P) mg mb) → KeepX [L] h h' → Go (lawCx P prog w A L fa cd (a :: X) m' h') (lawRest 9) F) : Go (lawCx P prog w A L fa cd X m h) (lawRest 8) F :=
  go_letNew O bs_mono (by kernel_rfl) fun a m' h' h1 h2 h3 u O' st => hF a m' h' h1 h2 h3 u O' st.keep
end
end Mine
end

section
open PySem PySem.W PyProof.Rows PySem.SeqAt
set_option Elab.async false
set_option maxRecDepth 100000
set_option linter.unusedVariables false
namespace Mine

theorem keep_old {W : List Addr} {h₀ h h' : Heap} (K : Keep h₀ h) (k : KeepX W h h') (hW : ∀ b ∈ W, h₀.get? b = none) : Keep h₀ h' := fun b o e =>
  k b o (fun q => by have := hW b q; rw [e] at this; cases this) (K b o e)
theorem hid_cell {h : Heap} {X : List Addr} {a : Addr} {v : Option Value} (hc : h.IsCell a v) (hn : a ∉ X) : (hideAll h X).IsCell a v := let ⟨o, e, q⟩ := hc; ⟨o, hid_get.mpr ⟨hn, e⟩, q⟩
/-- what the law leaves -/
def Won (h₀ : Heap) (f : Flow) (h : Heap) : Prop := f = .ret (.bool true) ∧ Keep h₀ h

section
variable {P : Params} {prog : Program} {w : World} {A : Around} {L fa : Addr} {cd : Value} {mg mb : Str → Option Value}
theorem go_reX {X X' : List Addr} {m m' : Str → Option Value} {h : Heap} {ss : List Stmt} {F : Flow → Heap → Prop} (g : Go (lawCx P prog w A L fa cd X' m' h) ss F) : Go (lawCx P prog w A L fa cd X m h) ss F := ⟨g.run⟩
theorem sub_kx {X Y W : List Addr} {m m' : Str → Option Value} {h h' : Heap} (k : KeepX W h h') (hW : ∀ b ∈ W, b ∈ X) (hY : ∀ b ∈ Y, b ∈ X) : (lawCx P prog w A L fa cd X m h).Sub (lawCx P prog w A L fa cd Y m' h') := fun b o e =>
  hid_sub hY b o (hid_keepX (k.mono hW) b o e)
theorem sub_nw {X : List Addr} {a : Addr} {m m' : Str → Option Value} {h h' : Heap} (k : KeepX [L] h h') (hL : L ∈ X) (ha : h.get? a = none) : (lawCx P prog w A L fa cd X m h).Sub (lawCx P prog w A L fa cd (a :: X) m' h') := sub_new (fun b hb => by
    rcases List.mem_cons.mp hb with rfl | hb
    · exact .inr ha
    · exact .inl hb) fun b o hb e => k b o (fun q => hb (.tail _ (by rw [List.mem_singleton.mp q]; exact hL))) e

theorem tail_go {m : Str → Option Value} {h h₀ : Heap} {ws du : List Wd} {vw vn vb : Value} {v5 v6 : Option Value} (O : (lawCx P prog w A L fa cd [L, L + 5, L + 6] m h).Ok (Bs (KK P) mg mb)) (K : Keep h₀ h) (hfr : ∀ b ∈ [L, L + 5, L + 6], h₀.get? b = none) (pl : Plain ws du)
    (hw : m (Str.ofString "words") = some vw) (rw : Rd [L, L + 5, L + 6] h vw (.list (ws.map encW))) (hn : m (Str.ofString "near") = some vn) (ln : Lead [L, L + 5, L + 6] h vn ((ws.map wt).foldl bump []) 0 ws.length) (hb : m (Str.ofString "back") = some vb) (lb : Lead [L, L + 5, L + 6] h vb ((du.map wt).foldl bump []) 0 du.length)
    (c5 : h.IsCell (L + 5) v5) (c6 : h.IsCell (L + 6) v6) : Go (lawCx P prog w A L fa cd [L, L + 5, L + 6] m h) (lawRest 13) (Won h₀) := by
  refine weights_go (v0 := v5) O hw rw pl.ok pl.len c5 (by simp) fun v h1 c5' O1 k1 r1 => ?_
  have sX : ∀ b ∈ [L, L + 6], b ∈ [L, L + 5, L + 6] := fun b hb => by
    rcases List.mem_cons.mp hb with rfl | hb
    · exact .head _
    · exact .tail _ (.tail _ hb)
  have w5 : ∀ b ∈ [L + 5], b ∈ [L, L + 5, L + 6] := fun b hb => by rw [List.mem_singleton.mp hb]; exact .tail _ (.head _)
  have O1' : (lawCx P prog w A L fa cd [L, L + 6] m h1).Ok (Bs (KK P) mg mb) := O1.unhide bs_mono [L, L + 6] sX (.head _)
  have s1 : (lawCx P prog w A L fa cd [L, L + 5, L + 6] m h).Sub (lawCx P prog w A L fa cd [L, L + 6] m h1) := sub_kx k1 w5 sX
  have K1 := keep_old K k1 fun b hb => hfr b (w5 b hb)
  have c6a := cell_keepX c6 k1 (by simp)
  have hc5 : (hideAll h1 [L, L + 6]).IsCell (L + 5) (some v) := hid_cell c5' (by simp)
  obtain ⟨N, e1, e2, e3⟩ := pl.norm
  have ln1 : Lead [L, L + 6] h1 vn _ 0 ws.length := Lead.hideNew (X := []) (h := h1) s1 ln
  have lb1 : Lead [L, L + 6] h1 vb _ 0 du.length := Lead.hideNew (X := []) (h := h1) s1 lb
  have rw1 : Rd [L, L + 6] h1 vw (.list (ws.map encW)) := s1.rd rw
  refine go_reX (X' := [L, L + 6]) (m' := m) (norm_go (N := N) O1' hn ln1 hc5 (RdP.sub r1 sX) (by rw [List.length_map]; exact pl.pos) e1 e2 e3 fun h2 O2 k2 => ?_)
  refine or_go O2 hn (ln1.keepX (Keep.toX k2)) hb (lb1.keepX (Keep.toX k2)) pl.len pl.many fun h3 O3 k3 => ?_
  have k13 : Keep h1 h3 := fun b o e => k3 b o (k2 b o e)
  refine z_go (v0 := v6) O3 (cell_keep c6a k13) (.tail _ (.head _)) fun t h4 c6' O4 k4 => ?_
  have w6 : ∀ b ∈ [L + 6], b ∈ [L, L + 6] := fun b hb => .tail _ hb
  have sX4 : ∀ b ∈ [L], b ∈ [L, L + 6] := fun b hb => by rw [List.mem_singleton.mp hb]; exact .head _
  have O4' : (lawCx P prog w A L fa cd [L] m h4).Ok (Bs (KK P) mg mb) := O4.unhide bs_mono [L] sX4 (.head _)
  have k14 : KeepX [L + 6] h1 h4 := fun b o hb e => k4 b o hb (k13 b o e)
  have s4 : (lawCx P prog w A L fa cd [L, L + 6] m h1).Sub (lawCx P prog w A L fa cd [L] m h4) := sub_kx k14 w6 sX4
  have K4 := keep_old K1 k14 fun b hb => hfr b (sX b (w6 b hb))
  have hc6 : (hideAll h4 [L]).IsCell (L + 6) (some (.int 100 t)) := hid_cell c6' (by simp)
  have ln4 : Lead [L] h4 vn _ 0 ws.length := Lead.hideNew (X := []) (h := h1) s4 ln1
  have lb4 : Lead [L] h4 vb _ 0 du.length := Lead.hideNew (X := []) (h := h1) s4 lb1
  have rw4 : Rd [L] h4 vw (.list (ws.map encW)) := s4.rd rw1
  refine go_reX (X' := [L]) (m' := m) (own_go O4' hn ln4 pl.h7 hc6 fun vo m5 h5 u5 O5 k5 r5 => ?_)
  have hc6' : (hideAll h5 [L]).IsCell (L + 6) (some (.int 100 t)) := cell_keep hc6 (hid_keepX k5)
  refine ret_go O5 (u5.get (by kernel_rfl) hb) (lb4.keepX k5) pl.d7 hc6' (u5.get (by kernel_rfl) hw) (rw4.keepX k5) pl.len u5.self r5 pl.mac fun h6 k6 => ⟨rfl, fun b o e => k6 b o (keep_old K4 k5 (fun b hb => by rw [List.mem_singleton.mp hb]; exact hfr L (.head _)) b o e)⟩
end
end Mine
end

section
open PySem PySem.W PyProof.Rows PySem.SeqAt
set_option Elab.async false
set_option maxRecDepth 100000
set_option linter.unusedVariables false
namespace Mine

section
variable {P : Params} {prog : Program} {w : World} {A : Around} {L fa : Addr} {cd : Value} {mg mb : Str → Option Value}
abbrev LL (L : Addr) : List Addr := [L, L + 5, L + 6]
theorem LX {L : Addr} : ∀ b ∈ [L], b ∈ LL L := fun b hb => by rw [List.mem_singleton.mp hb]; exact .head _
theorem c5L {L : Addr} : L + 5 ∉ [L] := by simp
theorem c6L {L : Addr} : L + 6 ∉ [L] := by simp

/-- from the leads on -/
theorem mid2_go {m : Str → Option Value} {h h₀ : Heap} {ws du : List Wd} {t : Wd} {vw vn va vd : Value} {v5 v6 : Option Value} {n : Nat} (O : (lawCx P prog w A L fa cd (LL L) m h).Ok (Bs (KK P) mg mb)) (hr : Room A (n + 8)) (K : Keep h₀ h) (hfr : ∀ b ∈ LL L, h₀.get? b = none) (pl : Plain ws du) (ht : t ∈ ws)
    (hw : m (Str.ofString "words") = some vw) (rw : Rd (LL L) h vw (.list (ws.map encW))) (hd : m (Str.ofString "dual") = some vd) (rd : Rd (LL L) h vd (.list (du.map encW))) (hn : m (Str.ofString "named") = some vn) (rn : Rd (LL L) h vn (.list (ws.map nmD))) (hap : m (Str.ofString "apart") = some va) (ra : Rd (LL L) h va (.list ((ws.map (costW t)).map PyData.int)))
    (c5 : h.IsCell (L + 5) v5) (c6 : h.IsCell (L + 6) v6) : Go (lawCx P prog w A L fa cd (LL L) m h) (lawRest 10) (Won h₀) := by
  have hL0 : ∀ b ∈ [L], h₀.get? b = none := fun b hb => hfr b (LX b hb)
  refine near_go O hr hn rn pl.ok pl.len fun v1 m1 h1 u1 O1 k1 l1 => ?_
  refine back_go O1 hr (u1.get (by kernel_rfl) hd) (rd.keepX (k1.mono LX)) pl.dok pl.dlen fun v2 m2 h2 u2 O2 k2 l2 => ?_
  have k12 : KeepX [L] h h2 := k1.trans k2
  refine equal_go O2 hr (u2.get (by kernel_rfl) u1.self) (l1.keepX (k2.mono LX)) (u2.get (by kernel_rfl) (u1.get (by kernel_rfl) hap)) (ra.keepX (k12.mono LX)) (pl.ok t ht) pl.ok pl.len (pl.dist t ht) fun h3 O3 k3 => ?_
  have k13 : KeepX [L] h h3 := k12.trans (Keep.toX k3)
  exact tail_go O3 (keep_old K k13 hL0) hfr pl (u2.get (by kernel_rfl) (u1.get (by kernel_rfl) hw)) (rw.keepX (k13.mono LX)) (u2.get (by kernel_rfl) u1.self) (l1.keepX ((k2.trans (Keep.toX k3)).mono LX)) u2.self (l2.keepX (Keep.toX k3)) (cell_keepX c5 k13 c5L) (cell_keepX c6 k13 c6L)

/-- from the dual on -/
theorem mid_go {m : Str → Option Value} {h h₀ : Heap} {a b c d e : Nat} {dr : List Int} {vw vr : Value} {v5 v6 : Option Value} {n : Nat} (O : (lawCx P prog w A L fa cd (LL L) m h).Ok (Bs (KK P) mg mb)) (hr : Room A (n + 8)) (K : Keep h₀ h) (hfr : ∀ b ∈ LL L, h₀.get? b = none) (ha : a < 4 ∧ b < 4 ∧ c < 4 ∧ d < 4) (D : Dig h (LL L) L a b c d)
    (hw : m (Str.ofString "words") = some vw) (rw : Rd (LL L) h vw (.list ((wAt a b c d 16).map encW))) (hv : m (Str.ofString "draws") = some vr) (rv : Rd (LL L) h vr (.list (dr.map PyData.int))) (he : dr[4]? = some ((e : Nat) : Int))
    (c5 : h.IsCell (L + 5) v5) (c6 : h.IsCell (L + 6) v6) : Go (lawCx P prog w A L fa cd (LL L) m h) (lawRest 4) (Won h₀) := by
  have hL0 : ∀ b ∈ [L], h₀.get? b = none := fun b hb => hfr b (LX b hb)
  have pl := plain ha
  generalize wAt a b c d 16 = ws at pl rw
  refine dual_go O D ha fun v1 m1 h1 u1 O1 k1 r1 => ?_
  generalize dualW a b c d = du at pl r1
  refine named_go (n := n) O1 (hr.less (by omega)) (u1.get (by kernel_rfl) hw) (rw.keepX (k1.mono LX)) pl.ok pl.len fun v2 m2 h2 u2 O2 k2 r2 => ?_
  refine texts_go (n := n) O2 (hr.less (by omega)) u2.self r2 pl.ok pl.len fun v3 m3 h3 u3 O3 k3 r3 => ?_
  have k13 : KeepX [L] h h3 := (k1.trans k2).trans k3
  have gw : m3 (Str.ofString "words") = some vw := u3.get (by kernel_rfl) (u2.get (by kernel_rfl) (u1.get (by kernel_rfl) hw))
  refine place_go O3 gw (rw.keepX (k13.mono LX)) (u3.get (by kernel_rfl) (u2.get (by kernel_rfl) (u1.get (by kernel_rfl) hv))) (rv.keepX (k13.mono LX)) he pl.len pl.pos fun v4 m4 h4 u4 O4 k4 r4 => ?_
  have k14 : KeepX [L] h h4 := k13.trans k4
  obtain ⟨tp, rfl⟩ := r4.inv_int
  have hlt : e % ws.length < ws.length := Nat.mod_lt _ pl.pos
  obtain ⟨t, hpl⟩ : ∃ t, ws[e % ws.length]? = some t := ⟨_, List.getElem?_eq_getElem hlt⟩
  refine new8_go O4 fun ap m5 h5 hap0 hapX hp5 u5 O5 k5 => ?_
  have k15 : KeepX [L] h h5 := k14.trans k5
  have s45 : (lawCx P prog w A L fa cd (LL L) m4 h4).Sub (lawCx P prog w A L fa cd (ap :: LL L) m5 h5) := sub_nw k5 (.head _) hap0
  have apL : ap ≠ L := fun q => hapX (q ▸ .head _)
  have gw5 : m5 (Str.ofString "words") = some vw := u5.get (by kernel_rfl) (u4.get (by kernel_rfl) gw)
  refine apart_go (X := ap :: LL L) (n := n) O5 (hr.less (by omega)) (.head _) apL gw5 (s45.rd (rw.keepX (k14.mono LX))) (u5.get (by kernel_rfl) (u4.get (by kernel_rfl) u3.self)) (s45.rd (r3.keepX (k4.mono LX))) (u5.get (by kernel_rfl) u4.self) hpl pl.ok pl.len (fun t u h1 h2 => cost_ring h1 h2) ⟨#[], u5.self, hp5, .nil⟩ fun m6 h6 k6 O6 I6 S6 => ?_
  obtain ⟨items, e1, e2, e3⟩ := I6
  have sX : ∀ b ∈ LL L, b ∈ ap :: LL L := fun b hb => .tail _ hb
  have wX : ∀ b ∈ [ap, L], b ∈ ap :: LL L := fun b hb => by
    rcases List.mem_cons.mp hb with rfl | hb
    · exact .head _
    · exact .tail _ (LX b hb)
  have O6' : (lawCx P prog w A L fa cd (LL L) m6 h6).Ok (Bs (KK P) mg mb) := O6.unhide bs_mono (LL L) sX (.head _)
  have s46 : (lawCx P prog w A L fa cd (LL L) m4 h4).Sub (lawCx P prog w A L fa cd (LL L) m6 h6) := s45.trans (sub_kx k6 wX sX)
  have ra : Rd (LL L) h6 (.ref ap) (.list ((ws.map (costW t)).map PyData.int)) := .list (hid_list e2.isList hapX) (by rw [List.take_length] at e3; exact e3.sub sX)
  have live5 : ∀ {v}, h.IsCell (L + 5) v → h6.IsCell (L + 5) v := fun c => cell_keepX (cell_keepX c k15 c5L) k6 (fun q => by
    rcases List.mem_cons.mp q with q | q
    · exact hapX (q ▸ .tail _ (.head _))
    · exact c5L q)
  have live6 : ∀ {v}, h.IsCell (L + 6) v → h6.IsCell (L + 6) v := fun c => cell_keepX (cell_keepX c k15 c6L) k6 (fun q => by
    rcases List.mem_cons.mp q with q | q
    · exact hapX (q ▸ .tail _ (.tail _ (.head _)))
    · exact c6L q)
  have K4 := keep_old K k14 hL0
  have ap0 : h₀.get? ap = none := by
    cases q : h₀.get? ap with
    | none => rfl
    | some o => have := K4 ap o q; rw [hap0] at this; cases this
  have K6 : Keep h₀ h6 := keep_old (keep_old K k15 hL0) k6 fun b hb => by
    rcases List.mem_cons.mp hb with rfl | hb
    · exact ap0
    · exact hL0 b hb
  exact go_reX (mid2_go (t := t) O6' hr K6 hfr pl (List.mem_of_getElem? hpl) (S6.get (by kernel_rfl) gw5) (s46.rd (rw.keepX (k14.mono LX)))
    (S6.get (by kernel_rfl) (u5.get (by kernel_rfl) (u4.get (by kernel_rfl) (u3.get (by kernel_rfl) (u2.get (by kernel_rfl) u1.self))))) (s46.rd (r1.keepX (((k2.trans k3).trans k4).mono LX)))
    (S6.get (by kernel_rfl) (u5.get (by kernel_rfl) (u4.get (by kernel_rfl) (u3.get (by kernel_rfl) u2.self)))) (s46.rd (r2.keepX ((k3.trans k4).mono LX)))
    e1 ra (live5 c5) (live6 c6))
end
end Mine
end

section
open PySem PySem.W PyProof.Rows PySem.SeqAt
set_option Elab.async false
set_option maxRecDepth 100000
set_option linter.unusedVariables false
namespace Mine

theorem fmod_lt4 (x : Int) : ∃ a : Nat, a < 4 ∧ x.fmod 4 = (a : Nat) := by
  have h1 := Int.fmod_nonneg_of_pos x (show (0 : Int) < 4 by decide)
  have h2 := Int.fmod_lt_of_pos x (show (0 : Int) < 4 by decide)
  exact ⟨(x.fmod 4).toNat, by omega, by omega⟩
theorem draws_nn (ns : List Int) : ∀ x ∈ drawsOf ns, 0 ≤ x := fun x hx => by
  obtain ⟨y, _, rfl⟩ := List.mem_map.mp hx
  exact Int.fmod_nonneg_of_pos y (by decide)

theorem n4 (L : Nat) : ∀ b : Nat, b ∈ [L + 1, L + 2, L + 3, L + 4] → b ∈ [L, L + 1, L + 2, L + 3, L + 4, L + 5, L + 6] := fun b hb => by simp at hb ⊢; omega
theorem n3 (L : Nat) : ∀ b : Nat, b ∈ [L, L + 5, L + 6] → b ∈ [L, L + 1, L + 2, L + 3, L + 4, L + 5, L + 6] := fun b hb => by simp at hb ⊢; omega
theorem n46 (L : Nat) : ∀ b : Nat, b ∈ [L + 1, L + 2, L + 3, L + 4] → b ∈ [L + 1, L + 2, L + 3, L + 4, L + 5, L + 6] := fun b hb => by simp at hb ⊢; omega
theorem n26 (L : Nat) : ∀ b : Nat, b ∈ [L + 5, L + 6] → b ∈ [L + 1, L + 2, L + 3, L + 4, L + 5, L + 6] := fun b hb => by simp at hb ⊢; omega
theorem n6L (L : Nat) : ∀ b : Nat, b ∈ [L + 1, L + 2, L + 3, L + 4, L + 5, L + 6] → b ∉ [L] := fun b hb => by simp at hb ⊢; omega
theorem n24 (L : Nat) : ∀ b : Nat, b ∈ [L + 5, L + 6] → b ∉ [L + 1, L + 2, L + 3, L + 4] := fun b hb => by simp at hb ⊢; omega

section
variable {P : Params} {prog : Program} {w : World} {A : Around} {L fa : Addr} {cd : Value} {mg mb : Str → Option Value}
abbrev XX (L : Addr) : List Addr := [L, L + 1, L + 2, L + 3, L + 4, L + 5, L + 6]
theorem XXL {L : Addr} : ∀ b ∈ [L], b ∈ XX L := fun b hb => by rw [List.mem_singleton.mp hb]; exact .head _
theorem XX4 {L : Addr} : ∀ b ∈ [L + 1, L + 2, L + 3, L + 4], b ∈ XX L := n4 L
theorem XLL {L : Addr} : ∀ b ∈ LL L, b ∈ XX L := n3 L

theorem law_go {m : Str → Option Value} {h h₀ : Heap} {ns : List Int} {vs : Value} {n : Nat} (O : (lawCx P prog w A L fa cd (XX L) m h).Ok (Bs (KK P) mg mb)) (hr : Room A (n + 8)) (K : Keep h₀ h) (hfr : ∀ b ∈ XX L, h₀.get? b = none)
    (hm : m (Str.ofString "script") = some vs) (rs : Rd (XX L) h vs (.list (ns.map PyData.int))) (hlen : ns.length ≤ 63) (hc : ∀ a ∈ [L + 1, L + 2, L + 3, L + 4, L + 5, L + 6], ∃ v, h.IsCell a v) : Go (lawCx P prog w A L fa cd (XX L) m h) (lawRest 0) (Won h₀) := by
  have hL0 : ∀ b ∈ [L], h₀.get? b = none := fun b hb => hfr b (XXL b hb)
  refine draws_go O hm rs hlen fun v1 m1 h1 u1 O1 k1 r1 => ?_
  have hc1 : ∀ a ∈ [L + 1, L + 2, L + 3, L + 4, L + 5, L + 6], ∃ v, h1.IsCell a v := fun a ha => by
    obtain ⟨v, q⟩ := hc a ha
    exact ⟨v, cell_keepX q k1 (n6L L a ha)⟩
  have K1 := keep_old K k1 hL0
  have nn := draws_nn ns
  obtain ⟨d1, d2, d3, d4, d5, ed⟩ := five _ (draws_len ns)
  rw [ed] at r1 nn
  obtain ⟨a, ha, ea⟩ := fmod_lt4 d1
  obtain ⟨b, hb, eb⟩ := fmod_lt4 d2
  obtain ⟨c, hcc, ec⟩ := fmod_lt4 d3
  obtain ⟨d, hd, edd⟩ := fmod_lt4 d4
  obtain ⟨e, ee⟩ : ∃ e : Nat, d5 = (e : Nat) := ⟨d5.toNat, by have := nn d5 (by simp); omega⟩
  refine digits_go O1 u1.self r1 (fun a ha => ⟨hc1 a (n46 L a ha), XX4 a ha⟩) fun t1 t2 t3 t4 h2 q1 q2 q3 q4 O2 k2 => ?_
  rw [ea] at q1; rw [eb] at q2; rw [ec] at q3; rw [edd] at q4
  have O2' : (lawCx P prog w A L fa cd (LL L) m1 h2).Ok (Bs (KK P) mg mb) := O2.unhide bs_mono (LL L) XLL (.head _)
  have s12 : (lawCx P prog w A L fa cd (XX L) m1 h1).Sub (lawCx P prog w A L fa cd (LL L) m1 h2) := sub_kx k2 XX4 XLL
  have D2 : Dig h2 (LL L) L a b c d := ⟨⟨t1, hid_cell q1 (by simp)⟩, ⟨t2, hid_cell q2 (by simp)⟩, ⟨t3, hid_cell q3 (by simp)⟩, ⟨t4, hid_cell q4 (by simp)⟩⟩
  have K2 := keep_old K1 k2 fun b hb => hfr b (XX4 b hb)
  have hc2 : ∀ a ∈ [L + 5, L + 6], ∃ v, h2.IsCell a v := fun a ha => by
    obtain ⟨v, q⟩ := hc1 a (n26 L a ha)
    exact ⟨v, cell_keepX q k2 (n24 L a ha)⟩
  refine go_reX (X' := LL L) (m' := m1) (new_go O2' fun aw m3 h3 haw hawX hp3 u3 O3 k3 => ?_)
  have awL : aw ≠ L := fun q => hawX (q ▸ .head _)
  have s23 : (lawCx P prog w A L fa cd (LL L) m1 h2).Sub (lawCx P prog w A L fa cd (aw :: LL L) m3 h3) := sub_nw k3 (.head _) haw
  refine words_go (X := aw :: LL L) (aw := aw) O3 (.head _) awL (D2.sub s23) ⟨ha, hb, hcc, hd⟩ ⟨#[], u3.self, hp3, .nil⟩ fun m4 h4 k4 O4 I4 S4 => ?_
  obtain ⟨items, e1, e2, e3⟩ := I4
  have sX : ∀ b ∈ LL L, b ∈ aw :: LL L := fun b hb => .tail _ hb
  have wX : ∀ b ∈ [aw, L], b ∈ aw :: LL L := fun b hb => by
    rcases List.mem_cons.mp hb with rfl | hb
    · exact .head _
    · exact .tail _ (LX b hb)
  have O4' : (lawCx P prog w A L fa cd (LL L) m4 h4).Ok (Bs (KK P) mg mb) := O4.unhide bs_mono (LL L) sX (.head _)
  have s24 : (lawCx P prog w A L fa cd (LL L) m1 h2).Sub (lawCx P prog w A L fa cd (LL L) m4 h4) := s23.trans (sub_kx k4 wX sX)
  have rw4 : Rd (LL L) h4 (.ref aw) (.list ((wAt a b c d 16).map encW)) := .list (hid_list e2.isList hawX) (e3.sub sX)
  have live : ∀ x ∈ [L + 5, L + 6], ∃ v, h4.IsCell x v := fun x hx => by
    obtain ⟨v, q⟩ := hc2 x hx
    refine ⟨v, cell_keepX (cell_keepX q k3 (n6L L x (n26 L x hx))) k4 fun q => ?_⟩
    rcases List.mem_cons.mp q with q | q
    · exact hawX (q ▸ .tail _ hx)
    · exact n6L L x (n26 L x hx) q
  have aw0 : h₀.get? aw = none := by
    cases q : h₀.get? aw with
    | none => rfl
    | some o => have := K2 aw o q; rw [haw] at this; cases this
  have K4 : Keep h₀ h4 := keep_old (keep_old K2 k3 hL0) k4 fun b hb => by
    rcases List.mem_cons.mp hb with rfl | hb
    · exact aw0
    · exact hL0 b hb
  obtain ⟨v5, c5⟩ := live (L + 5) (.head _)
  obtain ⟨v6, c6⟩ := live (L + 6) (.tail _ (.head _))
  exact go_reX (mid_go (e := e) O4' hr K4 (fun b hb => hfr b (XLL b hb)) ⟨ha, hb, hcc, hd⟩ (D2.sub s24) e1 rw4 (S4.get (by kernel_rfl) (u3.get (by kernel_rfl) u1.self)) (s24.rd (s12.rd r1)) (by rw [← ee]; rfl) c5 c6)
end
end Mine
end

section
open PySem PySem.W PyProof.Rows PySem.SeqAt
set_option Elab.async false
set_option maxRecDepth 100000
set_option linter.unusedVariables false
namespace Mine

theorem ge7 (L : Nat) : ∀ b : Nat, b ∈ [L, L + 1, L + 2, L + 3, L + 4, L + 5, L + 6] → L ≤ b := fun b hb => by simp at hb; omega

/-- the law, from the call's frame on -/
theorem law_fin {w : World} {prog p : Program} {lo : List Str} {mean : ExcName → Option Value} {mg mb : Str → Option Value} {h₀ h₁ : Heap} {fa la : Addr} {cd : Value} {m : Str → Option Value} {ns : List Int} {vs : List Value} {as : List Addr} {A : Around} {nm : Str} {sc : Scope} {body : List Stmt}
    {o1 o2 o3 o4 o5 o6 : Obj} {v1 v2 v3 v4 v5 v6 : Option Value} {Q : Flow → Shared → Prop} {E : Value → Shared → Prop} {s : Shared}
    (K : (KK w.params).In h₀) (T : Top p lo mean mg mb h₀) (hl : h₀.IsList la vs.toArray) (ra : ReadsAll h₀ vs (ns.map PyData.int) as) (hn : ns.length ≤ 63) (F : Fr h₀ h₀.objs.size h₁ m) (hm : m (Str.ofString "script") = some (.ref la))
    (N : News h₀ h₀.objs.size h₁ [(h₀.objs.size + 6, o6), (h₀.objs.size + 5, o5), (h₀.objs.size + 4, o4), (h₀.objs.size + 3, o3), (h₀.objs.size + 2, o2), (h₀.objs.size + 1, o1)])
    (d6 : o6.data = .cell v6) (d5 : o5.data = .cell v5) (d4 : o4.data = .cell v4) (d3 : o3.data = .cell v3) (d2 : o2.data = .cell v2) (d1 : o1.data = .cell v1)
    (he : nm = Str.ofString "law") (he' : sc = (fdAt (KK w.params) 122).scope) (hb : body = bodyAt 14) (hA : Room A 8) (hs : s.heap = h₁)
    (hQ : ∀ h' tk, Keep h₀ h' → Q (.ret (.bool true)) { s with heap := h', toks := tk }) :
    wpAny (model prog w) A (execs body (envOfC nm sc h₀.objs.size fa cd)) Q E s := by
  subst he he' hb
  have hfr : ∀ b ∈ XX h₀.objs.size, h₀.get? b = none := fun b hb => by
    cases q : h₀.get? b with
    | none => rfl
    | some o => exact absurd (Heap.lt_size q) (Nat.not_lt.mpr (ge7 _ b hb))
  have kx : Keep h₀ (hideAll h₁ (XX h₀.objs.size)) := fun b o e => hid_get.mpr ⟨fun q => (by rw [hfr b q] at e; cases e), F.keep b o e⟩
  have hc : ∀ a ∈ [h₀.objs.size + 1, h₀.objs.size + 2, h₀.objs.size + 3, h₀.objs.size + 4, h₀.objs.size + 5, h₀.objs.size + 6], ∃ v, h₁.IsCell a v := fun a ha => by
    simp at ha
    rcases ha with rfl | rfl | rfl | rfl | rfl | rfl
    · exact ⟨v1, o1, N.get (by simp), d1⟩
    · exact ⟨v2, o2, N.get (by simp), d2⟩
    · exact ⟨v3, o3, N.get (by simp), d3⟩
    · exact ⟨v4, o4, N.get (by simp), d4⟩
    · exact ⟨v5, o5, N.get (by simp), d5⟩
    · exact ⟨v6, o6, N.get (by simp), d6⟩
  have live : Live (XX h₀.objs.size) h₁ := fun x hx => by
    rcases List.mem_cons.mp hx with rfl | hx
    · obtain ⟨o, _, _, q, _⟩ := F.ns; exact ⟨o, q⟩
    · obtain ⟨v, o, q, _⟩ := hc x hx; exact ⟨o, q⟩
  have O : (lawCx w.params prog w A h₀.objs.size fa cd (XX h₀.objs.size) m h₁).Ok (Bs (KK w.params) mg mb) :=
    ⟨hA.aok, F.ns, .head _, live, bs_mono h₀ _ kx ⟨K, T.g, T.b, T.builtins, T.nolimit⟩, by kernel_rfl⟩
  have rs : Rd (XX h₀.objs.size) h₁ (.ref la) (.list (ns.map PyData.int)) := by
    obtain ⟨o, e1, e2, n, e3⟩ := hl
    exact .list (items := vs.toArray) ⟨o, kx _ _ e1, e2, n, e3⟩ ⟨as, by simpa using ReadsAll.keeps kx ra⟩
  exact (law_go (n := 0) O hA F.keep hfr hm rs hn hc).run s Q E hs fun f h' tk ⟨e, k⟩ => by subst e; exact hQ h' tk k
theorem room_caller (env : Env) : Room (callerA.deeper env) 8 := ⟨rfl, (show callerA.depth + 1 + 8 ≤ 900 by decide +kernel), (show callerA.units + 3 + 10 * 8 ≤ 9000 by decide +kernel)⟩
end Mine
end

open PySem PySem.W PyProof.Rows
set_option Elab.async false
set_option maxRecDepth 100000
set_option maxHeartbeats 8000000
theorem PySem.Challenge.cw_re0088_01_holds : PySem.Challenge.rw_re0088_01.Holds := by
  refine Mine.hd ?_
  w_strict (k_go0; (refine Mine.law_fin (by assumption) (by assumption) (by assumption) (by assumption) (by omega) (by assumption) (by kernel_rfl) (by assumption) (by assumption) (by assumption) (by assumption) (by assumption) (by assumption) (by assumption) (by kernel_rfl) (by kernel_rfl) (by kernel_rfl) (Mine.room_caller _) rfl ?_); intro h' tk hk; (refine ⟨.inl ⟨.bool true, .bool true, [], rfl, raisesW_false (by wrow_none_raised), .bool true, ?_, unshared_nil⟩, hk, rfl, by assumption⟩; wrow_post))
