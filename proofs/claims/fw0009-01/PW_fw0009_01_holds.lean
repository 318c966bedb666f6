import PyProof.Rows.All
import Wide.All
import OpenK.AllK
import Wide.FinOn
import PySem.Challenge.RW_fw0009_01
open PySem PySem.W PyProof.Rows PySem.W.X
set_option Elab.async false
set_option maxRecDepth 100000
set_option maxHeartbeats 8000000
namespace Mine
open_top hd for PySem.Challenge.rw_fw0009_01


end Mine
namespace Mine
abbrev PG : Program := PySem.Challenge.rw_fw0009_01.row.prog
noncomputable abbrev KH (w : World) : Frag := hd.heap_39 w.params

/-! ## arounds -/
def A9 : Around := { handled := none, depth := 500, frames := none, guards := none, units := 100 }
structure Calm (A : Around) : Prop where
  handled : A.handled = none
  depth : A.depth ≤ 450
  units : A.units ≤ 90
theorem Calm.lift {α : Type} {M : Model} {A : Around} {t : Sem α} {Q E s} (c : Calm A) (h : wpAny M A9 t Q E s) : wpAny M A t Q E s := by
  intro Γ p hΓ
  have h1 := c.depth
  have h2 := c.units
  refine h Γ p ⟨hΓ.1.trans c.handled, ?_, ?_, ?_, ?_⟩
  · have := hΓ.2.1; show _ ≤ 500; omega
  · intro l q; cases q
  · intro l q; cases q
  · have := hΓ.2.2.2.2; show _ ≤ 100; omega
theorem Calm.lift1 {α : Type} {M : Model} {A : Around} {t : Sem α} {Q E s} (c : Calm A) (h : wpAny M A9 t Q E s) : wpAny M A.in1 t Q E s := by
  intro Γ p hΓ
  have h1 := c.depth
  have h2 := c.units
  refine h Γ p ⟨hΓ.1.trans c.handled, ?_, ?_, ?_, ?_⟩
  · have := hΓ.2.1; show _ ≤ 500; simp only [Around.in1] at this; omega
  · intro l q; cases q
  · intro l q; cases q
  · have := hΓ.2.2.2.2; show _ ≤ 100; simp only [Around.in1] at this; omega
theorem Calm.of {A B : Around} (c : Calm A) (hh : B.handled = A.handled) (hd : B.depth ≤ 450) (hu : B.units ≤ 90) : Calm B := ⟨hh.trans c.handled, hd, hu⟩
theorem Calm.room {A : Around} (c : Calm A) : A.depth < recursionLimit := Nat.lt_of_le_of_lt c.depth (by decide)

/-! ## heaps that grow -/
def Grow (h h' : Heap) : Prop := ∀ b o, h.get? b = some o → h'.get? b = some o
theorem Grow.refl (h : Heap) : Grow h h := fun _ _ e => e
theorem Grow.trans {a b c : Heap} (x : Grow a b) (y : Grow b c) : Grow a c := fun n o e => y n o (x n o e)

def EndsV (h : Heap) (g : Array GenState) (d : Drawn) (os : OsState) (v : Value) : Value → Shared → Prop := fun v' s' => v' = v ∧ ∃ h' tk', s' = ⟨h', g, d, tk', os⟩ ∧ Grow h h'
theorem mem_grow {h h' : Heap} {news} (D : Mem h h' [] news) : Grow h h' := fun b o e => D.keep b o e (by simp [away])
theorem endsV {h h' : Heap} {g d os t v news} (D : Mem h h' [] news) : EndsV h g d os v v ⟨h', g, d, t, os⟩ := ⟨rfl, _, _, rfl, mem_grow D⟩
theorem endsV' {h h' : Heap} {g d os t v v' news} (e : v' = v) (D : Mem h h' [] news) : EndsV h g d os v v' ⟨h', g, d, t, os⟩ := ⟨e, _, _, rfl, mem_grow D⟩
theorem endsGo {h : Heap} {g d os v} {M : Model} {A : Around} {m : Sem Value} {E s} {Q : Value → Shared → Prop} (x : wpAny M A m (EndsV h g d os v) E s)
    (hQ : ∀ h' tk', Grow h h' → Q v ⟨h', g, d, tk', os⟩) : wpAny M A m Q E s := by
  refine wpAny_mono x (fun v' s' q => ?_) fun _ _ e => e
  obtain ⟨rfl, h', tk', rfl, hg⟩ := q
  exact hQ h' tk' hg
/-! ## a DXFTag -/
def tagObj (dx : Addr) (c v : Value) : Obj := { cls := .ref 173, dict := some dx, data := .plain, slots := #[some c, some v] }
def IsTag (h : Heap) (a : Addr) (c v : Value) : Prop := ∃ dx o, h.get? a = some (tagObj dx c v) ∧ h.get? dx = some o
theorem IsTag.grow {h h' : Heap} {a c v} (x : IsTag h a c v) (k : Grow h h') : IsTag h' a c v := let ⟨dx, o, p, q⟩ := x; ⟨dx, o, k _ _ p, k _ _ q⟩
inductive PV where
  | s (x : Str)
  | n (i : Int)
def PV.val : PV → Tok → Value
  | .s x, t => .str x t
  | .n i, t => .int i t

section calls
local macro_rules | `(tactic| x_close) => `(tactic| first | exact endsV (by assumption))
theorem prop_code {w : World} {E} {h : Heap} {g d t os} {a dx : Addr} {c : Int} {tc : Tok} {v : Value} (KX : (hd.heap_39 w.params).In h) (ha : h.get? a = some ⟨.ref 173, some dx, .plain, #[some (.int c tc), some v]⟩) :
   wpAny (model PG w) A9 (call (.builtin "property.__get__") [.ref 119, .ref a, .ref 173]) (EndsV h g d os (.int c tc)) E ⟨h, g, d, t, os⟩ := by
  x_run
theorem prop_value_s {w : World} {E} {h : Heap} {g d t os} {a dx : Addr} {c : Value} {x : Str} {tx : Tok} (KX : (hd.heap_39 w.params).In h) (ha : h.get? a = some ⟨.ref 173, some dx, .plain, #[some c, some (.str x tx)]⟩) :
   wpAny (model PG w) A9 (call (.builtin "property.__get__") [.ref 127, .ref a, .ref 173]) (EndsV h g d os (.str x tx)) E ⟨h, g, d, t, os⟩ := by
  x_run
theorem prop_value_n {w : World} {E} {h : Heap} {g d t os} {a dx : Addr} {c : Value} {x : Int} {tx : Tok} (KX : (hd.heap_39 w.params).In h) (ha : h.get? a = some ⟨.ref 173, some dx, .plain, #[some c, some (.int x tx)]⟩) :
   wpAny (model PG w) A9 (call (.builtin "property.__get__") [.ref 127, .ref a, .ref 173]) (EndsV h g d os (.int x tx)) E ⟨h, g, d, t, os⟩ := by
  x_run
theorem emb_no {w : World} {E} {h : Heap} {g d t os} {a dx : Addr} {c : Int} {v : Value} {tc : Tok} (KX : (hd.heap_39 w.params).In h) (ha : h.get? a = some ⟨.ref 173, some dx, .plain, #[some (.int c tc), some v]⟩) (hc : ¬ c = 101) :
   wpAny (model PG w) A9 (call (.ref 184) [.ref a]) (EndsV h g d os (.bool false)) E ⟨h, g, d, t, os⟩ := by
  x_run
theorem emb_yes {w : World} {E} {h : Heap} {g d t os} {a dx : Addr} {tc tx : Tok} (KX : (hd.heap_39 w.params).In h) (ha : h.get? a = some ⟨.ref 173, some dx, .plain, #[some (.int 101 tc), some (.str (Str.ofString "Embedded Object") tx)]⟩) :
   wpAny (model PG w) A9 (call (.ref 184) [.ref a]) (EndsV h g d os (.bool true)) E ⟨h, g, d, t, os⟩ := by
  x_run
theorem emb_other {w : World} {E} {h : Heap} {g d t os} {a dx : Addr} {tc tx : Tok} (KX : (hd.heap_39 w.params).In h) (ha : h.get? a = some ⟨.ref 173, some dx, .plain, #[some (.int 101 tc), some (.str (Str.ofString "other") tx)]⟩) :
   wpAny (model PG w) A9 (call (.ref 184) [.ref a]) (EndsV h g d os (.bool false)) E ⟨h, g, d, t, os⟩ := by
  x_run
end calls
section mk
def Makes (h : Heap) (g : Array GenState) (d : Drawn) (os : OsState) (c v : Value) : Value → Shared → Prop := fun r s' => ∃ a h' tk', r = .ref a ∧ s' = ⟨h', g, d, tk', os⟩ ∧ Grow h h' ∧ IsTag h' a c v ∧ h.get? a = none
theorem makes {h h' : Heap} {g d os t a dx c v f o q} (D : Mem h h' [] [f, (a, o), (dx, q)]) (ho : o = tagObj dx c v) : Makes h g d os c v (.ref a) ⟨h', g, d, t, os⟩ :=
  ⟨a, h', t, rfl, rfl, mem_grow D, ⟨dx, q, ho ▸ (D.nw _ (.tail _ (.head _))).1, (D.nw _ (.tail _ (.tail _ (.head _)))).1⟩, (D.nw _ (.tail _ (.head _))).2⟩
local macro_rules | `(tactic| x_close) => `(tactic| first | exact makes (by assumption) (by first | rfl | kernel_rfl!) | (trace_state; fail "no"))
theorem mk_s {w : World} {E} {h : Heap} {g d t os} {c : Int} {x : Str} {tc tx : Tok} (KX : (hd.heap_39 w.params).In h) :
   wpAny (model PG w) A9 (call (.ref 173) [.int c tc, .str x tx]) (Makes h g d os (.int c tc) (.str x tx)) E ⟨h, g, d, t, os⟩ := by
  x_run
theorem mk_n {w : World} {E} {h : Heap} {g d t os} {c : Int} {x : Int} {tc tx : Tok} (KX : (hd.heap_39 w.params).In h) :
   wpAny (model PG w) A9 (call (.ref 173) [.int c tc, .int x tx]) (Makes h g d os (.int c tc) (.int x tx)) E ⟨h, g, d, t, os⟩ := by
  x_run
end mk
end Mine
namespace Mine

/-! ## locals of a frame -/
def Loc (h : Heap) (L : Addr) (l : List (Str × Value)) : Prop := ∃ m, h.Ns L m ∧ ∀ x v, l.lookup x = some v → m x = some v
def LookAll (l : List (Str × Value)) : List (Str × Value) → Prop
  | [] => True
  | p :: r => l.lookup p.1 = some p.2 ∧ LookAll l r
theorem lookAll_at {l : List (Str × Value)} : ∀ {l' : List (Str × Value)}, LookAll l l' → ∀ x v, l'.lookup x = some v → l.lookup x = some v
  | [], _, _, _, e => by cases e
  | (k, u) :: r, W, x, v, e => by
    rw [List.lookup_cons] at e
    cases q : x == k with
    | true => rw [q] at e; cases e; rw [beq_iff_eq.mp q]; exact W.1
    | false => rw [q] at e; exact lookAll_at W.2 x v e
theorem Loc.weak {h : Heap} {L : Addr} {l l' : List (Str × Value)} (x : Loc h L l) (W : LookAll l l') : Loc h L l' :=
  let ⟨m, hn, hl⟩ := x; ⟨m, hn, fun y v e => hl y v (lookAll_at W y v e)⟩
theorem Loc.grow {h h' : Heap} {L : Addr} {l : List (Str × Value)} (x : Loc h L l) (k : Grow h h') : Loc h' L l := let ⟨m, hn, hl⟩ := x; ⟨m, hn.keeps k, hl⟩
theorem Loc.ext {h h' : Heap} {L b : Addr} {l : List (Str × Value)} (x : Loc h L l) (k : Heap.ExtBut b h h') (hb : L ≠ b) : Loc h' L l := let ⟨m, hn, hl⟩ := x; ⟨m, hn.extBut k hb, hl⟩
theorem Loc.slots {h h' : Heap} {L : Addr} {l : List (Str × Value)} (x : Loc h L l) (k : h.UpToSlots h') : Loc h' L l := let ⟨m, hn, hl⟩ := x; ⟨m, k.ns hn, hl⟩

/-! ## names -/
section
variable {w : World} {A : Around} {E : Value → Shared → Prop} {h : Heap} {g : Array GenState} {d : Drawn} {t : Nat} {os : OsState} {name : Str} {scope : Scope} {L fa : Addr} {cd : Value} {l : List (Str × Value)} {x : Str} {v : Value} {Q : Value → Shared → Prop} {pos : Pos}

theorem load_loc {M : Model} (F : Loc h L l) (hv : l.lookup x = some v) (hQ : Q v ⟨h, g, d, t, os⟩)
    (hk : scope.kind = .function := by rfl) (hl : (envOf name scope L fa cd).kindOf x = some .local := by rfl) :
    wpAny M A (loadName (envOf name scope L fa cd) x) Q E ⟨h, g, d, t, os⟩ := by
  obtain ⟨m, hn, hm⟩ := F
  exact wpAny_loadName_local hk hl hn (hm _ _ hv) hQ
theorem ev_loc {M : Model} (F : Loc h L l) (hv : l.lookup x = some v) (hQ : Q v ⟨h, g, d, t, os⟩)
    (hk : scope.kind = .function := by rfl) (hl : (envOf name scope L fa cd).kindOf x = some .local := by rfl) (hd : (x == ("__debug__" : Str)) = false := by decide) :
    wpAny M A (eval (.Name x pos) (envOf name scope L fa cd)) Q E ⟨h, g, d, t, os⟩ := wpAny_Name (load_loc F hv hQ hk hl) hd
theorem st_loc {M : Model} {Q : Unit → Shared → Prop} (F : Loc h L l)
    (hQ : ∀ h' tk', Loc h' L ((x, v) :: l) → Heap.SameBut L h h' → Q () ⟨h', g, d, tk', os⟩)
    (hk : scope.kind = .function := by rfl) (hl : (envOf name scope L fa cd).kindOf x = some .local := by rfl) :
    wpAny M A (storeName (envOf name scope L fa cd) x v) Q E ⟨h, g, d, t, os⟩ := by
  obtain ⟨m, hn, hm⟩ := F
  refine wpAny_storeName_local hl hn (fun h' hn' hs => hQ h' (t + 1) ⟨_, hn', fun y u e => ?_⟩ hs) (by show (scope.kind == .class || (scope.kind == .module && L != mainGlobals)) = false; rw [hk]; rfl)
  rw [List.lookup_cons] at e
  by_cases q : y = x
  · subst q
    rw [beq_self_eq_true] at e
    cases e
    exact if_pos rfl
  · rw [beq_eq_false_iff_ne.mpr q] at e
    show (if y = x then _ else m y) = _
    rw [if_neg q]; exact hm _ _ e

end

/-! ## what stands at the top -/
structure Glo (w : World) (b : Heap) : Prop where
  K : (hd.heap_39 w.params).In b
  g : ∃ mg, b.Ns mainGlobals mg
  bi : ∃ mb, b.Ns builtinsNs mb ∧ ∀ x : Str, x ≠ "__name__" → mb x = bootBuiltins x
  lim : b.NoLimit
theorem Glo.grow {w : World} {h h' : Heap} (G : Glo w h) (k : Grow h h') : Glo w h' :=
  ⟨G.K.keeps k, let ⟨mg, n⟩ := G.g; ⟨mg, n.keeps k⟩, let ⟨mb, n, q⟩ := G.bi; ⟨mb, n.keeps k, q⟩, G.lim.keeps k⟩

section
variable {w : World} {A : Around} {E : Value → Shared → Prop} {h : Heap} {g : Array GenState} {d : Drawn} {t : Nat} {os : OsState} {name : Str} {scope : Scope} {L fa a : Addr} {cd : Value} {l : List (Str × Value)} {x : Str} {v : Value} {Q : Value → Shared → Prop} {pos p1 p2 : Pos}

theorem ev_glob {M : Model} (G : Glo w h) (hv : nsIn (hd.heap_39 w.params) mainGlobals x = some (some v)) (hQ : Q v ⟨h, g, d, t, os⟩)
    (hk : scope.kind = .function := by rfl) (hl : (envOf name scope L fa cd).kindOf x = some .globalImplicit := by rfl) (hd : (x == ("__debug__" : Str)) = false := by decide) :
    wpAny M A (eval (.Name x pos) (envOf name scope L fa cd)) Q E ⟨h, g, d, t, os⟩ := by
  obtain ⟨mg, hn⟩ := G.g
  exact Calls.Name_function_global hk hl (Calls.loadGlobal_global hn (mg_of G.K hn hv) hQ) hd
theorem ev_bi {M : Model} (G : Glo w h) (hg : nsIn (hd.heap_39 w.params) mainGlobals x = some none) (hv : bootBuiltins x = some v) (hQ : Q v ⟨h, g, d, t, os⟩) (hx : x ≠ "__name__" := by decide)
    (hk : scope.kind = .function := by rfl) (hl : (envOf name scope L fa cd).kindOf x = some .globalImplicit := by rfl) (hd : (x == ("__debug__" : Str)) = false := by decide) :
    wpAny M A (eval (.Name x pos) (envOf name scope L fa cd)) Q E ⟨h, g, d, t, os⟩ := by
  obtain ⟨mg, hn⟩ := G.g
  obtain ⟨mb, hb, hq⟩ := G.bi
  exact Calls.Name_function_global hk hl (Calls.loadGlobal_builtin hn (mg_none_of G.K hn hg) hb ((hq x hx).trans hv) hQ) hd

theorem instTag {h : Heap} {a dx : Addr} {c v o} (p : h.get? a = some (tagObj dx c v)) (q : h.get? dx = some o) : InstAt h a (tagObj dx c v) 173 (some o) := ⟨p, rfl, rfl, q⟩

theorem attr_code {c : Int} {tc : Tok} {v : Value} {e : Bool} (cA : Calm A) (G : Glo w h) (T : IsTag h a (.int c tc) v)
    (hQ : ∀ h' t', Grow h h' → Q (.int c tc) ⟨h', g, d, t', os⟩) : wpAny (model PG w) A (getAttr (.ref a) "code" e) Q E ⟨h, g, d, t, os⟩ := by
  obtain ⟨dx, o, p, q⟩ := T
  refine get_bind (g := .builtin "property.__get__") (a := .ref 119) G.K (instTag p q) (by kernel_rfl!) (by kernel_rfl!) (by kernel_rfl!) ?_
  refine cA.lift1 (endsGo (prop_code G.K p) fun h' t' k => ?_)
  rw [handedOut_of rfl]
  exact wpAny_pure (hQ h' t' k)
theorem attr_value {c : Value} {pv : PV} {tv : Tok} {e : Bool} (cA : Calm A) (G : Glo w h) (T : IsTag h a c (pv.val tv))
    (hQ : ∀ h' t', Grow h h' → Q (pv.val tv) ⟨h', g, d, t', os⟩) : wpAny (model PG w) A (getAttr (.ref a) "value" e) Q E ⟨h, g, d, t, os⟩ := by
  obtain ⟨dx, o, p, q⟩ := T
  refine get_bind (g := .builtin "property.__get__") (a := .ref 127) G.K (instTag p q) (by kernel_rfl!) (by kernel_rfl!) (by kernel_rfl!) ?_
  cases pv with
  | s x =>
    refine cA.lift1 (endsGo (prop_value_s G.K p) fun h' t' k => ?_)
    show wpAny _ _ (handedOut (.str x tv)) _ _ _
    rw [handedOut_of rfl]
    exact wpAny_pure (hQ h' t' k)
  | n x =>
    refine cA.lift1 (endsGo (prop_value_n G.K p) fun h' t' k => ?_)
    show wpAny _ _ (handedOut (.int x tv)) _ _ _
    rw [handedOut_of rfl]
    exact wpAny_pure (hQ h' t' k)
theorem ev_int {M : Model} {env : Env} {i : Int} {kk : Nat} (hQ : Q (.int i t) ⟨h, g, d, t + 1, os⟩) : wpAny M A (eval (.Constant (.int i) kk pos) env) Q E ⟨h, g, d, t, os⟩ := wpAny_Constant_int hQ
theorem ev_str {M : Model} {env : Env} {y : Str} {kk : Nat} (hQ : Q (.str y t) ⟨h, g, d, t + 1, os⟩) : wpAny M A (eval (.Constant (.str y) kk pos) env) Q E ⟨h, g, d, t, os⟩ := wpAny_Constant_str hQ
theorem ev_bool {M : Model} {env : Env} {y : Bool} {kk : Nat} (hQ : Q (.bool y) ⟨h, g, d, t, os⟩) : wpAny M A (eval (.Constant (.bool y) kk pos) env) Q E ⟨h, g, d, t, os⟩ := wpAny_Constant_bool hQ
theorem iaddI {i j : Int} {ti tj : Tok} (hQ : Q (.int (i + j) t) ⟨h, g, d, t + 1, os⟩) : wpAny (model PG w) A (inplaceOp .Add (.int i ti) (.int j tj)) Q E ⟨h, g, d, t, os⟩ := iadd_int hQ
theorem isubI {i j : Int} {ti tj : Tok} (hQ : Q (.int (i - j) t) ⟨h, g, d, t + 1, os⟩) : wpAny (model PG w) A (inplaceOp .Sub (.int i ti) (.int j tj)) Q E ⟨h, g, d, t, os⟩ := isub_int hQ
end
end Mine
namespace Mine
def bodyOf : Stmt → List Stmt
  | .FunctionDef _ _ b _ _ _ _ _ _ _ => b
  | .For _ _ b _ _ => b
  | _ => []
def scopeOf : Stmt → Scope
  | .FunctionDef _ _ _ _ _ _ s _ _ _ => s
  | _ => default
def topStmt (k : Nat) : Stmt := PG.main.body.getD k default
/-- entity_structure_validator -/
abbrev esvDef : Stmt := topStmt 17
abbrev esvEnv (L : Addr) : Env := envOf "entity_structure_validator" (scopeOf esvDef) L 198 (.ref 197)
abbrev esvLoop : List Stmt := bodyOf ((bodyOf esvDef).getD 9 default)


/-! ## heaps that keep all but a few -/
def Ext (W : List Addr) (h h' : Heap) : Prop := ∀ b o, b ∉ W → h.get? b = some o → h'.get? b = some o
theorem Ext.refl (W : List Addr) (h : Heap) : Ext W h h := fun _ _ _ e => e
theorem Ext.trans {W : List Addr} {a b c : Heap} (x : Ext W a b) (y : Ext W b c) : Ext W a c := fun n o q e => y n o q (x n o q e)
theorem Ext.mono {W V : List Addr} {a b : Heap} (x : Ext W a b) (s : ∀ n ∈ W, n ∈ V) : Ext V a b := fun n o q e => x n o (fun m => q (s n m)) e
theorem Grow.ext {W : List Addr} {a b : Heap} (x : Grow a b) : Ext W a b := fun n o _ e => x n o e
theorem extOf {L : Addr} {a b : Heap} (x : Heap.SameBut L a b) : Ext [L] a b := fun n _ q e => (x.2 n fun m => q (m ▸ List.mem_singleton.mpr rfl)).trans e
theorem Ext.to {L : Addr} {a b : Heap} (x : Ext [L] a b) : Heap.ExtBut L a b := fun n o q e => x n o (fun m => q (List.mem_singleton.mp m)) e
theorem Ext.keepBase {W : List Addr} {b h h' : Heap} (k : Ext W h h') (hb : ∀ x ∈ W, b.get? x = none) (B : Grow b h) : Grow b h' := fun n o e => k n o (fun m => by rw [hb n m] at e; cases e) (B n o e)
def TagIn (W : List Addr) (h : Heap) (a : Addr) (c v : Value) : Prop := ∃ dx o, h.get? a = some (tagObj dx c v) ∧ h.get? dx = some o ∧ a ∉ W ∧ dx ∉ W
theorem TagIn.ext {W V : List Addr} {h h' : Heap} {a c v} (x : TagIn W h a c v) (k : Ext V h h') (s : ∀ n ∈ V, n ∈ W) : TagIn W h' a c v :=
  let ⟨dx, o, p, q, r1, r2⟩ := x; ⟨dx, o, k _ _ (fun m => r1 (s _ m)) p, k _ _ (fun m => r2 (s _ m)) q, r1, r2⟩
theorem TagIn.grow {W : List Addr} {h h' : Heap} {a c v} (x : TagIn W h a c v) (k : Grow h h') : TagIn W h' a c v := x.ext (V := []) k.ext (fun _ m => nomatch m)
theorem TagIn.tag {W : List Addr} {h : Heap} {a c v} (x : TagIn W h a c v) : IsTag h a c v := let ⟨dx, o, p, q, _, _⟩ := x; ⟨dx, o, p, q⟩
theorem isList_ext {V : List Addr} {h h' : Heap} {a : Addr} {items} (x : h.IsList a items) (k : Ext V h h') (hn : a ∉ V) : h'.IsList a items := let ⟨o, ho, r⟩ := x; ⟨o, k _ _ hn ho, r⟩

structure GC (w : World) (b : Heap) (W : List Addr) (L a lst : Addr) (c : Int) (pv : PV) (dx : Str) (l : List (Str × Value)) (h : Heap) : Prop where
  G : Glo w b
  hb : ∀ x ∈ W, b.get? x = none
  B : Grow b h
  F : Loc h L l
  T : ∃ tc tv, TagIn W h a (.int c tc) (pv.val tv)
  Ls : lst ∉ W ∧ ∃ items a0 c0 t0, h.IsList lst items ∧ items[0]? = some (.ref a0) ∧ TagIn W h a0 c0 (.str dx t0)
  LW : L ∈ W
section
variable {w : World} {b h h' : Heap} {W : List Addr} {L a lst : Addr} {c : Int} {pv : PV} {dx : Str} {l l' : List (Str × Value)}
theorem GC.glo (x : GC w b W L a lst c pv dx l h) : Glo w h := x.G.grow x.B
theorem GC.grow (x : GC w b W L a lst c pv dx l h) (k : Grow h h') : GC w b W L a lst c pv dx l h' where
  G := x.G
  hb := x.hb
  B := x.B.trans k
  F := x.F.grow k
  T := let ⟨tc, tv, T⟩ := x.T; ⟨tc, tv, T.grow k⟩
  Ls := let ⟨n, items, a0, c0, t0, p, q, r⟩ := x.Ls; ⟨n, items, a0, c0, t0, isList_ext p (V := []) k.ext (fun m => nomatch m), q, r.grow k⟩
  LW := x.LW
theorem GC.set (x : GC w b W L a lst c pv dx l h) (F' : Loc h' L l') (k : Heap.SameBut L h h') : GC w b W L a lst c pv dx l' h' :=
  have s : ∀ n ∈ [L], n ∈ W := fun n m => List.mem_singleton.mp m ▸ x.LW
  have e := extOf k
  { G := x.G
    hb := x.hb
    B := e.keepBase (fun n m => x.hb n (s n m)) x.B
    F := F'
    T := let ⟨tc, tv, T⟩ := x.T; ⟨tc, tv, T.ext e s⟩
    Ls := let ⟨n, items, a0, c0, t0, p, q, r⟩ := x.Ls; ⟨n, items, a0, c0, t0, isList_ext p e (fun m => n (s _ m)), q, r.ext e s⟩
    LW := x.LW }
theorem GC.weak (x : GC w b W L a lst c pv dx l h) (V : LookAll l l') : GC w b W L a lst c pv dx l' h := { x with F := x.F.weak V }
end
section
variable {w : World} {A : Around} {E : Value → Shared → Prop} {b h : Heap} {W : List Addr} {g : Array GenState} {d : Drawn} {t : Nat} {os : OsState} {L a lst : Addr} {c : Int} {pv : PV} {dx : Str} {l : List (Str × Value)} {name : Str} {scope : Scope} {fa : Addr} {cd : Value}

theorem ev_code {Q : Value → Shared → Prop} {x : Str} {p1 p2 : Pos} (cA : Calm A) (S : GC w b W L a lst c pv dx l h) (hx : l.lookup x = some (.ref a)) (hQ : ∀ h' t' tc, Grow h h' → Q (.int c tc) ⟨h', g, d, t', os⟩)
    (hk : scope.kind = .function := by rfl) (hl : (envOf name scope L fa cd).kindOf x = some .local := by rfl) (hd : (x == ("__debug__" : Str)) = false := by decide) :
    wpAny (model PG w) A (eval (.Attribute (.Name x p1) "code" p2) (envOf name scope L fa cd)) Q E ⟨h, g, d, t, os⟩ := by
  obtain ⟨tc, tv, T⟩ := S.T
  exact Attribute_name (ev_loc S.F hx (attr_code cA S.glo T.tag fun h' t' k => hQ h' t' tc k) hk hl hd)
theorem ev_value {Q : Value → Shared → Prop} {x : Str} {p1 p2 : Pos} (cA : Calm A) (S : GC w b W L a lst c pv dx l h) (hx : l.lookup x = some (.ref a)) (hQ : ∀ h' t' tv, Grow h h' → Q (pv.val tv) ⟨h', g, d, t', os⟩)
    (hk : scope.kind = .function := by rfl) (hl : (envOf name scope L fa cd).kindOf x = some .local := by rfl) (hd : (x == ("__debug__" : Str)) = false := by decide) :
    wpAny (model PG w) A (eval (.Attribute (.Name x p1) "value" p2) (envOf name scope L fa cd)) Q E ⟨h, g, d, t, os⟩ := by
  obtain ⟨tc, tv, T⟩ := S.T
  exact Attribute_name (ev_loc S.F hx (attr_value cA S.glo T.tag fun h' t' k => hQ h' t' tv k) hk hl hd)
end
end Mine
namespace Mine

/-! ## a text put together -/
def PartOk (w : World) (A : Around) (env : Env) (h : Heap) (n : Nat) (e : Expr) : Prop :=
  ∀ (Q : Value → Shared → Prop) (E : Value → Shared → Prop) g d t os, (∀ y ty t', y.length ≤ n → Q (.str y ty) ⟨h, g, d, t', os⟩) → wpAny (model PG w) A (eval e env) Q E ⟨h, g, d, t, os⟩

section
variable {w : World} {A : Around} {env : Env} {h : Heap} {n : Nat}
theorem part_const {x : Str} {k : Nat} {pos : Pos} (hx : x.length ≤ n) : PartOk w A env h n (.Constant (.str x) k pos) :=
  fun _ _ _ _ _ _ hQ => wpAny_Constant_str (hQ _ _ _ hx)
theorem part_loc {name : Str} {scope : Scope} {L fa : Addr} {cd : Value} {l : List (Str × Value)} {x y : Str} {ty : Tok} {p1 p2 : Pos} (F : Loc h L l) (hv : l.lookup x = some (.str y ty)) (hy : y.length ≤ n) (hz : n ≤ sizeLine)
    (hk : scope.kind = .function := by rfl) (hl : (envOf name scope L fa cd).kindOf x = some .local := by rfl) (hd : (x == ("__debug__" : Str)) = false := by decide) :
    PartOk w A (envOf name scope L fa cd) h n (.FormattedValue (.Name x p1) (-1) none p2) :=
  fun _ _ _ _ _ _ hQ => wpAny_FormattedValue_plain (ev_loc F hv (wpAny_formatField_str (hQ _ _ _ hy) (hQ _ _ _ hy) (Nat.le_trans hy hz)) hk hl hd)
theorem joins_ok {E : Value → Shared → Prop} {g : Array GenState} {d : Drawn} {os : OsState} : ∀ {es : List Expr} {acc : Str} {m : Nat} {t : Nat} {Q : Str → Shared → Prop}, (∀ e ∈ es, PartOk w A env h n e) → acc.length ≤ m → m + es.length * n ≤ sizeLine →
    (∀ out t', out.length ≤ m + es.length * n → Q out ⟨h, g, d, t', os⟩) → Joins (model PG w) A E (evalEach es env) acc Q ⟨h, g, d, t, os⟩
  | [], acc, m, t, Q, _, hm, _, hQ => hQ acc t (by simpa using hm)
  | e :: es, acc, m, t, Q, hp, hm, hz, hQ => by
    have e1 : (e :: es).length * n = es.length * n + n := by rw [List.length_cons, Nat.add_mul, Nat.one_mul]
    rw [e1] at hz hQ
    show wpAny _ _ (eval e env) _ _ _
    refine hp e (.head _) _ _ _ _ _ _ fun y ty t' hy => ⟨y, ty, rfl, ?_, ?_⟩
    · rw [strLen_append]; omega
    · refine joins_ok (m := m + n) (fun x hx => hp x (.tail _ hx)) (by rw [strLen_append]; omega) (by omega) fun out t' ho => hQ out t' (by omega)
theorem part_join {v₁ v₂ : Expr} {rest : List Expr} {pos : Pos} {k : Nat} (hp : ∀ e ∈ v₁ :: v₂ :: rest, PartOk w A env h n e) (hz : 0 + (v₁ :: v₂ :: rest).length * n ≤ k) (hk : k ≤ sizeLine) : PartOk w A env h k (.JoinedStr (v₁ :: v₂ :: rest) pos) := by
  intro Q E g d t os hQ
  refine wpAny_JoinedStr (joins_ok (m := 0) hp (by decide) (by omega) fun out t' ho => ⟨by omega, hQ _ _ _ (by omega)⟩)
end

/-! ## the four classes of exceptions -/
structure Cls (w : World) (C : Addr) : Prop where
  go : ∀ {A : Around} {E : Value → Shared → Prop} {h : Heap} {g : Array GenState} {d : Drawn} {t : Nat} {os : OsState} {env : Env} {x : Str} {np cpos pos : Pos} {arg : Expr} {n : Nat} {Q : Flow → Shared → Prop},
    Calm A → Glo w h → (∀ (Q : Value → Shared → Prop) E, Q (.ref C) ⟨h, g, d, t, os⟩ → wpAny (model PG w) A (eval (.Name x np) env) Q E ⟨h, g, d, t, os⟩) → PartOk w A env h n arg → isStarred arg = false →
    (∀ h' e t' args, Heap.MadeExcOf h h' e (.ref C) args → E (.ref e) ⟨h', g, d, t', os⟩) →
    wpAny (model PG w) A (exec (.Raise (some (.Call (.Name x np) [arg] [] cpos)) none pos) env) Q E ⟨h, g, d, t, os⟩

theorem starEach_one {e : Expr} {env : Env} (hs : isStarred e = false) : starEach [e] env = [(false, eval e env)] := by
  cases e <;> first | rfl | cases hs

theorem cls_of {w : World} {nm q : Str} {C N : Addr} {bs bm bmB : List Value} {hdct : Bool} {sn : List Str} {sub : List Value} {ab : Bool} {col : Option Bool} {dd : Option Addr} {k0 k1 k2 k3 k5 : Option Value} {B Bn newId nid initId inN : String} {bmN : List Value}
    (Fn : ExcBaseFacts Bn newId inN bmN) (hBn : bmB.contains (.type Bn) = true) (F : ExcBaseFacts B nid initId bmB)
    (hbase : bm.contains (.type "BaseException") = true)
    (hC : (hd.heap_39 w.params).lookup C = some (excClassObj nm q C N bs bm hdct sn sub ab col dd k0 k1 k2 k3 k5 newId))
    (hN : ∀ h, (hd.heap_39 w.params).In h → ∃ mN, h.Ns N mN ∧ mN "__init__" = none) (hT : ∀ h, (hd.heap_39 w.params).In h → OwnTail h bmB bm) : Cls w C := by
  constructor
  intro A E h g d t os env x np cpos pos arg n Q cA G hx hp hs hE
  obtain ⟨mN, hn, hni⟩ := hN h G.K
  refine wpAny_Raise_call_subU (nm := nm) (q := q) (C := C) (N := N) (bs := bs) (bm := bm) (bmB := bmB) (hdct := hdct) (sn := sn) (sub := sub) (ab := ab) (col := col) (dd := dd) (k0 := k0) (k1 := k1) (k2 := k2) (k3 := k3) (k5 := k5) Fn hBn F (mN := mN) hbase cA.handled ?_ hni ?_
  · rw [starEach_one hs]; rfl
  · refine hx _ _ ⟨rfl, ?_⟩
    rw [starEach_one hs]
    refine Calls.evalArgs_plain (Calls.spliced_cons ?_)
    show wpAny _ _ (eval arg env) _ _ _
    refine hp _ _ _ _ _ _ fun y ty t' hy => ?_
    exact (Calls.spliced_nil ⟨rfl, by show 1 ≤ sizeLine; decide, G.K _ _ hC, hn, hT h G.K, fun h' e hm => hE _ _ _ _ hm⟩)

theorem ns_none {w : World} {N : Addr} {o : Obj} {es : Array DictEntry} {ep : Nat} {h : Heap} (X : (hd.heap_39 w.params).In h) (ho : (hd.heap_39 w.params).lookup N = some o) (hd : o.data = .dict es ep)
    (hk : (es.toList.all fun e => match e.key with | .str .. => true | _ => false) = true) {x : Str} (hx : nsFind es x = none) : ∃ mN, h.Ns N mN ∧ mN x = none := by
  refine ⟨nsFind es, ⟨o, es, ep, X _ _ ho, hd, fun e he => ?_, fun _ => rfl⟩, hx⟩
  have := List.all_eq_true.mp hk e (by simpa using he)
  cases q : e.key <;> rw [q] at this <;> first | exact ⟨_, _, rfl⟩ | cases this
theorem tail_own {w : World} {C : Addr} {c0 : Value} {dd : Option Addr} {cd : ClassData} {sl : Array (Option Value)} {bmB tl : List Value} {o : Obj} {es : Array DictEntry} {ep : Nat} {h : Heap} (X : (hd.heap_39 w.params).In h)
    (hC : (hd.heap_39 w.params).lookup C = some { cls := c0, dict := dd, data := .cls cd, slots := sl }) (hN : (hd.heap_39 w.params).lookup cd.ns = some o) (hd : o.data = .dict es ep)
    (hk : (es.toList.all fun e => match e.key with | .str .. => true | _ => false) = true) (hx : nsFind es "__init__" = none) (T : OwnTail h bmB tl) : OwnTail h bmB (.ref C :: tl) := by
  obtain ⟨mN, hn, hni⟩ := ns_none X hN hd hk hx
  exact .own (X _ _ hC) hn hni T
abbrev excMro : List Value := [.type "Exception", .type "BaseException", .type "object"]
theorem tail31 {w : World} {h : Heap} {bmB : List Value} (X : (hd.heap_39 w.params).In h) {tl : List Value} (T : OwnTail h bmB tl) : OwnTail h bmB (.ref 31 :: tl) := tail_own X rfl rfl rfl (by kernel_rfl!) (by kernel_rfl!) T
theorem tail44 {w : World} {h : Heap} {bmB : List Value} (X : (hd.heap_39 w.params).In h) {tl : List Value} (T : OwnTail h bmB tl) : OwnTail h bmB (.ref 44 :: tl) := tail_own X rfl rfl rfl (by kernel_rfl!) (by kernel_rfl!) T
theorem cls56 (w : World) : Cls w 56 := cls_of (bm := .ref 44 :: .ref 31 :: excMro) F.excBase_Exception (by decide) F.excBase_Exception (by decide) rfl (fun _ X => ns_none X rfl rfl (by kernel_rfl!) (by kernel_rfl!)) fun _ X => tail44 X (tail31 X .base)
theorem cls68 (w : World) : Cls w 68 := cls_of (bm := .ref 44 :: .ref 31 :: excMro) F.excBase_Exception (by decide) F.excBase_Exception (by decide) rfl (fun _ X => ns_none X rfl rfl (by kernel_rfl!) (by kernel_rfl!)) fun _ X => tail44 X (tail31 X .base)
theorem cls44 (w : World) : Cls w 44 := cls_of (bm := .ref 31 :: excMro) F.excBase_Exception (by decide) F.excBase_Exception (by decide) rfl (fun _ X => ns_none X rfl rfl (by kernel_rfl!) (by kernel_rfl!)) fun _ X => tail31 X .base
theorem cls80 (w : World) : Cls w 80 := cls_of (bm := .ref 31 :: .type "ValueError" :: excMro) F.excBase_Exception (by decide) F.excBase_ValueError (by decide) rfl (fun _ X => ns_none X rfl rfl (by kernel_rfl!) (by kernel_rfl!)) fun _ X => tail31 X .base
end Mine
namespace Mine

structure GS where
  free : Bool
  fin : Option Str
  data : Bool
  level : Nat
  emb : Bool
def isEmb (c : Int) (pv : PV) : Bool := c == 101 && (match pv with | .s x => x == ("Embedded Object" : Str) | .n _ => false)
structure KindOk (c : Int) (pv : PV) : Prop where
  n5 : c ≠ 5
  k101 : c = 101 → pv = .s "Embedded Object" ∨ pv = .s "other"
  k102 : c = 102 → ∃ x, pv = .s x ∧ x.length ≤ 20
  k1002 : c = 1002 → ∃ x, pv = .s x ∧ x.length ≤ 20
def gl (lst a : Addr) (dx : Str) (st : GS) (k : Tok × Tok × Tok × Tok) : List (Str × Value) :=
  [("tags", .ref lst), ("dxftype", .str dx k.1), ("is_xrecord", .bool st.free), ("handle", .str "???" k.2.1), ("app_data", .bool st.fin.isSome), ("xdata", .bool st.data),
   ("xdata_list_level", .int st.level k.2.2.1), ("app_data_closing_tag", .str (st.fin.getD "}") k.2.2.2), ("embedded_object", .bool st.emb), ("tag", .ref a)]

abbrev GX (w : World) (b : Heap) (W : List Addr) (L a lst : Addr) (c : Int) (pv : PV) (dx : Str) (st : GS) (h : Heap) : Prop := ∃ k, GC w b W L a lst c pv dx (gl lst a dx st k) h
theorem mkGX {w : World} {b : Heap} {W : List Addr} {L a lst : Addr} {c : Int} {pv : PV} {dx : Str} {st : GS} {h : Heap} {l : List (Str × Value)} {u1 u2 u3 u4 : Tok} (S : GC w b W L a lst c pv dx l h)
    (e0 : l.lookup ("tags" : Str) = some (Value.ref lst)) (e1 : l.lookup ("dxftype" : Str) = some (Value.str dx u1)) (e2 : l.lookup ("is_xrecord" : Str) = some (Value.bool st.free)) (e3 : l.lookup ("handle" : Str) = some (Value.str "???" u2))
    (e4 : l.lookup ("app_data" : Str) = some (Value.bool st.fin.isSome)) (e5 : l.lookup ("xdata" : Str) = some (Value.bool st.data)) (e6 : l.lookup ("xdata_list_level" : Str) = some (Value.int st.level u3))
    (e7 : l.lookup ("app_data_closing_tag" : Str) = some (Value.str (st.fin.getD "}") u4)) (e8 : l.lookup ("embedded_object" : Str) = some (Value.bool st.emb)) (e9 : l.lookup ("tag" : Str) = some (Value.ref a)) : GX w b W L a lst c pv dx st h :=
  ⟨(u1, u2, u3, u4), S.weak ⟨e0, e1, e2, e3, e4, e5, e6, e7, e8, e9, trivial⟩⟩
theorem fn_obj (w : World) : ∃ o fd, (hd.heap_39 w.params).lookup 184 = some o ∧ o.data = .func fd := ⟨_, _, rfl, rfl⟩
section
variable {w : World} {A : Around} {E : Value → Shared → Prop} {b h : Heap} {W : List Addr} {g : Array GenState} {d : Drawn} {t : Nat} {os : OsState} {L a lst : Addr} {c : Int} {pv : PV} {dx : Str} {st : GS} {k : Tok × Tok × Tok × Tok}

theorem call_emb {Q : Value → Shared → Prop} (cA : Calm A) {W : List Addr} {l} (S : GC w b W L a lst c pv dx l h) (K : KindOk c pv) (hQ : ∀ h' t', Grow h h' → Q (.bool (isEmb c pv)) ⟨h', g, d, t', os⟩) :
    wpAny (model PG w) A (call (.ref 184) [.ref a]) Q E ⟨h, g, d, t, os⟩ := by
  obtain ⟨tc, tv, e, o, p, q, _, _⟩ := S.T
  by_cases hc : c = 101
  · subst hc
    rcases K.k101 rfl with rfl | rfl
    · exact cA.lift (endsGo (emb_yes S.glo.K p) fun h' t' k => hQ h' t' k)
    · exact cA.lift (endsGo (emb_other S.glo.K p) fun h' t' k => hQ h' t' k)
  · have : isEmb c pv = false := by unfold isEmb; rw [beq_eq_false_iff_ne.mpr hc]; rfl
    rw [this] at hQ
    exact cA.lift (endsGo (emb_no S.glo.K p hc) fun h' t' k => hQ h' t' k)

theorem esv_s0 {Q : Flow → Shared → Prop} (cA : Calm A) (S : GX w b W L a lst c pv dx st h) (K : KindOk c pv)
    (hQ : ∀ h' t', Ext [L] h h' → GX w b W L a lst c pv dx st h' → Q .next ⟨h', g, d, t', os⟩) : wpAny (model PG w) A (exec (esvLoop.getD 0 default) (esvEnv L)) Q E ⟨h, g, d, t, os⟩ := by
  obtain ⟨k, S⟩ := S
  show wpAny _ _ (exec (.If (.BoolOp .And [.Compare (.Attribute (.Name _ _) _ _) [.Eq] [.Constant _ _ _] _, _] _) _ [] _) _) _ _ _
  refine wpAny_If (wpAny_isTrue_BoolOp (wpAny_allTrue_And_cons (wpAny_isTrue_Compare1 (ev_code cA S rfl fun h1 t1 tc k1 => ev_int (eq_int (wpAny_truthy_bool ?_))))))
  rw [show (c == 5) = false from beq_eq_false_iff_ne.mpr K.n5]
  exact wpAny_execs_nil (hQ _ _ k1.ext ⟨k, S.grow k1⟩)

theorem esv_s1 {Q : Flow → Shared → Prop} (cA : Calm A) (S : GX w b W L a lst c pv dx st h) (K : KindOk c pv)
    (hQ : ∀ h' t', Ext [L] h h' → GX w b W L a lst c pv dx { st with emb := st.emb || isEmb c pv } h' → Q .next ⟨h', g, d, t', os⟩) :
    wpAny (model PG w) A (exec (esvLoop.getD 1 default) (esvEnv L)) Q E ⟨h, g, d, t, os⟩ := by
  show wpAny _ _ (exec (.If (.Call (.Name _ _) [.Name _ _] [] _) [.Assign [.Name _ _] (.Constant _ _ _) _] [] _) _) _ _ _
  obtain ⟨k, S⟩ := S
  obtain ⟨o, fd, ho, hd⟩ := fn_obj w
  refine wpAny_If (wpAny_isTrue_value (wpAny_Call_ofName (ev_glob S.glo (v := .ref 184) (by kernel_rfl!) (Calls.callWith_function (o := o) (fd := fd) (Calls.evalArgs_plain (Calls.spliced_cons (ev_loc S.F rfl (Calls.spliced_nil
    ⟨⟨S.glo.K _ _ ho, hd⟩, call_emb cA S K fun h1 t1 k1 => wpAny_truthy_bool ?_⟩))))))))
  have S1 := S.grow k1
  cases he : isEmb c pv with
  | false =>
    rw [he, Bool.or_false] at hQ
    exact wpAny_execs_nil (hQ _ _ k1.ext ⟨k, S1⟩)
  | true =>
    refine wpAny_execs_cons (wpAny_Assign_Name (ev_bool (st_loc S1.F fun h2 t2 F2 s2 => wpAny_execs_nil (hQ _ _ (k1.ext.trans (extOf s2)) ⟨k, (S1.set F2 s2).weak ?_⟩))))
    rw [he, Bool.or_true]
    exact ⟨rfl, rfl, rfl, rfl, rfl, rfl, rfl, rfl, rfl, rfl, trivial⟩
end
end Mine
namespace Mine
def dStep (st : GS) (c : Int) (pv : PV) : Option GS :=
  if st.data = true then
    if c < 1000 then none
    else if c = 1002 then
      match pv with
      | .s x => if x = "{" then some { st with level := st.level + 1 } else if x = "}" then (match st.level with | 0 => none | n + 1 => some { st with level := n }) else none
      | .n _ => none
    else some st
  else some st
theorem brace_ne : ¬ (Str.ofString "}" = Str.ofString "{") := by decide +kernel
def cutText (x : Str) : Str := Txt.slice x (some 1) none ++ ("}" : Str)
def aStep (st : GS) (c : Int) (pv : PV) : Option GS :=
  if c = 102 ∧ st.free = false then
    match pv with
    | .s x => if Txt.startswith x "{" = true then (if st.fin.isSome = true then none else some { st with fin := some (cutText x) })
        else if x = "}" ∨ x = st.fin.getD "}" then (if st.fin.isSome = true then some { st with fin := none } else none) else none
    | .n _ => none
  else some st
def xStep (st : GS) (c : Int) : Option GS :=
  if c = 1001 ∧ st.data = false then (if st.fin.isSome = true then none else some { st with data := true }) else some st

theorem cut_len (x : Str) : (cutText x).length ≤ x.length + 1 := by
  unfold cutText
  rw [strLen_append]
  exact Nat.add_le_add (Txt.slice_le x _ _) (by decide)

/-- what holds where a raise leaves the block -/
def Hurt (L : Addr) (h : Heap) (g : Array GenState) (d : Drawn) (os : OsState) (C : Addr) (v : Value) (s' : Shared) : Prop :=
  ∃ h1 h' e t' args l', v = .ref e ∧ s' = ⟨h', g, d, t', os⟩ ∧ Ext [L] h h1 ∧ Loc h1 L l' ∧ Heap.MadeExcOf h1 h' e (.ref C) args

section
variable {w : World} {A : Around} {E : Value → Shared → Prop} {b h : Heap} {W : List Addr} {g : Array GenState} {d : Drawn} {t : Nat} {os : OsState} {L a lst : Addr} {c : Int} {pv : PV} {dx : Str} {st : GS}

theorem keptGrow (h : Heap) : KeptH (Grow h) := fun _ _ g b o e => Heap.get?_push_of_some _ (g b o e)

theorem esv_s3 {Q : Flow → Shared → Prop} (cA : Calm A) (S : GX w b W L a lst c pv dx st h) (K : KindOk c pv) (hd : dx.length ≤ 200) (he : st.emb = false)
    (hQ : ∀ st' h' t', dStep st c pv = some st' → Ext [L] h h' → GX w b W L a lst c pv dx st' h' → Q .next ⟨h', g, d, t', os⟩)
    (hE : dStep st c pv = none → ∀ v s', Hurt L h g d os 68 v s' → E v s') :
    wpAny (model PG w) A (exec (esvLoop.getD 3 default) (esvEnv L)) Q E ⟨h, g, d, t, os⟩ := by
  obtain ⟨k, S⟩ := S
  show wpAny _ _ (exec (.If (.BoolOp .And [.Name _ _, .UnaryOp .Not (.Name _ _) _] _) [.If (.Compare (.Attribute (.Name _ _) _ _) [.Lt] [.Constant _ _ _] _) [.Assign [.Name _ _] (.Attribute (.Subscript (.Name _ _) (.Constant _ _ _) _) _ _) _, .Raise (some (.Call (.Name _ _) [_] [] _)) none _] [] _,
    .If (.Compare (.Attribute (.Name _ _) _ _) [.Eq] [.Constant _ _ _] _) [.Assign [.Name _ _] (.Attribute (.Name _ _) _ _) _, .If (.Compare (.Name _ _) [.Eq] [.Constant _ _ _] _) [.AugAssign (.Name _ _) .Add (.Constant _ _ _) _] [.If (.Compare (.Name _ _) [.Eq] [.Constant _ _ _] _) [.AugAssign (.Name _ _) .Sub (.Constant _ _ _) _] [.Raise (some (.Call (.Name _ _) [_] [] _)) none _] _] _,
      .If (.Compare (.Name _ _) [.Lt] [.Constant _ _ _] _) [.Raise (some (.Call (.Name _ _) [_] [] _)) none _] [] _] [] _] [] _) _) _ _ _
  refine wpAny_If (wpAny_isTrue_BoolOp (wpAny_allTrue_And_cons (wpAny_isTrue_value (ev_loc S.F rfl (wpAny_truthy_bool ?_)))))
  cases hdt : st.data with
  | false => exact wpAny_execs_nil (hQ st _ _ (by simp [dStep, hdt]) (Ext.refl _ _) ⟨k, S⟩)
  | true =>
    refine wpAny_allTrue_And_cons (wpAny_isTrue_Not (wpAny_isTrue_value (ev_loc S.F rfl (wpAny_truthy_bool ?_))))
    rw [he]
    refine wpAny_allTrue_And_nil ?_
    -- the code below a thousand
    refine wpAny_execs_cons (wpAny_If (wpAny_isTrue_Compare1 (ev_code cA S rfl fun h1 t1 tc k1 => ev_int (lt_int (wpAny_truthy_bool ?_)))))
    have S1 := S.grow k1
    by_cases hlt : c < 1000
    · rw [decide_eq_true hlt]
      have hn : dStep st c pv = none := by simp [dStep, hdt, hlt]
      obtain ⟨hlw, items, a0, c0, t0, hil, hi0, T0⟩ := S1.Ls
      refine wpAny_execs_cons (wpAny_Assign_Name (Attribute_any_ (Subscript_Constant (ev_loc S1.F rfl (ev_int ⟨"list", "list.__getitem__", slot_list_getitem.lookup, hil.typeIs, wpAny_getItem_list (t := t1 + 1) hil (by decide) (by decide) hi0 (attr_value (pv := .s dx) cA S1.glo T0.tag fun h2 t2 k2 => ?_)⟩)))))
      have S2 := S1.grow k2
      refine st_loc S2.F fun h3 t3 F3 s3 => ?_
      have S3 := (S2.set F3 s3)
      refine wpAny_execs_cons ((cls68 w).go (n := 4000) cA S3.glo (fun Q E q => ev_glob S3.glo (by kernel_rfl!) q) ?_ rfl fun h' e t' args hm => hE hn _ _ ⟨h3, h', e, t', args, _, rfl, rfl, ((k1.trans k2).ext.trans (extOf s3)), F3, hm⟩)
      refine part_join (n := 300) ?_ (by decide) (by decide)
      refine List.forall_mem_cons.mpr ⟨part_const (by decide +kernel), List.forall_mem_cons.mpr ⟨part_loc F3 rfl (by omega) (by decide), List.forall_mem_cons.mpr ⟨part_const (by decide +kernel), List.forall_mem_cons.mpr ⟨part_loc F3 rfl (by decide +kernel) (by decide), List.forall_mem_cons.mpr ⟨part_const (by decide +kernel), List.forall_mem_nil _⟩⟩⟩⟩⟩
    · rw [decide_eq_false hlt]
      refine wpAny_execs_nil (wpAny_execs_cons (wpAny_If (wpAny_isTrue_Compare1 (ev_code cA S1 rfl fun h2 t2 tc2 k2 => ev_int (eq_int (wpAny_truthy_bool ?_))))))
      have S2 := S1.grow k2
      by_cases hc : c = 1002
      · subst hc
        obtain ⟨x, rfl, hx⟩ := K.k1002 rfl
        refine wpAny_execs_cons (wpAny_Assign_Name (ev_value cA S2 rfl fun h3 t3 tv k3 => ?_))
        have S3 := S2.grow k3
        refine st_loc S3.F fun h4 t4 F4 s4 => ?_
        have S4 := S3.set F4 s4
        have X4 : Ext [L] h h4 := ((k1.trans k2).trans k3).ext.trans (extOf s4)
        refine wpAny_execs_cons (wpAny_If (wpAny_isTrue_Compare1 (ev_loc (v := .str x tv) S4.F rfl (ev_str (eq_str (wpAny_truthy_bool ?_))))))
        by_cases x1 : x = "{"
        · rw [beq_iff_eq.mpr x1]
          refine wpAny_execs_cons (wpAny_AugAssign_Name (load_loc S4.F rfl (ev_int (iaddI (st_loc S4.F fun h5 t5 F5 s5 => wpAny_execs_nil ?_)))))
          have S5 := S4.set F5 s5
          refine wpAny_execs_cons (wpAny_If (wpAny_isTrue_Compare1 (ev_loc S5.F rfl (ev_int (lt_int (wpAny_truthy_bool ?_))))))
          rw [decide_eq_false (by omega)]
          refine wpAny_execs_nil (wpAny_execs_nil (wpAny_execs_nil (hQ { st with level := st.level + 1 } h5 _ (by simp [dStep, hdt, hlt, x1]) (X4.trans (extOf s5)) (mkGX S5 rfl rfl rfl rfl rfl rfl rfl rfl rfl rfl))))
        · rw [beq_eq_false_iff_ne.mpr x1]
          refine wpAny_execs_cons (wpAny_If (wpAny_isTrue_Compare1 (ev_loc (v := .str x tv) S4.F rfl (ev_str (eq_str (wpAny_truthy_bool ?_))))))
          by_cases x2 : x = "}"
          · rw [beq_iff_eq.mpr x2]
            refine wpAny_execs_cons (wpAny_AugAssign_Name (load_loc S4.F rfl (ev_int (isubI (st_loc S4.F fun h5 t5 F5 s5 => wpAny_execs_nil (wpAny_execs_nil ?_))))))
            have S5 := S4.set F5 s5
            refine wpAny_execs_cons (wpAny_If (wpAny_isTrue_Compare1 (ev_loc S5.F rfl (ev_int (lt_int (wpAny_truthy_bool ?_))))))
            cases hl : st.level with
            | zero =>
              rw [decide_eq_true (by omega)]
              have hn : dStep st 1002 (.s x) = none := by simp [dStep, hdt, x2, hl, brace_ne]
              refine wpAny_execs_cons ((cls68 w).go (n := 4000) cA S5.glo (fun Q E q => ev_glob S5.glo (by kernel_rfl!) q) ?_ rfl fun h' e t' args hm => hE hn _ _ ⟨h5, h', e, t', args, _, rfl, rfl, X4.trans (extOf s5), F5, hm⟩)
              refine part_join (n := 300) ?_ (by decide) (by decide)
              refine List.forall_mem_cons.mpr ⟨part_const (by decide +kernel), List.forall_mem_cons.mpr ⟨part_loc F5 rfl (by omega) (by decide), List.forall_mem_cons.mpr ⟨part_const (by decide +kernel), List.forall_mem_cons.mpr ⟨part_loc F5 rfl (by decide +kernel) (by decide), List.forall_mem_cons.mpr ⟨part_const (by decide +kernel), List.forall_mem_nil _⟩⟩⟩⟩⟩
            | succ n =>
              rw [decide_eq_false (by omega)]
              refine wpAny_execs_nil (wpAny_execs_nil (wpAny_execs_nil (hQ { st with level := n } h5 _ (by simp [dStep, hdt, x2, hl, brace_ne]) (X4.trans (extOf s5)) ?_)))
              exact mkGX S5 rfl rfl rfl rfl rfl rfl (congrArg (fun z => some (Value.int z _)) (show ((st.level : Int) - 1) = n by omega)) rfl rfl rfl
          · rw [beq_eq_false_iff_ne.mpr x2]
            have hn : dStep st 1002 (.s x) = none := by simp [dStep, hdt, x1, x2]
            refine wpAny_execs_cons ((cls68 w).go (n := 4000) cA S4.glo (fun Q E q => ev_glob S4.glo (by kernel_rfl!) q) ?_ rfl fun h' e t' args hm => hE hn _ _ ⟨h4, h', e, t', args, _, rfl, rfl, X4, F4, hm⟩)
            refine part_join (n := 300) ?_ (by decide) (by decide)
            refine List.forall_mem_cons.mpr ⟨part_const (by decide +kernel), List.forall_mem_cons.mpr ⟨part_loc (y := x) F4 rfl (by omega) (by decide), List.forall_mem_cons.mpr ⟨part_const (by decide +kernel), List.forall_mem_cons.mpr ⟨part_loc F4 rfl (by omega) (by decide), List.forall_mem_cons.mpr ⟨part_const (by decide +kernel), List.forall_mem_cons.mpr ⟨part_loc F4 rfl (by decide +kernel) (by decide), List.forall_mem_cons.mpr ⟨part_const (by decide +kernel), List.forall_mem_nil _⟩⟩⟩⟩⟩⟩⟩
      · rw [beq_eq_false_iff_ne.mpr hc]
        exact wpAny_execs_nil (wpAny_execs_nil (hQ st _ _ (by simp [dStep, hdt, hlt, hc]) (k1.trans k2).ext ⟨k, S2⟩))

end
end Mine
namespace Mine
theorem g_adm (w : World) : ∃ tk, nsIn (hd.heap_39 w.params) mainGlobals "APP_DATA_MARKER" = some (some (.int 102 tk)) := ⟨_, rfl⟩
theorem g_xdm (w : World) : ∃ tk, nsIn (hd.heap_39 w.params) mainGlobals "XDATA_MARKER" = some (some (.int 1001 tk)) := ⟨_, rfl⟩
theorem g_hvm (w : World) : ∃ tk, nsIn (hd.heap_39 w.params) mainGlobals "HEADER_VAR_MARKER" = some (some (.int 9 tk)) := ⟨_, rfl⟩
theorem sliceGrow {w : World} {A : Around} {E Q : Value → Shared → Prop} {h : Heap} {g : Array GenState} {d : Drawn} {t : Nat} {os : OsState} {x : Str} {tx ui : Tok} {i : Int} (hx : x.length ≤ sizeLine)
    (hQ : ∀ h' t' tk, Grow h h' → Q (.str (Txt.slice x (some i) none) tk) ⟨h', g, d, t', os⟩) :
    ItemOn (model PG w) A E (.str x tx) (.ref h.objs.size) Q ⟨h.push { cls := .type "slice", data := .fields #[.int i ui, .none, .none] }, g, d, t, os⟩ :=
  SBH.sliceItem_sn (s := ⟨h, g, d, t, os⟩) (P := Grow h) (keptGrow h) (Grow.refl h) (fun h' t' k p => hQ h' k t' p) hx
theorem aStep_close {st : GS} {x : Str} (hf : st.free = false) (hs : Txt.startswith x "{" = false) (hfin : st.fin.isSome = true) (hor : x = "}" ∨ x = st.fin.getD "}") : aStep st 102 (.s x) = some { st with fin := none } := by
  unfold aStep
  rw [if_pos ⟨rfl, hf⟩]
  show (if Txt.startswith x "{" = true then _ else _) = _
  rw [if_neg (by rw [hs]; decide), if_pos hor, if_pos hfin]
theorem partSome {M : Model} {A : Around} {E Q : Value → Shared → Prop} {s : Shared} {e : Expr} {env : Env} (h : wpAny M A (eval e env) Q E s) : wpAny M A (evalPart (some e) env) Q E s := by rw [evalPart_some]; exact h
theorem partNone {M : Model} {A : Around} {E Q : Value → Shared → Prop} {s : Shared} {env : Env} (h : Q .none s) : wpAny M A (evalPart none env) Q E s := by rw [evalPart_none]; exact wpAny_pure h
section
variable {w : World} {A : Around} {E : Value → Shared → Prop} {b h : Heap} {W : List Addr} {g : Array GenState} {d : Drawn} {t : Nat} {os : OsState} {L a lst : Addr} {c : Int} {pv : PV} {dx : Str} {st : GS}
theorem esv_s4 {Q : Flow → Shared → Prop} (cA : Calm A) (S : GX w b W L a lst c pv dx st h) (K : KindOk c pv) (hd : dx.length ≤ 200)
    (hQ : ∀ st' h' t', aStep st c pv = some st' → Ext [L] h h' → GX w b W L a lst c pv dx st' h' → Q .next ⟨h', g, d, t', os⟩)
    (hE : aStep st c pv = none → ∀ v s', Hurt L h g d os 56 v s' → E v s') :
    wpAny (model PG w) A (exec (esvLoop.getD 4 default) (esvEnv L)) Q E ⟨h, g, d, t, os⟩ := by
  obtain ⟨k, S⟩ := S
  obtain ⟨tkm, gm⟩ := g_adm w
  show wpAny _ _ (exec (.If (.BoolOp .And [.Compare (.Attribute (.Name _ _) _ _) [.Eq] [.Name _ _] _, .UnaryOp .Not (.Name _ _) _] _) [.Assign [.Name _ _] (.Attribute (.Name _ _) _ _) _,
    .If (.Call (.Attribute (.Name _ _) _ _) [.Constant _ _ _] [] _) [.If (.Name _ _) [.Raise (some (.Call (.Name _ _) [_] [] _)) none _] [] _, .Assign [.Name _ _] (.Constant _ _ _) _, .Assign [.Name _ _] (.BinOp (.Subscript (.Name _ _) (.Slice (some (.Constant _ _ _)) none none _) _) .Add (.Constant _ _ _) _) _]
      [.If (.BoolOp .Or [.Compare (.Name _ _) [.Eq] [.Constant _ _ _] _, .Compare (.Name _ _) [.Eq] [.Name _ _] _] _) [.If (.UnaryOp .Not (.Name _ _) _) [.Raise (some (.Call (.Name _ _) [_] [] _)) none _] [] _, .Assign [.Name _ _] (.Constant _ _ _) _, .Assign [.Name _ _] (.Constant _ _ _) _]
        [.Raise (some (.Call (.Name _ _) [_] [] _)) none _] _] _] [] _) _) _ _ _
  refine wpAny_If (wpAny_isTrue_BoolOp (wpAny_allTrue_And_cons (wpAny_isTrue_Compare1 (ev_code cA S rfl fun h1 t1 tc k1 => ?_))))
  have S1 := S.grow k1
  refine ev_glob S1.glo gm (eq_int (wpAny_truthy_bool ?_))
  by_cases hc : c = 102
  · subst hc
    obtain ⟨x, rfl, hx⟩ := K.k102 rfl
    refine wpAny_allTrue_And_cons (wpAny_isTrue_Not (wpAny_isTrue_value (ev_loc S1.F rfl (wpAny_truthy_bool ?_))))
    cases hf : st.free with
    | true => exact wpAny_execs_nil (hQ st _ _ (by simp [aStep, hf]) k1.ext ⟨k, S1⟩)
    | false =>
      refine wpAny_allTrue_And_nil (wpAny_execs_cons (wpAny_Assign_Name (ev_value cA S1 rfl fun h2 t2 tv k2 => ?_)))
      have S2 := S1.grow k2
      refine st_loc S2.F fun h3 t3 F3 s3 => ?_
      have S3 := S2.set F3 s3
      have X3 : Ext [L] h h3 := (k1.trans k2).ext.trans (extOf s3)
      refine wpAny_execs_cons (wpAny_If (wpAny_isTrue_value (Call_method1 rfl rfl rfl (ev_loc (v := .str x tv) S3.F rfl (SB.startswith (ev_str ⟨_, _, rfl, wpAny_truthy_bool ?_⟩))))))
      cases hs : Txt.startswith x "{" with
      | true =>
        refine wpAny_execs_cons (wpAny_If (wpAny_isTrue_value (ev_loc S3.F rfl (wpAny_truthy_bool ?_))))
        cases hfin : st.fin.isSome with
        | true =>
          have hn : aStep st 102 (.s x) = none := by simp [aStep, hf, hs, hfin]
          refine wpAny_execs_cons ((cls56 w).go (n := 4000) cA S3.glo (fun Q E q => ev_glob S3.glo (by kernel_rfl!) q) ?_ rfl fun h' e t' args hm => hE hn _ _ ⟨h3, h', e, t', args, _, rfl, rfl, X3, F3, hm⟩)
          refine part_join (n := 300) ?_ (by decide) (by decide)
          refine List.forall_mem_cons.mpr ⟨part_const (by decide +kernel), List.forall_mem_cons.mpr ⟨part_loc F3 rfl (by omega) (by decide), List.forall_mem_cons.mpr ⟨part_const (by decide +kernel), List.forall_mem_cons.mpr ⟨part_loc F3 rfl (by decide +kernel) (by decide), List.forall_mem_cons.mpr ⟨part_const (by decide +kernel), List.forall_mem_nil _⟩⟩⟩⟩⟩
        | false =>
          refine wpAny_execs_nil (wpAny_execs_cons (wpAny_Assign_Name (ev_bool (st_loc S3.F fun h4 t4 F4 s4 => ?_))))
          have S4 := S3.set F4 s4
          refine wpAny_execs_cons (wpAny_Assign_Name (wpAny_BinOp (Subscript_Slice (ev_loc (v := .str x tv) S4.F rfl (wpAny_Slice (partSome (ev_int (partNone (partNone (sliceGrow (by rw [sizeLine_eq]; omega) fun h5 t5 tk5 k5 => ev_str (add_str (fun t6 tk6 => ?_) ?_)))))))))))
          · have S5 := S4.grow k5
            refine st_loc S5.F fun h7 t7 F7 s7 => ?_
            have S7 := S5.set F7 s7
            refine wpAny_execs_nil (wpAny_execs_nil (hQ { st with fin := some (cutText x) } h7 _ (by simp [aStep, hf, hs, hfin]) (((X3.trans (extOf s4)).trans k5.ext).trans (extOf s7)) (mkGX S7 rfl rfl rfl rfl rfl rfl rfl rfl rfl rfl)))
          · have := Txt.slice_le x (some 1) none
            rw [sizeLine_eq]
            have e2 : (Str.ofString "}").length = 1 := by decide +kernel
            omega
      | false =>
        refine wpAny_execs_cons (wpAny_If (wpAny_isTrue_BoolOp ?_))
        refine wpAny_allTrue_Or_cons (wpAny_isTrue_Compare1 (ev_loc (v := .str x tv) S3.F rfl (ev_str (eq_str (wpAny_truthy_bool ?_)))))
        by_cases x1 : x = "}"
        · rw [beq_iff_eq.mpr x1]
          refine wpAny_execs_cons (wpAny_If (wpAny_isTrue_Not (wpAny_isTrue_value (ev_loc S3.F rfl (wpAny_truthy_bool ?_)))))
          cases hfin : st.fin.isSome with
          | false =>
            have hn : aStep st 102 (.s x) = none := by simp [aStep, hf, hs, hfin]
            refine wpAny_execs_cons ((cls56 w).go (n := 4000) cA S3.glo (fun Q E q => ev_glob S3.glo (by kernel_rfl!) q) ?_ rfl fun h' e t' args hm => hE hn _ _ ⟨h3, h', e, t', args, _, rfl, rfl, X3, F3, hm⟩)
            refine part_join (n := 300) ?_ (by decide) (by decide)
            refine List.forall_mem_cons.mpr ⟨part_const (by decide +kernel), List.forall_mem_cons.mpr ⟨part_loc F3 rfl (by omega) (by decide), List.forall_mem_cons.mpr ⟨part_const (by decide +kernel), List.forall_mem_cons.mpr ⟨part_loc F3 rfl (by decide +kernel) (by decide), List.forall_mem_cons.mpr ⟨part_const (by decide +kernel), List.forall_mem_nil _⟩⟩⟩⟩⟩
          | true =>
            refine wpAny_execs_nil (wpAny_execs_cons (wpAny_Assign_Name (ev_bool (st_loc S3.F fun h4 t4 F4 s4 => ?_))))
            have S4 := S3.set F4 s4
            refine wpAny_execs_cons (wpAny_Assign_Name (ev_str (st_loc S4.F fun h5 t5 F5 s5 => ?_)))
            have S5 := S4.set F5 s5
            exact wpAny_execs_nil (wpAny_execs_nil (wpAny_execs_nil (hQ { st with fin := none } h5 _ (aStep_close hf hs hfin (.inl x1)) ((X3.trans (extOf s4)).trans (extOf s5)) (mkGX S5 rfl rfl rfl rfl rfl rfl rfl rfl rfl rfl))))
        · rw [beq_eq_false_iff_ne.mpr x1]
          refine wpAny_allTrue_Or_cons (wpAny_isTrue_Compare1 (ev_loc (v := .str x tv) S3.F rfl (ev_loc S3.F rfl (eq_str (wpAny_truthy_bool ?_)))))
          by_cases x2 : x = st.fin.getD "}"
          · rw [beq_iff_eq.mpr x2]
            refine wpAny_execs_cons (wpAny_If (wpAny_isTrue_Not (wpAny_isTrue_value (ev_loc S3.F rfl (wpAny_truthy_bool ?_)))))
            cases hfin : st.fin.isSome with
            | false =>
              have hn : aStep st 102 (.s x) = none := by simp [aStep, hf, hs, hfin]
              refine wpAny_execs_cons ((cls56 w).go (n := 4000) cA S3.glo (fun Q E q => ev_glob S3.glo (by kernel_rfl!) q) ?_ rfl fun h' e t' args hm => hE hn _ _ ⟨h3, h', e, t', args, _, rfl, rfl, X3, F3, hm⟩)
              refine part_join (n := 300) ?_ (by decide) (by decide)
              refine List.forall_mem_cons.mpr ⟨part_const (by decide +kernel), List.forall_mem_cons.mpr ⟨part_loc F3 rfl (by omega) (by decide), List.forall_mem_cons.mpr ⟨part_const (by decide +kernel), List.forall_mem_cons.mpr ⟨part_loc F3 rfl (by decide +kernel) (by decide), List.forall_mem_cons.mpr ⟨part_const (by decide +kernel), List.forall_mem_nil _⟩⟩⟩⟩⟩
            | true =>
              refine wpAny_execs_nil (wpAny_execs_cons (wpAny_Assign_Name (ev_bool (st_loc S3.F fun h4 t4 F4 s4 => ?_))))
              have S4 := S3.set F4 s4
              refine wpAny_execs_cons (wpAny_Assign_Name (ev_str (st_loc S4.F fun h5 t5 F5 s5 => ?_)))
              have S5 := S4.set F5 s5
              exact wpAny_execs_nil (wpAny_execs_nil (wpAny_execs_nil (hQ { st with fin := none } h5 _ (aStep_close hf hs hfin (.inr x2)) ((X3.trans (extOf s4)).trans (extOf s5)) (mkGX S5 rfl rfl rfl rfl rfl rfl rfl rfl rfl rfl))))
          · rw [beq_eq_false_iff_ne.mpr x2]
            have hn : aStep st 102 (.s x) = none := by simp [aStep, hf, hs, x1, x2]
            refine wpAny_allTrue_Or_nil (wpAny_execs_cons ((cls56 w).go (n := 4000) cA S3.glo (fun Q E q => ev_glob S3.glo (by kernel_rfl!) q) ?_ rfl fun h' e t' args hm => hE hn _ _ ⟨h3, h', e, t', args, _, rfl, rfl, X3, F3, hm⟩))
            refine part_join (n := 300) ?_ (by decide) (by decide)
            refine List.forall_mem_cons.mpr ⟨part_const (by decide +kernel), List.forall_mem_cons.mpr ⟨part_loc (y := x) F3 rfl (by omega) (by decide), List.forall_mem_cons.mpr ⟨part_const (by decide +kernel), List.forall_mem_cons.mpr ⟨part_loc F3 rfl (by omega) (by decide), List.forall_mem_cons.mpr ⟨part_const (by decide +kernel), List.forall_mem_cons.mpr ⟨part_loc F3 rfl (by decide +kernel) (by decide), List.forall_mem_cons.mpr ⟨part_const (by decide +kernel), List.forall_mem_nil _⟩⟩⟩⟩⟩⟩⟩
  · rw [beq_eq_false_iff_ne.mpr hc]
    exact wpAny_execs_nil (hQ st _ _ (by simp [aStep, hc]) k1.ext ⟨k, S1⟩)

theorem esv_s5 {Q : Flow → Shared → Prop} (cA : Calm A) (S : GX w b W L a lst c pv dx st h) (hd : dx.length ≤ 200)
    (hQ : ∀ st' h' t', xStep st c = some st' → Ext [L] h h' → GX w b W L a lst c pv dx st' h' → Q .next ⟨h', g, d, t', os⟩)
    (hE : xStep st c = none → ∀ v s', Hurt L h g d os 56 v s' → E v s') :
    wpAny (model PG w) A (exec (esvLoop.getD 5 default) (esvEnv L)) Q E ⟨h, g, d, t, os⟩ := by
  obtain ⟨k, S⟩ := S
  obtain ⟨tkm, gm⟩ := g_xdm w
  show wpAny _ _ (exec (.If (.BoolOp .And [.Compare (.Attribute (.Name _ _) _ _) [.Eq] [.Name _ _] _, .Compare (.Name _ _) [.Is] [.Constant _ _ _] _] _) [.Assign [.Name _ _] (.Constant _ _ _) _, .If (.Name _ _) [.Raise (some (.Call (.Name _ _) [_] [] _)) none _] [] _] [] _) _) _ _ _
  refine wpAny_If (wpAny_isTrue_BoolOp (wpAny_allTrue_And_cons (wpAny_isTrue_Compare1 (ev_code cA S rfl fun h1 t1 tc k1 => ?_))))
  have S1 := S.grow k1
  refine ev_glob S1.glo gm (eq_int (wpAny_truthy_bool ?_))
  by_cases hc : c = 1001
  · subst hc
    refine wpAny_allTrue_And_cons (wpAny_isTrue_Compare1 (ev_loc S1.F rfl (ev_bool (is_bool (wpAny_truthy_bool ?_)))))
    cases hdt : st.data with
    | true => exact wpAny_execs_nil (hQ st _ _ (by simp [xStep, hdt]) k1.ext ⟨k, S1⟩)
    | false =>
      refine wpAny_allTrue_And_nil (wpAny_execs_cons (wpAny_Assign_Name (ev_bool (st_loc S1.F fun h2 t2 F2 s2 => ?_))))
      have S2 := S1.set F2 s2
      have X2 : Ext [L] h h2 := k1.ext.trans (extOf s2)
      refine wpAny_execs_cons (wpAny_If (wpAny_isTrue_value (ev_loc S2.F rfl (wpAny_truthy_bool ?_))))
      cases hfin : st.fin.isSome with
      | true =>
        have hn : xStep st 1001 = none := by simp [xStep, hdt, hfin]
        refine wpAny_execs_cons ((cls56 w).go (n := 4000) cA S2.glo (fun Q E q => ev_glob S2.glo (by kernel_rfl!) q) ?_ rfl fun h' e t' args hm => hE hn _ _ ⟨h2, h', e, t', args, _, rfl, rfl, X2, F2, hm⟩)
        refine part_join (n := 300) ?_ (by decide) (by decide)
        refine List.forall_mem_cons.mpr ⟨part_const (by decide +kernel), List.forall_mem_cons.mpr ⟨part_loc F2 rfl (by omega) (by decide), List.forall_mem_cons.mpr ⟨part_const (by decide +kernel), List.forall_mem_cons.mpr ⟨part_loc F2 rfl (by decide +kernel) (by decide), List.forall_mem_cons.mpr ⟨part_const (by decide +kernel), List.forall_mem_nil _⟩⟩⟩⟩⟩
      | false => exact wpAny_execs_nil (wpAny_execs_nil (hQ { st with data := true } h2 _ (by simp [xStep, hdt, hfin]) X2 (mkGX S2 rfl rfl rfl rfl rfl rfl rfl rfl rfl rfl)))
  · rw [beq_eq_false_iff_ne.mpr hc]
    exact wpAny_execs_nil (hQ st _ _ (by simp [xStep, hc]) k1.ext ⟨k, S1⟩)
end
end Mine
namespace Mine
section
variable {w : World} {A : Around} {c : Code} {fs : List Frame} {P : End → Shared → Prop} {s : Shared} {env : Env}

theorem xg_wrap {α : Type} {m : Sem α} {K : α → Sem Fin} {H : Value → Sem Fin} {gd lv}
    (h : wpAny (model PG w) (A.over c fs) m (fun a s' => SegX (model PG w) A c (K a) fs s' P) (fun x s' => SegX (model PG w) A c (H x) fs s' P) s) :
    SegX (model PG w) A c (m.wrap K H gd lv) fs s P := by
  rintro Γ p rfl hΓ
  obtain ⟨e, s', hr, hq⟩ := runs_wrap_of_wp (Φ := fun e s' => e.quiet = true ∧ P e s') K H gd lv m (h (Γ.over fs) p (hΓ.over fs)) (fun a p' s' h' => h' Γ p' rfl hΓ) (fun x p' s' h' => h' Γ p' rfl hΓ)
  exact ⟨e, s', hr, hq⟩
theorem xg_bind {α β : Type} {m : Sem α} {f : α → Sem β} {K : β → Sem Fin} {H : Value → Sem Fin} {gd lv}
    (h : wpAny (model PG w) (A.over c fs) m (fun a s' => SegX (model PG w) A c ((f a).wrap K H gd lv) fs s' P) (fun x s' => SegX (model PG w) A c (H x) fs s' P) s) :
    SegX (model PG w) A c ((m >>= f).wrap K H gd lv) fs s P := by
  rw [Sem.bind_eq_wrap', Sem.wrap_wrap]
  exact xg_wrap h
theorem xg_onRaise {α : Type} {m : Sem α} {N : Value → Sem Unit} {K : α → Sem Fin} {H : Value → Sem Fin} {gd lv}
    (h : SegX (model PG w) A c (m.wrap K (fun e => (N e).wrap (fun _ => H e) H gd lv) gd lv) fs s P) :
    SegX (model PG w) A c ((m.onRaise N).wrap K H gd lv) fs s P := by
  have e : (m.onRaise N).wrap K H gd lv = m.wrap K (fun e => (N e).wrap (fun _ => H e) H gd lv) gd lv := by
    rw [Sem.onRaise_eq_wrap, Sem.wrap_wrap]
    exact Sem.wrap_congr m _ _ (fun _ => rfl) (fun e => by rw [Sem.bind_eq_wrap, Sem.wrap_wrap]; rfl)
  rw [e]; exact h

variable {K : Flow → Sem Fin} {H : Value → Sem Fin} {gd : Bool → Bool} {lv : List Value → List Value}
theorem xg_cons {st : Stmt} {rest : List Stmt}
    (h : SegX (model PG w) A c ((exec st env).wrap (fun f => match f with | .next => (execs rest env).wrap K H gd lv | f => K f) H gd lv) fs s P) :
    SegX (model PG w) A c ((execs (st :: rest) env).wrap K H gd lv) fs s P := by rw [execs_cons_wrap]; exact h
/-- a statement that does not yield -/
theorem xg_stmt {st : Stmt} {rest : List Stmt}
    (h : wpAny (model PG w) (A.over c fs) (exec st env) (fun f s' => match f with | .next => SegX (model PG w) A c ((execs rest env).wrap K H gd lv) fs s' P | f => SegX (model PG w) A c (K f) fs s' P) (fun x s' => SegX (model PG w) A c (H x) fs s' P) s) :
    SegX (model PG w) A c ((execs (st :: rest) env).wrap K H gd lv) fs s P := by
  refine xg_cons (xg_wrap (wpAny_mono h (fun f s' q => ?_) fun _ _ q => q))
  cases f <;> exact q
theorem xg_nil (h : SegX (model PG w) A c (K .next) fs s P) : SegX (model PG w) A c ((execs [] env).wrap K H gd lv) fs s P := h
theorem xg_if {test : Expr} {body orelse : List Stmt} {pos : Pos}
    (h : wpAny (model PG w) (A.over c fs) (isTrue test env (eval test env)) (fun b s' => if b = true then SegX (model PG w) A c ((execs body env).wrap K H gd lv) fs s' P else SegX (model PG w) A c ((execs orelse env).wrap K H gd lv) fs s' P)
      (fun x s' => SegX (model PG w) A c (H x) fs s' P) s) :
    SegX (model PG w) A c ((exec (.If test body orelse pos) env).wrap K H gd lv) fs s P := by
  rw [exec_If]
  refine xg_bind (wpAny_standAt (xg_bind (wpAny_mono h (fun b s' q => ?_) fun _ _ q => q)))
  cases b <;> exact q
theorem xg_continue {pos : Pos} (h : SegX (model PG w) A c (K .cont) fs s P) : SegX (model PG w) A c ((exec (.Continue pos) env).wrap K H gd lv) fs s P := by
  show SegX _ _ _ ((do standAt pos; pure .cont : Sem Flow).wrap K H gd lv) fs s P
  exact xg_bind (wpAny_standAt h)

/-- what a sleeping generator does when it is woken -/
def Woke (w : World) (c : Code) (fs : List Frame) (t : Sem Fin) (kk : Resume → Sem Fin) : Prop :=
  ∀ A s P, SegX (model PG w) A c t fs s P → SegX (model PG w) A c (kk (.send .none)) fs s P
theorem xg_yield {e : Expr} {ypos pos : Pos} (hfs : splitAtGen fs = none) (hgd : gd false = false) (hfg : fs.any Frame.guarded = false)
    (h : wpAny (model PG w) (A.over c fs) (eval e env) (fun v s' => ∀ l kk p, Woke w c fs (K .next) kk → P (.susp v false l kk c p fs) s') (fun x s' => SegX (model PG w) A c (H x) fs s' P) s)
    (hco : env.scope.isCoroutine = false := by rfl) (hi : interactive env = false := by rfl) :
    SegX (model PG w) A c ((exec (.Expr (.Yield (some e) ypos) pos) env).wrap K H gd lv) fs s P := by
  rw [exec_Expr env _ pos hi rfl]
  show SegX _ A c ((standAt pos >>= fun _ => ((eval e env >>= fun v => (standAt ypos >>= fun _ => yieldOut env v)) >>= fun x =>
    dropValue (.Yield (some e) ypos) pos x)).wrap K H gd lv) fs s P
  have hy : ∀ v, yieldOut env v = yieldValue v := fun v => by simp only [yieldOut, hco, Bool.false_eq_true, if_false]
  simp only [hy]
  refine xg_bind (wpAny_standAt ?_)
  rw [Sem.bind_eq_wrap', Sem.bind_eq_wrap', Sem.wrap_wrap, Sem.wrap_wrap]
  refine xg_wrap (wpAny_mono h (fun v s' h' => ?_) fun _ _ x => x)
  refine s_skim PG w A c fs P _ _ 1 ?_
  show SegX _ A c (.yield v (gd false) (lv []) _) fs s' P
  rw [hgd]
  refine s_yield PG w A c fs P s' v _ _ hfs hfg fun p => h' _ _ p ?_
  intro A s P x
  exact x
end
end Mine
namespace Mine
/-! ## the way of an exception -/
section
variable {M : Model} {A : Around} {E : Value → Shared → Prop} {s : Shared} {base h : Heap} {env : Env} {outer : List Env} {L e : Addr} {cls a0 : Value} {args : List Value} {Q : Unit → Shared → Prop}
theorem note_made (hfr : A.frames = some (env :: outer)) (hf : env.frame = some L) (hkb : base.StaysIn h) (hl : h.FunFrames base (env :: outer)) (hx : Heap.MadeExcOf h s.heap e cls args)
    (hQ : ∀ h' a0, Heap.HeldW base (env :: outer) e cls a0 L h' → s.heap.UpToSlots h' → Q () { s with heap := h' }) : wpAny M A (noteFrame (.ref e) env) Q E s := by
  obtain ⟨t, he, htn, ht⟩ := hx.there
  have hen : base.get? e = none := by
    cases hq : base.get? e with
    | none => rfl
    | some o' => have := hkb e o' hq; rw [hx.new] at this; cases this
  unfold noteFrame
  simp only [hf]
  refine wpAny_bind (wpAny_field he rfl (x := .none) rfl ?_)
  rw [if_neg (by decide)]
  refine wpAny_entryW (a0 := .ref t) hfr (hl.of_keeps fun b o hb _ => ⟨o, hx.keeps b o hb, rfl⟩) hf he (fun b o hb => hx.keeps b o (hkb b o hb)) hen rfl (by show 1 < 6; decide) rfl fun h' hN => ?_
  obtain ⟨k1, k2, k3, k4⟩ := hN
  exact hQ h' (.ref t) ⟨k1, hen, k2, k3⟩ k4

theorem came_held (hf : env.frame = some L) {l : List Env} (hh : Heap.HeldW base l e cls a0 L s.heap)
    (hQ : ∀ h', Heap.HeldW base l e cls a0 L h' → s.heap.UpToSlots h' → Q () { s with heap := h' }) :
    wpAny M A (do
      if (← field (.ref e) 1) == .none then unsupported "frame.own-activation:exception-without-traceback"
      setFlight (.ref e) env.frame) Q E s := by
  obtain ⟨f1, f2, f3, oe, vs, T, oT, ts, he, hcls, hd, h1, hnT, hTe, hT, hdT, h3⟩ := hh
  have hsz3 : 3 < ts.size := (Array.getElem?_eq_some_iff.mp h3).1
  rw [hf]
  refine wpAny_bind (wpAny_field he hd h1 ?_)
  rw [if_neg (by simp)]
  unfold setFlight
  refine wpAny_bind (wpAny_field he hd h1 ?_)
  rw [if_pos (show (Value.ref T != Value.none) = true from by simp)]
  have other : ∀ b, b ≠ T → (s.heap.update T (Obj.mapFields (·.setIfInBounds 3 ((some L).elim Value.none fun f => rawInt f)))).get? b = s.heap.get? b :=
    fun b hb => Heap.get?_update_other _ _ (Ne.symm hb)
  have noRecord : ∀ b o, s.heap.get? b = some o → (∀ vs, o.data ≠ .fields vs) → b ≠ T := fun b o hb hnf q => by
    rw [q, hT] at hb; injection hb with hb; subst hb; exact hnf ts hdT
  refine wpAny_setField hT hdT hsz3 (hQ _ ⟨fun b o hbo => (other b fun q => by rw [q, hnT] at hbo; cases hbo).trans (f1 b o hbo), f2, f3.of_keeps fun b o hb hnf => ⟨o, (other b (noRecord b o hb hnf)).trans hb, rfl⟩, ?_⟩
    fun b o hb hnf => ⟨o.slots, (other b (noRecord b o hb hnf)).trans hb⟩)
  exact ⟨oe, vs, T, _, _, (other e (Ne.symm hTe)).trans he, hcls, hd, h1, hnT, hTe, Heap.get?_update_self _ hT (Obj.isFreed_of_fields (Obj.data_mapFields hdT _)), Obj.data_mapFields hdT _, by simp [hsz3]⟩
end

/-! ## one turn of a loop in a generator -/
noncomputable def HF (env : Env) (e : Value) : Sem Fin := (do noteFrame e env; theTreesLotGoes e : Sem Unit).bind fun _ => .raise e
section
variable {w : World} {A : Around} {fs : List Frame} {P : End → Shared → Prop} {s : Shared} {env : Env} {tgt : Expr} {it : Value} {body : List Stmt}
abbrev cF (tgt : Expr) (it : Value) (body : List Stmt) (env : Env) : Code := .forLoop tgt it body [] env
def KF (tgt : Expr) (it : Value) (body : List Stmt) (env : Env) : Flow → Sem Fin
  | .next | .cont => .pure (.again (cF tgt it body env))
  | .brk => .pure (.done .next)
  | .ret v => .pure (.done (.ret v))
theorem xg_HF {c : Code} {e : Value} (h : wpAny (model PG w) (A.over c fs) (noteFrame e env) (fun _ s' => SegX (model PG w) A c (.raise e) fs s' P) (fun x s' => SegX (model PG w) A c (.raise x) fs s' P) s) : SegX (model PG w) A c (HF env e) fs s P := by
  unfold HF
  rw [Sem.bind_eq_wrap]
  exact xg_wrap (wpAny_bind (wpAny_mono h (fun _ _ q => wpAny_theTreesLotGoes q) fun _ _ q => q))
theorem xg_forTurn
    (h : wpAny (model PG w) (A.over (cF tgt it body env) fs) (pyNext it) (fun r s1 => match r with
      | none => SegX (model PG w) A (.block [] env) (denote table (.block [] env)) fs s1 P
      | some v => wpAny (model PG w) (A.over (cF tgt it body env) fs) (assign tgt env v) (fun _ s2 => SegX (model PG w) A (cF tgt it body env) ((execs body env).wrap (KF tgt it body env) (HF env) id id) fs s2 P) (fun _ _ => False) s1) (fun _ _ => False) s)
    (ht : ∀ v, letOwnedTupleGo tgt it v = pure () := by intro _; rfl) :
    SegX (model PG w) A (cF tgt it body env) (denote table (cF tgt it body env)) fs s P := by
  show SegX _ A _ ((forTurn tgt it body [] env).onRaise (fun x => do noteFrame x env; theTreesLotGoes x)) fs s P
  rw [Sem.onRaise_eq_wrap]
  unfold forTurn
  refine xg_bind (wpAny_standAt (xg_bind (wpAny_onRaise (wpAny_mono h (fun r s1 h1 => ?_) fun _ _ q => q.elim))))
  cases r with
  | none => exact s_again PG w A _ fs P s1 (.block [] env) rfl h1
  | some v =>
    refine xg_bind (wpAny_of_eq (ht v) ?_)
    refine xg_bind (wpAny_mono h1 (fun _ s2 h2 => ?_) fun _ _ q => q.elim)
    rw [Sem.bind_eq_wrap', Sem.wrap_wrap]
    exact s_eq PG w A _ fs P s2 _ _ (Sem.wrap_congr (execs body env) id id (K' := KF tgt it body env) (H' := HF env) (fun f => by cases f <;> rfl) (fun e => rfl)) h2
theorem xg_block {k hd g l c1 p1 kp} (h : SegX (model PG w) A c1 (k (.ok .next)) fs s P) : SegX (model PG w) A (.block [] env) (denote table (.block [] env)) (.ret k hd g l c1 p1 kp :: fs) s P :=
  s_pop PG w A _ fs P s (.ok .next) _ rfl k hd g l c1 p1 kp h
end
end Mine
namespace Mine
abbrev lawDef : Stmt := topStmt 21
abbrev lawEnv (Lw : Addr) : Env := envOf "law" (scopeOf lawDef) Lw 227 (.ref 226)
def tStep (st : GS) (c : Int) (pv : PV) : Except Addr GS :=
  if (st.emb || isEmb c pv) = true then .ok { st with emb := true }
  else match dStep st c pv with
    | none => .error 68
    | some s2 => match aStep s2 c pv with
      | none => .error 56
      | some s3 => match xStep s3 c with
        | none => .error 56
        | some s4 => .ok s4
def endStep (st : GS) : Except Addr Unit := if st.fin.isSome = true then .error 56 else if st.data = true ∧ st.level ≠ 0 then .error 68 else .ok ()

theorem loc_obj {h : Heap} {L : Addr} {l} (x : Loc h L l) : ∃ o, h.get? L = some o ∧ ∀ vs, o.data ≠ .fields vs := by
  obtain ⟨m, ⟨o, es, ep, ho, hd, _⟩, _⟩ := x
  exact ⟨o, ho, fun vs q => by rw [hd] at q; cases q⟩
theorem ff1 {h b : Heap} {L fa : Addr} {l} {n : Str} {sc : Scope} {cd : Value} (x : Loc h L l) (hn : b.get? L = none) (hk : sc.kind ≠ .module) {r : List Env} (y : h.FunFrames b r) : h.FunFrames b (envOf n sc L fa cd :: r) :=
  ⟨hk, let ⟨o, ho, hd⟩ := loc_obj x; ⟨L, o, rfl, hn, ho, hd⟩, y⟩
theorem ff2 {h b : Heap} {L Lw : Addr} {l lw} (x : Loc h L l) (y : Loc h Lw lw) (hn : b.get? L = none) (hw : b.get? Lw = none) : h.FunFrames b [esvEnv L, lawEnv Lw] :=
  ff1 x hn (by decide) (ff1 y hw (by decide) trivial)
section
variable {w : World} {A : Around} {E : Value → Shared → Prop} {b h : Heap} {W : List Addr} {g : Array GenState} {d : Drawn} {t : Nat} {os : OsState} {L : Addr} {dx : Str} {st : GS}
def gl0 (lst : Addr) (dx : Str) (st : GS) (k : Tok × Tok × Tok × Tok) : List (Str × Value) :=
  [("tags", .ref lst), ("dxftype", .str dx k.1), ("is_xrecord", .bool st.free), ("handle", .str "???" k.2.1), ("app_data", .bool st.fin.isSome), ("xdata", .bool st.data),
   ("xdata_list_level", .int st.level k.2.2.1), ("app_data_closing_tag", .str (st.fin.getD "}") k.2.2.2), ("embedded_object", .bool st.emb)]
abbrev esvRest : List Stmt := (bodyOf esvDef).drop 10
theorem esv_end {lst : Addr} {k} {Q : Flow → Shared → Prop} (cA : Calm A) (G : Glo w h) (F : Loc h L (gl0 lst dx st k)) (hd : dx.length ≤ 200)
    (hQ : ∀ t', endStep st = .ok () → Q .next ⟨h, g, d, t', os⟩)
    (hE : ∀ C v s', endStep st = .error C → Hurt L h g d os C v s' → E v s') :
    wpAny (model PG w) A (execs esvRest (esvEnv L)) Q E ⟨h, g, d, t, os⟩ := by
  show wpAny _ _ (execs [.If (.Name _ _) [.Raise (some (.Call (.Name _ _) [_] [] _)) none _] [] _, .If (.Name _ _) [.If (.Compare (.Name _ _) [.Lt] [.Constant _ _ _] _) _ [.If (.Compare (.Name _ _) [.Gt] [.Constant _ _ _] _) [.Raise (some (.Call (.Name _ _) [_] [] _)) none _] [] _] _] [] _] _) _ _ _
  refine wpAny_execs_cons (wpAny_If (wpAny_isTrue_value (ev_loc F rfl (wpAny_truthy_bool ?_))))
  cases hf : st.fin.isSome with
  | true =>
    refine wpAny_execs_cons ((cls56 w).go (n := 4000) cA G (fun Q E q => ev_glob G (by kernel_rfl!) q) ?_ rfl fun h' e t' args hm => hE 56 _ _ (by simp [endStep, hf]) ⟨h, h', e, t', args, _, rfl, rfl, Ext.refl _ _, F, hm⟩)
    refine part_join (n := 300) ?_ (by decide) (by decide)
    refine List.forall_mem_cons.mpr ⟨part_const (by decide +kernel), List.forall_mem_cons.mpr ⟨part_loc F rfl (by omega) (by decide), List.forall_mem_cons.mpr ⟨part_const (by decide +kernel), List.forall_mem_cons.mpr ⟨part_loc F rfl (by decide +kernel) (by decide), List.forall_mem_cons.mpr ⟨part_const (by decide +kernel), List.forall_mem_nil _⟩⟩⟩⟩⟩
  | false =>
    refine wpAny_execs_nil (wpAny_execs_cons (wpAny_If (wpAny_isTrue_value (ev_loc F rfl (wpAny_truthy_bool ?_)))))
    cases hdt : st.data with
    | false => exact wpAny_execs_nil (wpAny_execs_nil (hQ _ (by simp [endStep, hf, hdt])))
    | true =>
      refine wpAny_execs_cons (wpAny_If (wpAny_isTrue_Compare1 (ev_loc F rfl (ev_int (lt_int (wpAny_truthy_bool ?_))))))
      rw [decide_eq_false (by omega)]
      refine wpAny_execs_cons (wpAny_If (wpAny_isTrue_Compare1 (ev_loc F rfl (ev_int (gt_int (wpAny_truthy_bool ?_))))))
      by_cases hl : st.level = 0
      · rw [decide_eq_false (by omega)]
        exact wpAny_execs_nil (wpAny_execs_nil (wpAny_execs_nil (wpAny_execs_nil (hQ _ (by simp [endStep, hf, hl])))))
      · rw [decide_eq_true (by omega)]
        refine wpAny_execs_cons ((cls68 w).go (n := 4000) cA G (fun Q E q => ev_glob G (by kernel_rfl!) q) ?_ rfl fun h' e t' args hm => hE 68 _ _ (by simp [endStep, hf, hdt, hl]) ⟨h, h', e, t', args, _, rfl, rfl, Ext.refl _ _, F, hm⟩)
        refine part_join (n := 300) ?_ (by decide) (by decide)
        refine List.forall_mem_cons.mpr ⟨part_const (by decide +kernel), List.forall_mem_cons.mpr ⟨part_loc F rfl (by omega) (by decide), List.forall_mem_cons.mpr ⟨part_const (by decide +kernel), List.forall_mem_cons.mpr ⟨part_loc F rfl (by decide +kernel) (by decide), List.forall_mem_cons.mpr ⟨part_const (by decide +kernel), List.forall_mem_nil _⟩⟩⟩⟩⟩
end
end Mine
namespace Mine
def TagsAt (W : List Addr) (h : Heap) (lst : Addr) (pl : List (Int × PV)) : Prop :=
  lst ∉ W ∧ ∃ items, h.IsList lst items ∧ items.size = pl.length ∧ ∀ (i : Nat) (c : Int) (pv : PV), pl[i]? = some (c, pv) → ∃ a tc tv, items[i]? = some (.ref a) ∧ TagIn W h a (.int c tc) (pv.val tv)
theorem TagsAt.ext {W V : List Addr} {h h' : Heap} {lst : Addr} {pl : List (Int × PV)} (x : TagsAt W h lst pl) (k : Ext V h h') (s : ∀ n ∈ V, n ∈ W) : TagsAt W h' lst pl :=
  let ⟨n, items, p, q, r⟩ := x; ⟨n, items, isList_ext p k (fun m => n (s _ m)), q, fun i c pv e => let ⟨a, tc, tv, u, v⟩ := r i c pv e; ⟨a, tc, tv, u, v.ext k s⟩⟩
structure GP (w : World) (b : Heap) (W : List Addr) (L it Lw lst : Addr) (pl : List (Int × PV)) (dx : Str) (st : GS) (h : Heap) : Prop where
  G : Glo w b
  hb : ∀ x ∈ W, b.get? x = none
  B : Grow b h
  F : ∃ k, Loc h L (gl0 lst dx st k)
  T : TagsAt W h lst pl
  hd : ∃ c, pl[0]? = some (c, .s dx)
  LW : L ∈ W
  IW : it ∈ W
  OW : Lw ∈ W
  LI : L ≠ it
  LO : L ≠ Lw
  IO : it ≠ Lw
  O : ∃ lw, Loc h Lw lw
abbrev esvTgt : Expr := match (bodyOf esvDef).getD 9 default with | .For t _ _ _ _ => t | _ => default
abbrev cE (L it : Addr) : Code := cF esvTgt (.ref it) esvLoop (esvEnv L)
abbrev cE1 (L : Addr) : Code := .func (bodyOf esvDef) (esvEnv L)
def Awake (w : World) (c : Code) (fs : List Frame) (kk : Resume → Sem Fin) : Prop := ∀ A s P, SegX (model PG w) A c (denote table c) fs s P → SegX (model PG w) A c (kk (.send .none)) fs s P
abbrev fsE (L : Addr) (kf : Result → Sem Fin) (pf : Pos) : List Frame := [.ret kf none false [] (cE1 L) pf []]
noncomputable def KFn : Flow → Sem Fin := fun f => .pure (.done (.ret (match f with | .ret v => v | _ => .none)))
noncomputable def HFn (env : Env) : Value → Sem Fin := fun e => (leaving env e).wrap (fun _ => .raise e) .raise id id
structure FsOk (w : World) (L Lw : Addr) (kf : Result → Sem Fin) : Prop where
  ok : ∀ {A P s}, SegX (model PG w) A (cE1 L) ((execs esvRest (esvEnv L)).wrap KFn (HFn (esvEnv L)) id id) [] s P → SegX (model PG w) A (cE1 L) (kf (.ok .next)) [] s P
  err : ∀ {A P} {b h : Heap} {g d t os} {e : Addr} {cls a0}, Heap.HeldW b [esvEnv L, lawEnv Lw] e cls a0 L h → (∀ h', Heap.FlyingW b [lawEnv Lw] e cls a0 h' → h.UpToSlots h' → P (.ret (.error (.ref e))) ⟨h', g, d, t, os⟩) →
    SegX (model PG w) A (cE1 L) (kf (.error (.ref e))) [] ⟨h, g, d, t, os⟩ P

section
variable {w : World} {A : Around} {b h h' : Heap} {W : List Addr} {g : Array GenState} {d : Drawn} {t : Nat} {os : OsState} {L it Lw lst a : Addr} {c : Int} {pv : PV} {dx : Str} {st : GS} {pl : List (Int × PV)} {i : Nat} {kf : Result → Sem Fin} {pf : Pos} {P : End → Shared → Prop}

/-- what is left untouched beside the generator's own -/
structure Rest (w : World) (b : Heap) (W : List Addr) (L it Lw lst : Addr) (pl : List (Int × PV)) (dx : Str) (i : Nat) (h : Heap) : Prop where
  G : Glo w b
  hb : ∀ x ∈ W, b.get? x = none
  B : Grow b h
  T : TagsAt W h lst pl
  hd : ∃ c, pl[0]? = some (c, .s dx)
  I : h.IsListIter it lst i
  LW : L ∈ W
  IW : it ∈ W
  OW : Lw ∈ W
  LI : L ≠ it
  LO : L ≠ Lw
  IO : it ≠ Lw
  O : ∃ lw, Loc h Lw lw
theorem Rest.ext (R : Rest w b W L it Lw lst pl dx i h) (k : Ext [L] h h') : Rest w b W L it Lw lst pl dx i h' :=
  have s : ∀ n ∈ [L], n ∈ W := fun n m => List.mem_singleton.mp m ▸ R.LW
  { R with
    B := k.keepBase (fun n m => R.hb n (s n m)) R.B
    T := R.T.ext k s
    I := R.I.extBut k.to (Ne.symm R.LI)
    O := let ⟨lw, o⟩ := R.O; ⟨lw, o.ext k.to (Ne.symm R.LO)⟩ }
theorem Rest.gp (R : Rest w b W L it Lw lst pl dx i h) (S : ∃ k, Loc h L (gl0 lst dx st k)) : GP w b W L it Lw lst pl dx st h := { R with F := S }
theorem locOfGX (S : GX w b W L a lst c pv dx st h) : ∃ k, Loc h L (gl0 lst dx st k) := let ⟨k, S⟩ := S; ⟨k, S.F.weak ⟨rfl, rfl, rfl, rfl, rfl, rfl, rfl, rfl, rfl, trivial⟩⟩

/-- a raise in the loop's body leaves the generator -/
theorem esv_hurt (hfr : ((A.over (cE L it) (fsE L kf pf))).frames = some [esvEnv L, lawEnv Lw]) (ok : FsOk w L Lw kf) (R : Rest w b W L it Lw lst pl dx i h) {C : Addr} {v s'} (H : Hurt L h g d os C v s')
    (hE : ∀ h1 e h' t' a0, Ext [L] h h1 → h1.UpToSlots h' → Heap.FlyingW b [lawEnv Lw] e (.ref C) a0 h' → P (.ret (.error (.ref e))) ⟨h', g, d, t', os⟩) :
    SegX (model PG w) A (cE L it) (HF (esvEnv L) v) (fsE L kf pf) s' P := by
  obtain ⟨h1, h2, e, t', args, l', rfl, rfl, x1, F1, hm⟩ := H
  have R1 := R.ext x1
  obtain ⟨lw, O1⟩ := R1.O
  refine xg_HF (note_made (base := b) hfr rfl (fun _ _ q => R1.B _ _ q) (ff2 F1 O1 (R.hb _ R.LW) (R.hb _ R.OW)) hm fun h3 a0 hh u3 => ?_)
  refine s_pop PG w A _ _ P _ (.error (.ref e)) _ rfl _ _ _ _ _ _ _ ?_
  refine ok.err hh fun h4 hf u4 => hE h1 e h4 _ a0 x1 ?_ hf
  exact (Heap.UpToSlots.of_keeps hm.keeps).trans (u3.trans u4)
end
end Mine
namespace Mine
section
variable {w : World} {A : Around} {b h h' : Heap} {W : List Addr} {g : Array GenState} {d : Drawn} {t : Nat} {os : OsState} {L it Lw lst a : Addr} {c : Int} {pv : PV} {dx : Str} {st : GS} {pl : List (Int × PV)} {i : Nat} {kf : Result → Sem Fin} {pf : Pos} {P : End → Shared → Prop}
theorem mkGX0 {k} (G : Glo w b) (hb : ∀ x ∈ W, b.get? x = none) (B : Grow b h) (F : Loc h L (("tag", .ref a) :: gl0 lst dx st k)) (T : ∃ tc tv, TagIn W h a (.int c tc) (pv.val tv))
    (Ts : TagsAt W h lst pl) (hd : ∃ c, pl[0]? = some (c, .s dx)) (LW : L ∈ W) : GX w b W L a lst c pv dx st h := by
  obtain ⟨n, items, p, q, r⟩ := Ts
  obtain ⟨c0, e0⟩ := hd
  obtain ⟨a0, tc, tv, u, v⟩ := r 0 c0 (.s dx) e0
  exact ⟨k, { G := G, hb := hb, B := B, F := F.weak ⟨rfl, rfl, rfl, rfl, rfl, rfl, rfl, rfl, rfl, rfl, trivial⟩, T := T, Ls := ⟨n, items, a0, _, _, p, u, v⟩, LW := LW }⟩

theorem esv_turn (cA : Calm (A.over (cE L it) (fsE L kf pf))) (hfr : ((A.over (cE L it) (fsE L kf pf))).frames = some [esvEnv L, lawEnv Lw]) (ok : FsOk w L Lw kf)
    (S : GP w b W L it Lw lst pl dx st h) (I : h.IsListIter it lst i) (hp : pl[i]? = some (c, pv)) (K : KindOk c pv) (hdl : dx.length ≤ 200)
    (hY : ∀ st' a kk l p h' t', tStep st c pv = .ok st' → Awake w (cE L it) (fsE L kf pf) kk → Ext [L, it] h h' → GP w b W L it Lw lst pl dx st' h' → h'.IsListIter it lst (i + 1) → (∃ tc tv, TagIn W h' a (.int c tc) (pv.val tv)) →
      P (.susp (.ref a) false l kk (cE L it) p (fsE L kf pf)) ⟨h', g, d, t', os⟩)
    (hE : ∀ C h1 e h' t' a0, tStep st c pv = .error C → Ext [L, it] h h1 → h1.UpToSlots h' → Heap.FlyingW b [lawEnv Lw] e (.ref C) a0 h' → P (.ret (.error (.ref e))) ⟨h', g, d, t', os⟩) :
    SegX (model PG w) A (cE L it) (denote table (cE L it)) (fsE L kf pf) ⟨h, g, d, t, os⟩ P := by
  obtain ⟨hlW, items, hil, hsz, hit⟩ := S.T
  obtain ⟨a, tc, tv, hia, hTa⟩ := hit i c pv hp
  refine xg_forTurn (wpAny_pyNext_list_item I hil hia fun h1 I1 s1 => ?_)
  show wpAny _ _ (assign (.Name _ _) _ _) _ _ _
  -- after the iterator's step
  have e1 : Ext [it] h h1 := extOf s1
  have sI : ∀ n ∈ [it], n ∈ W := fun n m => List.mem_singleton.mp m ▸ S.IW
  have sL : ∀ n ∈ [L], n ∈ W := fun n m => List.mem_singleton.mp m ▸ S.LW
  obtain ⟨k, F⟩ := S.F
  have F1 := F.ext s1.extBut S.LI
  refine wpAny_assign_Name (st_loc F1 fun h2 t2 F2 s2 => ?_)
  have e2 : Ext [L] h1 h2 := extOf s2
  have R2 : Rest w b W L it Lw lst pl dx (i + 1) h2 := Rest.ext (h := h1)
    { G := S.G, hb := S.hb, B := e1.keepBase (fun n m => S.hb n (sI n m)) S.B, T := S.T.ext e1 sI, hd := S.hd, I := I1, LW := S.LW, IW := S.IW, OW := S.OW, LI := S.LI, LO := S.LO, IO := S.IO, O := let ⟨lw, o⟩ := S.O; ⟨lw, o.ext s1.extBut (Ne.symm S.IO)⟩ } e2
  have X2 : Ext [L, it] h h2 := (e1.mono (by simp)).trans (e2.mono (by simp))
  have G2 : GX w b W L a lst c pv dx st h2 := mkGX0 S.G S.hb R2.B F2 ⟨tc, tv, (hTa.ext e1 sI).ext e2 sL⟩ R2.T S.hd S.LW
  have raise : ∀ {h3 C v s'}, tStep st c pv = .error C → Ext [L] h2 h3 → Hurt L h3 g d os C v s' → SegX (model PG w) A (cE L it) (HF (esvEnv L) v) (fsE L kf pf) s' P := fun et x H =>
    esv_hurt hfr ok (R2.ext x) H fun h4 e h5 t5 a0 x4 u5 f5 => hE _ h4 e h5 t5 a0 et ((X2.trans (x.mono (by simp))).trans (x4.mono (by simp))) u5 f5
  show SegX _ _ _ (Sem.wrap _ _ _ _ (execs [esvLoop.getD 0 default, esvLoop.getD 1 default, .If (.Name _ _) [.Expr (.Yield (some (.Name _ _)) _) _, .Continue _] [] _, esvLoop.getD 3 default, esvLoop.getD 4 default, esvLoop.getD 5 default, .Expr (.Yield (some (.Name _ _)) _) _] _)) _ _ _
  refine xg_stmt (esv_s0 cA G2 K fun h3 t3 x3 G3 => ?_)
  refine xg_stmt (esv_s1 cA G3 K fun h4 t4 x4 G4 => ?_)
  have x24 : Ext [L] h2 h4 := x3.trans x4
  have R4 := R2.ext x24
  obtain ⟨k4, S4⟩ := G4
  refine xg_cons (xg_if (wpAny_isTrue_value (ev_loc S4.F rfl (wpAny_truthy_bool ?_))))
  cases hem : (st.emb || isEmb c pv) with
  | true =>
    refine xg_cons (xg_yield rfl rfl rfl (ev_loc S4.F rfl fun l kk p hw => ?_))
    refine hY { st with emb := true } a kk l p h4 _ (by simp only [tStep, hem, if_true]) (fun A s P x => hw A s P (xg_cons (xg_continue (s_again PG w A _ _ P s (cE L it) rfl x)))) (X2.trans (x24.mono (by simp))) (R4.gp ?_) R4.I S4.T
    have := locOfGX (w := w) ⟨k4, S4⟩
    rw [hem] at this; exact this
  | false =>
    have hst : ({ st with emb := st.emb || isEmb c pv } : GS) = st := by
      obtain ⟨f1, f2, f3, f4, f5⟩ := st
      dsimp only at hem ⊢
      rw [hem]; simp only [Bool.or_eq_false_iff] at hem; rw [hem.1]
    rw [hst] at S4
    have hem' : st.emb = false := by simp only [Bool.or_eq_false_iff] at hem; exact hem.1
    refine xg_nil ?_
    refine xg_stmt (esv_s3 cA ⟨k4, S4⟩ K hdl hem' (fun s3 h5 t5 ds x5 G5 => ?_) fun dn v s' H => raise (by simp [tStep, hem, dn]) x24 H)
    refine xg_stmt (esv_s4 cA G5 K hdl (fun s4 h6 t6 as x6 G6 => ?_) fun dn v s' H => raise (by simp [tStep, hem, ds, dn]) (x24.trans x5) H)
    refine xg_stmt (esv_s5 cA G6 hdl (fun s5 h7 t7 xs x7 G7 => ?_) fun dn v s' H => raise (by simp [tStep, hem, ds, as, dn]) ((x24.trans x5).trans x6) H)
    have x27 := ((x24.trans x5).trans x6).trans x7
    have R7 := R2.ext x27
    have G7' := G7
    obtain ⟨k7, S7⟩ := G7
    refine xg_cons (xg_yield rfl rfl rfl (ev_loc S7.F rfl fun l kk p hw => ?_))
    exact hY s5 a kk l p h7 _ (by simp [tStep, hem, ds, as, xs]) (fun A s P x => hw A s P (xg_nil (s_again PG w A _ _ P s (cE L it) rfl x))) (X2.trans (x27.mono (by simp))) (R7.gp (locOfGX G7')) R7.I S7.T
end
end Mine
namespace Mine
def IsCls (h : Heap) (C : Addr) (bm : List Value) : Prop := ∃ nm q N bs hdct sn sub ab col dd k0 k1 k2 k3 k5 newId, h.get? C = some (excClassObj nm q C N bs bm hdct sn sub ab col dd k0 k1 k2 k3 k5 newId)
theorem isc56 {w : World} {h : Heap} (K : (hd.heap_39 w.params).In h) : IsCls h 56 (.ref 44 :: .ref 31 :: excMro) := ⟨_, _, _, _, _, _, _, _, _, _, _, _, _, _, _, _, K _ _ rfl⟩
theorem isc68 {w : World} {h : Heap} (K : (hd.heap_39 w.params).In h) : IsCls h 68 (.ref 44 :: .ref 31 :: excMro) := ⟨_, _, _, _, _, _, _, _, _, _, _, _, _, _, _, _, K _ _ rfl⟩
theorem isc44 {w : World} {h : Heap} (K : (hd.heap_39 w.params).In h) : IsCls h 44 (.ref 31 :: excMro) := ⟨_, _, _, _, _, _, _, _, _, _, _, _, _, _, _, _, K _ _ rfl⟩
theorem isc80 {w : World} {h : Heap} (K : (hd.heap_39 w.params).In h) : IsCls h 80 (.ref 31 :: .type "ValueError" :: excMro) := ⟨_, _, _, _, _, _, _, _, _, _, _, _, _, _, _, _, K _ _ rfl⟩
section
variable {M : Model} {A : Around} {E : Value → Shared → Prop} {h : Heap} {g : Array GenState} {d : Drawn} {t : Nat} {os : OsState} {e C D : Addr} {oe : Obj} {bm bmD : List Value} {Q : Bool → Shared → Prop}
theorem excM_other (hC : IsCls h C bm) (hD : IsCls h D bmD) (he : h.get? e = some oe) (hcls : oe.cls = .ref C) (hbase : bmD.contains (.type "BaseException") = true) (hno : (Value.ref C :: bm).contains (.ref D) = false)
    (hq : Q false ⟨h, g, d, t, os⟩) : wpAny M A (excMatches (.ref e) (.ref D)) Q E ⟨h, g, d, t, os⟩ := by
  obtain ⟨nm, q, N, bs, hdct, sn, sub, ab, col, dd, k0, k1, k2, k3, k5, newId, hC⟩ := hC
  obtain ⟨nm', q', N', bs', hdct', sn', sub', ab', col', dd', k0', k1', k2', k3', k5', newId', hD⟩ := hD
  have hcB : (Value.ref D :: bmD).contains (.type "BaseException") = true := by rw [List.contains_cons, hbase, Bool.or_true]
  have f := tc_notTuple
  unfold excMatches
  repeat (first | (with_reducible refine wpAny_loadPart_at he ?_; rw [hcls]) | with_reducible refine wpAny_loadPart_at hD ?_ | with_reducible refine wpAny_loadPart_at hC ?_ | (with_reducible refine wpAny_isSubtype_exc hD ?_; rw [hcB]) | (with_reducible refine wpAny_isSubtype_exc hC ?_; rw [hno]) | wp_step)
  exact hq
theorem excM_self (hC : IsCls h C bm) (he : h.get? e = some oe) (hcls : oe.cls = .ref C) (hbase : bm.contains (.type "BaseException") = true)
    (hq : Q true ⟨h, g, d, t, os⟩) : wpAny M A (excMatches (.ref e) (.ref C)) Q E ⟨h, g, d, t, os⟩ := by
  obtain ⟨nm, q, N, bs, hdct, sn, sub, ab, col, dd, k0, k1, k2, k3, k5, newId, hC⟩ := hC
  exact wpAny_excMatches_sub_self hC he hcls hbase hq
theorem notStop (hC : IsCls h C bm) (he : h.get? e = some oe) (hcls : oe.cls = .ref C) (hno : (Value.ref C :: bm).contains (.type "StopIteration") = false)
    (hq : Q false ⟨h, g, d, t, os⟩) : wpAny M A (isInstance (.ref e) (.type "StopIteration")) Q E ⟨h, g, d, t, os⟩ := by
  obtain ⟨nm, q, N, bs, hdct, sn, sub, ab, col, dd, k0, k1, k2, k3, k5, newId, hC⟩ := hC
  unfold isInstance
  repeat (first | (with_reducible refine wpAny_loadPart_at he ?_; rw [hcls]) | (with_reducible refine wpAny_isSubtype_exc hC ?_; rw [hno]) | wp_step)
  exact hq
end
section
variable {w : World} {A : Around} {s : Shared} {α : Type}
theorem gen_wake {E : Value → Shared → Prop} {Q : α → Shared → Prop} {gi : Nat} {gs : GenState} {l : List Value} {k : GenResult → Sem α} {c₀ : Code} {t₀ : Sem Fin} {fs₀ : List Frame} (hg : s.gens[gi]? = some gs)
    (hgs : (gs = .fresh c₀ ∧ t₀ = denote table c₀ ∧ fs₀ = []) ∨ (∃ k₀ l₀ p₀ cl, gs = .suspended k₀ l₀ c₀ p₀ fs₀ cl ∧ t₀ = k₀ (.send .none)))
    (x : SegX (model PG w) A c₀ t₀ fs₀ (s.setGen gi .running) (fun e s₁ => wpAny (model PG w) A (k e.result) Q E (s₁.setGen gi e.genState))) :
    wpAny (model PG w) A (.resume gi (.send .none) l k) Q E s := by
  intro Γ p hΓ
  refine wake_any α PG w (A := A) hg (r := .send .none) (c₀ := c₀) (t₀ := t₀) (fs₀ := fs₀) ?_ (fun Γ => Γ.In A) (fun _ h => h) (x.mono fun _ _ h Γ p hC => h Γ p hC) Γ p hΓ
  rcases hgs with ⟨h1, h2, h3⟩ | ⟨k₀, l₀, p₀, cl, h1, h2⟩
  · exact .inl ⟨h1, rfl, h2, h3⟩
  · exact .inr ⟨k₀, l₀, p₀, cl, h1, h2⟩

theorem next_gen {E : Value → Shared → Prop} {Q : Option Value → Shared → Prop} {a : Addr} {gi : Nat} {gs : GenState} {c₀ : Code} {t₀ : Sem Fin} {fs₀ : List Frame} (hh : A.handled = none) (hl : s.heap.NoLimit) (hroom : A.depth < recursionLimit)
    (hg : s.heap.IsGen a gi) (hgs : s.gens[gi]? = some gs)
    (hwk : (gs = .fresh c₀ ∧ t₀ = denote table c₀ ∧ fs₀ = []) ∨ (∃ k₀ l₀ p₀ cl, gs = .suspended k₀ l₀ c₀ p₀ fs₀ cl ∧ t₀ = k₀ (.send .none)))
    (x : SegX (model PG w) A.in1 c₀ t₀ fs₀ (s.setGen gi .running) (fun e s₁ => match e with
      | .ret (.ok f) => f = .ret .none ∧ ∀ h', Grow s₁.heap h' → Q none { s₁.setGen gi .finished with heap := h' }
      | .ret (.error v) => ∃ e C oe bm, v = .ref e ∧ s₁.heap.IsGen a gi ∧ IsCls s₁.heap C bm ∧ s₁.heap.get? e = some oe ∧ oe.cls = .ref C ∧ (Value.ref C :: bm).contains (.type "StopIteration") = false ∧ E v (s₁.setGen gi .finished)
      | .susp v g l k c p fs => Q (some v) (s₁.setGen gi (End.susp v g l k c p fs).genState))) :
    wpAny (model PG w) A (pyNext (.ref a)) Q E s := by
  unfold pyNext
  refine wpAny_bind (wpAny_attempt (wpAny_callSpecial?_slot (name := Str.ofString "__next__") hg.typeIs slot_gen_next
    (wpAny_call_entry slot_gen_next hg.typeIs entry_gen_next ?_ (args_gen_next _))))
  show wpAny _ _ (Builtin.Generator.genWake (.ref a) (.send .none)) _ _ s
  unfold Builtin.Generator.genWake
  refine wpAny_bind (wpAny_holding (wpAny_genNumber hg (wpAny_bind (wpAny_genState hgs ?_))))
  cases gs with
  | running => rcases hwk with ⟨h1, _⟩ | ⟨k₀, l₀, p₀, cl, h1, _⟩ <;> cases h1
  | finished => rcases hwk with ⟨h1, _⟩ | ⟨k₀, l₀, p₀, cl, h1, _⟩ <;> cases h1
  | _ =>
    refine wpAny_bind (wpAny_roomToWake hl hroom ?_)
    show wpAny _ _ (.resume gi (.send .none) [] _) _ _ s
    refine gen_wake hgs hwk (x.mono fun e s₁ he => ?_)
    cases e with
    | susp v g l k c p fs => exact wpAny_pure ⟨v, rfl, wpAny_pure he⟩
    | ret r =>
      cases r with
      | ok f =>
        obtain ⟨rfl, hp⟩ := he
        show wpAny _ _ (newExc (.type "StopIteration") [] >>= _) _ _ _
        refine wpAny_bind ?_
        simp only [newExc, newTuple]
        refine wpAny_bind (wpAny_newObj_type ?_ (by size_fits))
        refine wpAny_bind (m := firstArgMember _ _) (wpAny_of_eq (a := Value.none) (by first | rfl | (simp only [firstArgMember]; rfl)) ?_)
        refine wpAny_newObj_type ?_ (by size_fits)
        simp only [raiseNew]
        refine wpAny_bind (wpAny_bind (wpAny_handled ?_))
        rw [show A.in1.handled = none from hh]
        refine wpAny_throw ?_
        refine wpAny_bind (wpAny_isInstance (T := "StopIteration") (b := true) ⟨_, Heap.get?_push_size _ rfl, rfl⟩ isSubtype_stop ?_)
        exact wpAny_pure (hp _ fun b o hb => Heap.get?_push_of_some _ (Heap.get?_push_of_some _ hb))
      | error v =>
        obtain ⟨e, C, oe, bm, rfl, ⟨o, nm, qn, ho, hc, hd, hsl⟩, hC, hoe, hcls, hno, hE⟩ := he
        show wpAny _ _ (Builtin.Generator.genLeft (.ref a) (.ref e)) _ _ _
        unfold Builtin.Generator.genLeft Builtin.Generator.madeByALambda
        refine wpAny_bind (wpAny_bind (wpAny_load ho (wpAny_pure ?_)))
        refine wpAny_bind (notStop hC hoe hcls hno ?_)
        rw [Bool.and_false]
        show wpAny _ _ (Builtin.Generator.genEscaped (.ref e)) _ _ _
        unfold Builtin.Generator.genEscaped
        refine wpAny_bind (notStop hC hoe hcls hno ?_)
        refine wpAny_throw ?_
        exact wpAny_bind (notStop hC hoe hcls hno (wpAny_throw hE))
end
end Mine
namespace Mine
theorem my_meta_list : typeOf (.type "list") = pure (.type "type") := by kernel_rfl
theorem my_sub_list : isSubtype (.type "list") (.type "list") = pure true := by rw [isSubtype_type]; kernel_rfl
section
variable {w : World} {A : Around} {s : Shared} {env : Env} {P : End → Shared → Prop}
theorem xg_func {body : List Stmt} {fs} (h : SegX (model PG w) A (.func body env) ((execs body env).wrap KFn (HFn env) id id) fs s P) : SegX (model PG w) A (.func body env) (denote table (.func body env)) fs s P := by
  refine s_skim PG w A _ fs P s _ 1 ?_
  show SegX _ A _ (((execs body env).onRaise (leaving env)) >>= _) fs s P
  rw [Sem.onRaise_eq_wrap, Sem.bind_eq_wrap', Sem.wrap_wrap]
  refine s_eq PG w A _ fs P s _ _ (Sem.wrap_congr (execs body env) id id (K' := KFn) (H' := HFn env) (fun f => by cases f <;> rfl) (fun e => by rw [Sem.bind_eq_wrap, Sem.wrap_wrap]; rfl)) h

theorem leaves_held' {M : Model} {E : Value → Shared → Prop} {base : Heap} {env : Env} {outer : List Env} {L e : Addr} {cls a0 : Value} {Q : Unit → Shared → Prop} (hf : env.frame = some L)
    (hh : Heap.HeldW base (env :: outer) e cls a0 L s.heap) (hQ : ∀ h', Heap.FlyingW base outer e cls a0 h' → s.heap.UpToSlots h' → Q () { s with heap := h' }) : wpAny M A (leaving env (.ref e)) Q E s := by
  unfold leaving
  refine wpAny_bind (wpAny_noteFrame_againW hf hh.2.2.2 ?_)
  refine wpAny_landsW hh fun h' hfl hu => ?_
  obtain ⟨k1, k2, ⟨_, _, k3⟩, k4⟩ := hfl
  exact hQ h' ⟨k1, k2, k3, k4⟩ hu

/-- what runs behind the loop's end -/
noncomputable def kfOf (env : Env) (K : Flow → Sem Fin) (H : Value → Sem Fin) (gd : Bool → Bool) (lv : List Value → List Value) : Result → Sem Fin := fun r => ((match r with | .ok f => (.pure f : Sem Flow) | .error e => .raise e).onRaise fun (x : Value) => do
        if (← field x 1) == Value.none then unsupported "frame.own-activation:exception-without-traceback"
        setFlight x env.frame).wrap K H gd lv
theorem xg_for {tgt iter : Expr} {body orelse : List Stmt} {pos : Pos} {K : Flow → Sem Fin} {H : Value → Sem Fin} {gd lv} {c : Code} {fs}
    (h : wpAny (model PG w) (A.over c fs) (eval iter env) (fun x s1 => wpAny (model PG w) (A.over c fs) (pyIter x) (fun it s2 => ∀ p, SegX (model PG w) A (.forLoop tgt it body orelse env) (denote table (.forLoop tgt it body orelse env)) (.ret (kfOf env K H gd lv) none (gd false) (lv []) c p [] :: fs) s2 P) (fun _ _ => False) s1) (fun _ _ => False) s)
    (hs : ∀ x, foldedSetIterable iter env x = pure x := by intro _; rfl) :
    SegX (model PG w) A c ((exec (.For tgt iter body orelse pos) env).wrap K H gd lv) fs s P := by
  rw [exec_For]
  refine xg_bind (wpAny_standAt (xg_bind (wpAny_mono h (fun x s1 h1 => xg_bind (wpAny_of_eq (hs x) (xg_bind (wpAny_standAt (xg_bind (wpAny_holding (wpAny_mono h1 (fun it s2 h2 => ?_) fun _ _ q => q.elim))))))) fun _ _ q => q.elim)))
  exact s_call PG w A c fs P s2 _ _ _ _ _ h2

theorem xg_raised {α : Type} {N : Value → Sem Unit} {K : α → Sem Fin} {H : Value → Sem Fin} {gd lv} {c : Code} {fs} {e : Value} (h : SegX (model PG w) A c ((N e).wrap (fun _ => H e) H gd lv) fs s P) :
    SegX (model PG w) A c (((Sem.raise e : Sem α).onRaise N).wrap K H gd lv) fs s P := xg_onRaise h
theorem fsOk_esv {L Lw : Addr} : FsOk w L Lw (kfOf (esvEnv L) (fun f => match f with | .next => (execs esvRest (esvEnv L)).wrap KFn (HFn (esvEnv L)) id id | f => KFn f) (HFn (esvEnv L)) id id) where
  ok h := h
  err {A P b h g d t os e cls a0} hh hP := by
    show SegX _ A _ (Sem.wrap _ _ _ _ ((Sem.raise _).onRaise _)) _ _ _
    refine xg_raised ?_
    refine xg_wrap (came_held rfl hh fun h1 hh1 u1 => ?_)
    refine xg_wrap (leaves_held' rfl hh1 fun h2 hf u2 => ?_)
    exact s_end PG w A _ _ _ (.error (.ref e)) _ rfl (hP h2 hf (u1.trans u2))
end
end Mine
namespace Mine
theorem TagIn.fresh {W : List Addr} {h : Heap} {a it : Addr} {c v} (x : TagIn W h a c v) (hn : h.get? it = none) : TagIn (it :: W) h a c v := by
  obtain ⟨dx, o, p, q, r1, r2⟩ := x
  refine ⟨dx, o, p, q, ?_, ?_⟩
  · intro m
    rcases List.mem_cons.mp m with e | e
    · subst e; rw [hn] at p; cases p
    · exact r1 e
  · intro m
    rcases List.mem_cons.mp m with e | e
    · subst e; rw [hn] at q; cases q
    · exact r2 e
theorem TagsAt.fresh {W : List Addr} {h : Heap} {lst it : Addr} {pl : List (Int × PV)} (x : TagsAt W h lst pl) (hn : h.get? it = none) : TagsAt (it :: W) h lst pl := by
  obtain ⟨n, items, p, q, r⟩ := x
  refine ⟨fun m => ?_, items, p, q, fun i c pv e => let ⟨a, tc, tv, u, v⟩ := r i c pv e; ⟨a, tc, tv, u, v.fresh hn⟩⟩
  rcases List.mem_cons.mp m with e | e
  · subst e; obtain ⟨o, ho, _⟩ := p; rw [hn] at ho; cases ho
  · exact n e
def st0 (dx : Str) : GS := { free := dx == ("XRECORD" : Str), fin := none, data := false, level := 0, emb := false }
noncomputable def kfE (L : Addr) : Result → Sem Fin := kfOf (esvEnv L) (fun f => match f with | .next => (execs esvRest (esvEnv L)).wrap KFn (HFn (esvEnv L)) id id | f => KFn f) (HFn (esvEnv L)) id id
section
variable {w : World} {A : Around} {b h : Heap} {W : List Addr} {g : Array GenState} {d : Drawn} {t : Nat} {os : OsState} {L lst : Addr} {dx : Str} {pl : List (Int × PV)} {P : End → Shared → Prop}
theorem esv_start (cA : Calm (A.over (cE1 L) [])) (G : Glo w b) (hb : ∀ x ∈ W, b.get? x = none) (B : Grow b h) (LW : L ∈ W) (F : Loc h L [("tags", .ref lst)]) (T : TagsAt W h lst pl) (hd : ∃ c, pl[0]? = some (c, .s dx))
    (go : ∀ it h1 h' t' k pf, Ext [L] h h1 → h1.get? it = none → Grow h1 h' → Loc h' L (gl0 lst dx (st0 dx) k) → h'.IsListIter it lst 0 →
      SegX (model PG w) A (cE L it) (denote table (cE L it)) (fsE L (kfE L) pf) ⟨h', g, d, t', os⟩ P) :
    SegX (model PG w) A (cE1 L) (denote table (cE1 L)) [] ⟨h, g, d, t, os⟩ P := by
  have s : ∀ n ∈ [L], n ∈ W := fun n m => List.mem_singleton.mp m ▸ LW
  have kb : ∀ {h'}, Ext [L] h h' → Grow b h' := fun e => e.keepBase (fun n m => hb n (s n m)) B
  obtain ⟨c0, hp0⟩ := hd
  refine xg_func ?_
  show SegX _ _ _ (Sem.wrap _ _ _ _ (execs ([.Assert (.Call (.Name _ _) [.Name _ _, .Name _ _] [] _) none _, .Assign [.Name _ _] (.Attribute (.Subscript (.Name _ _) (.Constant _ _ _) _) _ _) _, .Assign [.Name _ _] (.Compare (.Name _ _) [.Eq] [.Constant _ _ _] _) _, .Assign [.Name _ _] (.Constant _ _ _) _,
    .Assign [.Name _ _] (.Constant _ _ _) _, .Assign [.Name _ _] (.Constant _ _ _) _, .Assign [.Name _ _] (.Constant _ _ _) _, .Assign [.Name _ _] (.Constant _ _ _) _, .Assign [.Name _ _] (.Constant _ _ _) _, .For esvTgt (.Name _ _) esvLoop [] _] ++ esvRest) _)) _ _ _
  obtain ⟨hlw, items, hil, hsz, hit⟩ := id T
  have hty : Shared.TypeIs ⟨h, g, d, t, os⟩ (.ref lst) "list" := hil.typeIs (s := ⟨h, g, d, t, os⟩)
  refine xg_stmt (wpAny_Assert_holds (wpAny_isTrue_value (wpAny_Call_ofName (ev_bi (G.grow B) (v := .builtin "isinstance") (by kernel_rfl!) (by kernel_rfl!) (Calls.callWith_builtin rfl (Calls.evalArgs_plain (Calls.spliced_cons (ev_loc F rfl (Calls.spliced_cons (ev_bi (G.grow B) (v := .type "list") (by kernel_rfl!) (by kernel_rfl!)
    (Calls.spliced_nil (call_isinstance_yes hty my_meta_list my_sub_list (wpAny_truthy_bool ⟨rfl, ?_⟩)))))))))))))
  obtain ⟨a0, tc0, tv0, hi0, T0⟩ := hit 0 c0 _ hp0
  refine xg_stmt (wpAny_Assign_Name (Attribute_any_ (Subscript_Constant (ev_loc F rfl (ev_int ⟨"list", "list.__getitem__", slot_list_getitem.lookup, hil.typeIs, wpAny_getItem_list (t := t) hil (by decide) (by decide) hi0 (attr_value (pv := .s dx) cA (G.grow B) T0.tag fun h2 t2 k2 => ?_)⟩)))))
  have B2 := B.trans k2
  refine st_loc (F.grow k2) fun h3 t3 F3 s3 => ?_
  have e3 : Ext [L] h h3 := k2.ext.trans (extOf s3)
  refine xg_stmt (wpAny_Assign_Name (wpAny_Compare1 (ev_loc (v := .str dx _) F3 rfl (ev_str (eq_str ?_)))))
  refine st_loc F3 fun h4 t4 F4 s4 => ?_
  have e4 := e3.trans (extOf s4)
  refine xg_stmt (wpAny_Assign_Name (ev_str (st_loc F4 fun h5 t5 F5 s5 => ?_)))
  have e5 := e4.trans (extOf s5)
  refine xg_stmt (wpAny_Assign_Name (ev_bool (st_loc F5 fun h6 t6 F6 s6 => ?_)))
  have e6 := e5.trans (extOf s6)
  refine xg_stmt (wpAny_Assign_Name (ev_bool (st_loc F6 fun h7 t7 F7 s7 => ?_)))
  have e7 := e6.trans (extOf s7)
  refine xg_stmt (wpAny_Assign_Name (ev_int (st_loc F7 fun h8 t8 F8 s8 => ?_)))
  have e8 := e7.trans (extOf s8)
  refine xg_stmt (wpAny_Assign_Name (ev_str (st_loc F8 fun h9 t9 F9 s9 => ?_)))
  have e9 := e8.trans (extOf s9)
  refine xg_stmt (wpAny_Assign_Name (ev_bool (st_loc F9 fun h10 t10 F10 s10 => ?_)))
  have e10 := e9.trans (extOf s10)
  refine xg_cons (xg_for (ev_loc F10 rfl (wpAny_pyIter_list (isList_ext hil e10 (fun m => hlw (s _ m))) fun p => ?_)))
  refine go _ h10 _ _ (tv0, t4, t7, t8) p e10 (Heap.get?_none_of_le (Nat.le_refl _)) (fun b o e => Heap.get?_push_of_some _ e) (Loc.grow (F10.weak ?_) (fun b o e => Heap.get?_push_of_some _ e)) ⟨_, Heap.get?_push_size _ rfl, rfl, rfl⟩
  exact ⟨rfl, rfl, rfl, rfl, rfl, rfl, rfl, rfl, rfl, trivial⟩
end
end Mine
namespace Mine
/-- tuples stay -/
def TupK (h h' : Heap) : Prop := ∀ a o, h.get? a = some o → o.cls = .type "tuple" → (∃ vs n, o.data = .seq vs n) → ∃ o', h'.get? a = some o' ∧ o'.cls = o.cls ∧ o'.data = o.data
def ListK (h h' : Heap) : Prop := ∀ a items, h.IsList a items → h'.IsList a items
theorem TupK.trans {a b c : Heap} (x : TupK a b) (y : TupK b c) : TupK a c := fun n o e q r => by
  obtain ⟨o1, e1, q1, r1⟩ := x n o e q r
  obtain ⟨o2, e2, q2, r2⟩ := y n o1 e1 (q1.trans q) (by rw [r1]; exact r)
  exact ⟨o2, e2, q2.trans q1, r2.trans r1⟩
theorem ListK.trans {a b c : Heap} (x : ListK a b) (y : ListK b c) : ListK a c := fun n i e => y n i (x n i e)
theorem tupK_grow {a b : Heap} (x : Grow a b) : TupK a b := fun n o e _ _ => ⟨o, x n o e, rfl, rfl⟩
theorem listK_grow {a b : Heap} (x : Grow a b) : ListK a b := fun n i ⟨o, e, r⟩ => ⟨o, x n o e, r⟩
theorem tupK_slots {a b : Heap} (x : a.UpToSlots b) : TupK a b := fun n o e _ ⟨vs, m, q⟩ => by
  obtain ⟨sl, hs⟩ := x n o e fun ws p => by rw [q] at p; cases p
  exact ⟨_, hs, rfl, rfl⟩
theorem listK_slots {a b : Heap} (x : a.UpToSlots b) : ListK a b := fun n i ⟨o, e, c, m, q⟩ => by
  obtain ⟨sl, hs⟩ := x n o e fun ws p => by rw [q] at p; cases p
  exact ⟨_, hs, c, m, q⟩
def SeqK (h h' : Heap) : Prop := ∀ a o, h.get? a = some o → (∃ vs n, o.data = .seq vs n) → ∃ sl, h'.get? a = some { o with slots := sl }
theorem SeqK.trans {a b c : Heap} (x : SeqK a b) (y : SeqK b c) : SeqK a c := fun n o e r => by
  obtain ⟨s1, e1⟩ := x n o e r
  obtain ⟨s2, e2⟩ := y n _ e1 r
  exact ⟨s2, e2⟩
theorem seqK_grow {a b : Heap} (x : Grow a b) : SeqK a b := fun n o e _ => ⟨o.slots, x n o e⟩
theorem seqK_slots {a b : Heap} (x : a.UpToSlots b) : SeqK a b := fun n o e ⟨vs, m, q⟩ => x n o e fun ws p => by rw [q] at p; cases p
/-- an address that holds no sequence -/
def NoSeq (h : Heap) (a : Addr) : Prop := ∀ o, h.get? a = some o → ∀ vs n, o.data ≠ .seq vs n
theorem noSeq_loc {h : Heap} {L : Addr} {l} (x : Loc h L l) : NoSeq h L := by
  obtain ⟨m, ⟨o, es, ep, ho, hd, _⟩, _⟩ := x
  intro o' ho' vs n q
  rw [ho] at ho'; cases ho'; rw [hd] at q; cases q
theorem noSeq_iter {h : Heap} {it l : Addr} {i} (x : h.IsListIter it l i) : NoSeq h it := by
  obtain ⟨o, ho, _, hd⟩ := x
  intro o' ho' vs n q
  rw [ho] at ho'; cases ho'; rw [hd] at q; cases q
theorem noSeq_none {h : Heap} {a : Addr} (x : h.get? a = none) : NoSeq h a := fun o q => by rw [x] at q; cases q
theorem tupK_ext {W : List Addr} {a b : Heap} (x : Ext W a b) (k : ∀ n ∈ W, NoSeq a n) : TupK a b := fun n o e _ ⟨vs, m, q⟩ => ⟨o, x n o (fun mm => k n mm o e vs m q) e, rfl, rfl⟩
theorem listK_ext {W : List Addr} {a b : Heap} (x : Ext W a b) (k : ∀ n ∈ W, NoSeq a n) : ListK a b := fun n i ⟨o, e, c, m, q⟩ => ⟨o, x n o (fun mm => k n mm o e _ _ q) e, c, m, q⟩

theorem seqK_ext {W : List Addr} {a b : Heap} (x : Ext W a b) (k : ∀ n ∈ W, NoSeq a n) : SeqK a b := fun n o e ⟨vs, m, q⟩ => ⟨o.slots, x n o (fun mm => k n mm o e vs m q) e⟩
structure Young (w : World) (b : Heap) (W : List Addr) (L Lw told lst : Addr) (pl : List (Int × PV)) (dx : Str) (h : Heap) : Prop where
  G : Glo w b
  hb : ∀ x ∈ W, b.get? x = none
  B : Grow b h
  F : Loc h L [("tags", .ref lst)]
  T : TagsAt W h lst pl
  hd : ∃ c, pl[0]? = some (c, .s dx)
  LW : L ∈ W
  OW : Lw ∈ W
  LO : L ≠ Lw
  O : ∃ lw, Loc h Lw lw
  TW : told ∈ W
  TL : told ≠ L
  TO : told ≠ Lw
  Ti : ∃ items, h.IsList told items
structure Asleep (w : World) (b : Heap) (W : List Addr) (L it Lw told lst : Addr) (pl : List (Int × PV)) (dx : Str) (i : Nat) (st : GS) (h : Heap) : Prop where
  P : GP w b (it :: W) L it Lw lst pl dx st h
  I : h.IsListIter it lst i
  TW : told ∈ W
  TL : told ≠ L
  TO : told ≠ Lw
  TI : told ≠ it
  OW : Lw ∈ W
def Sleep (w : World) (b : Heap) (W : List Addr) (L Lw told lst : Addr) (pl : List (Int × PV)) (dx : Str) (i : Nat) (st : GS) (h : Heap) (gs : GenState) : Prop :=
  (i = 0 ∧ st = st0 dx ∧ gs = .fresh (cE1 L) ∧ Young w b W L Lw told lst pl dx h) ∨
  (∃ it k l p pf, gs = .suspended k l (cE L it) p (fsE L (kfE L) pf) false ∧ Awake w (cE L it) (fsE L (kfE L) pf) k ∧ Asleep w b W L it Lw told lst pl dx i st h)
/-- what the loop around the generator may change -/
theorem Sleep.ext {w : World} {b h h' : Heap} {W : List Addr} {L Lw told lst : Addr} {pl : List (Int × PV)} {dx : Str} {i : Nat} {st : GS} {gs : GenState} (S : Sleep w b W L Lw told lst pl dx i st h gs)
    (k : Ext [Lw, told] h h') (O : ∃ lw, Loc h' Lw lw) (Ti : ∃ items, h'.IsList told items) : Sleep w b W L Lw told lst pl dx i st h' gs := by
  rcases S with ⟨e1, e2, e3, Y⟩ | ⟨it, kk, l, p, pf, e1, e2, Z⟩
  · have s : ∀ n ∈ [Lw, told], n ∈ W := fun n m => by
      rcases List.mem_cons.mp m with e | m
      · exact e ▸ Y.OW
      · exact List.mem_singleton.mp m ▸ Y.TW
    refine .inl ⟨e1, e2, e3, { Y with B := k.keepBase (fun n m => Y.hb n (s n m)) Y.B, F := ?_, T := Y.T.ext k s, O := O, Ti := Ti }⟩
    obtain ⟨m, hn, hl⟩ := Y.F
    obtain ⟨o, es, ep, ho, r⟩ := hn
    exact ⟨m, ⟨o, es, ep, k _ _ (by simp [Y.LO, Y.TL.symm]) ho, r⟩, hl⟩
  · have s : ∀ n ∈ [Lw, told], n ∈ it :: W := fun n m => by
      rcases List.mem_cons.mp m with e | m
      · exact e ▸ Z.P.OW
      · exact List.mem_singleton.mp m ▸ List.mem_cons_of_mem _ Z.TW
    refine .inr ⟨it, kk, l, p, pf, e1, e2, { Z with P := { Z.P with B := k.keepBase (fun n m => Z.P.hb n (s n m)) Z.P.B, F := ?_, T := Z.P.T.ext k s, O := O }, I := ?_ }⟩
    · obtain ⟨kt, m, hn, hl⟩ := Z.P.F
      obtain ⟨o, es, ep, ho, r⟩ := hn
      exact ⟨kt, m, ⟨o, es, ep, k _ _ (by simp [Z.P.LO, Z.TL.symm]) ho, r⟩, hl⟩
    · obtain ⟨o, ho, r⟩ := Z.I
      exact ⟨o, k _ _ (by simp [Z.P.IO, Z.TI.symm]) ho, r⟩
end Mine
namespace Mine
theorem loc_ext {W : List Addr} {h h' : Heap} {L : Addr} {l} (x : Loc h L l) (k : Ext W h h') (n : L ∉ W) : Loc h' L l := by
  obtain ⟨m, ⟨o, es, ep, ho, r⟩, hl⟩ := x
  exact ⟨m, ⟨o, es, ep, k _ _ n ho, r⟩, hl⟩
structure KS (Lw : Addr) (h h' : Heap) : Prop where
  q : SeqK h h'
  t : TupK h h'
  l : ListK h h'
  o : ∀ lw, Loc h Lw lw → Loc h' Lw lw
theorem KS.trans {Lw : Addr} {a b c : Heap} (x : KS Lw a b) (y : KS Lw b c) : KS Lw a c := ⟨x.q.trans y.q, x.t.trans y.t, x.l.trans y.l, fun l e => y.o l (x.o l e)⟩
theorem ks_ext {W : List Addr} {Lw : Addr} {h h' : Heap} (x : Ext W h h') (k : ∀ n ∈ W, NoSeq h n) (n : Lw ∉ W) : KS Lw h h' := ⟨seqK_ext x k, tupK_ext x k, listK_ext x k, fun _ e => loc_ext e x n⟩
theorem ks_slots {Lw : Addr} {h h' : Heap} (x : h.UpToSlots h') : KS Lw h h' := ⟨seqK_slots x, tupK_slots x, listK_slots x, fun _ e => e.slots x⟩
theorem ks_grow {Lw : Addr} {h h' : Heap} (x : Grow h h') : KS Lw h h' := ⟨seqK_grow x, tupK_grow x, listK_grow x, fun _ e => e.grow x⟩
def Fails (pl : List (Int × PV)) (i : Nat) (st : GS) (C : Addr) : Prop := (∃ c pv, pl[i]? = some (c, pv) ∧ tStep st c pv = .error C) ∨ (pl[i]? = none ∧ endStep st = .error C)
section
variable {w : World} {A : Around} {b h h' : Heap} {W : List Addr} {g : Array GenState} {d : Drawn} {t : Nat} {os : OsState} {L it Lw told lst : Addr} {dx : Str} {st : GS} {pl : List (Int × PV)} {i : Nat} {pf : Pos} {P : End → Shared → Prop}
theorem esv_seg (cA : Calm (A.over (cE L it) (fsE L (kfE L) pf))) (cA1 : Calm (A.over (cE1 L) [])) (hfr : ((A.over (cE L it) (fsE L (kfE L) pf))).frames = some [esvEnv L, lawEnv Lw]) (hfr1 : ((A.over (cE1 L) [])).frames = some [esvEnv L, lawEnv Lw])
    (Z : Asleep w b W L it Lw told lst pl dx i st h) (hK : ∀ (i : Nat) c pv, pl[i]? = some (c, pv) → KindOk c pv) (hdl : dx.length ≤ 200)
    (PY : ∀ c pv, pl[i]? = some (c, pv) → ∀ st' a kk l p h' t', tStep st c pv = .ok st' → Awake w (cE L it) (fsE L (kfE L) pf) kk → Asleep w b W L it Lw told lst pl dx (i + 1) st' h' → (∃ tc tv, IsTag h' a (.int c tc) (pv.val tv)) → KS Lw h h' →
      P (.susp (.ref a) false l kk (cE L it) p (fsE L (kfE L) pf)) ⟨h', g, d, t', os⟩)
    (PN : pl[i]? = none → endStep st = .ok () → ∀ h' t', KS Lw h h' → Grow b h' → P (.ret (.ok (.ret .none))) ⟨h', g, d, t', os⟩)
    (PE : ∀ C e h' t' a0, Fails pl i st C → KS Lw h h' → Heap.FlyingW b [lawEnv Lw] e (.ref C) a0 h' → P (.ret (.error (.ref e))) ⟨h', g, d, t', os⟩) :
    SegX (model PG w) A (cE L it) (denote table (cE L it)) (fsE L (kfE L) pf) ⟨h, g, d, t, os⟩ P := by
  obtain ⟨k, F⟩ := Z.P.F
  have nL : NoSeq h L := noSeq_loc F
  have nI : NoSeq h it := noSeq_iter Z.I
  have ks2 : ∀ {h'}, Ext [L, it] h h' → KS Lw h h' := fun x => ks_ext x (fun n m => by
    rcases List.mem_cons.mp m with e | m
    · exact e ▸ nL
    · exact List.mem_singleton.mp m ▸ nI) (by simp [Z.P.LO.symm, Z.P.IO.symm])
  cases hp : pl[i]? with
  | some q =>
    obtain ⟨c, pv⟩ := q
    refine esv_turn cA hfr fsOk_esv Z.P Z.I hp (hK i c pv hp) hdl (fun st' a kk l p h' t' e aw x S I T => ?_) fun C h1 e h' t' a0 er x u f => ?_
    · obtain ⟨tc, tv, T⟩ := T
      exact PY c pv hp st' a kk l p h' t' e aw { P := S, I := I, TW := Z.TW, TL := Z.TL, TO := Z.TO, TI := Z.TI, OW := Z.OW } ⟨tc, tv, T.tag⟩ (ks2 x)
    · exact PE C e h' t' a0 (.inl ⟨c, pv, hp, er⟩) ((ks2 x).trans (ks_slots u)) f
  | none =>
    obtain ⟨hlW, items, hil, hsz, hit⟩ := Z.P.T
    have hin : items[i]? = none := by
      rw [Array.getElem?_eq_none_iff, hsz]; exact List.getElem?_eq_none_iff.mp hp
    refine xg_forTurn (wpAny_pyNext_list_end cA.handled Z.I hil hin fun h1 s1 => xg_block (fsOk_esv.ok (Lw := Lw) ?_))
    have x1 : Ext [it] h h1 := fun n o m q => s1 n o (fun mm => m (List.mem_singleton.mpr mm)) q
    have F1 : Loc h1 L (gl0 lst dx st k) := loc_ext F x1 (by simp [Z.P.LI])
    have B1 : Grow b h1 := x1.keepBase (fun n m => Z.P.hb n (List.mem_singleton.mp m ▸ Z.P.IW)) Z.P.B
    have O1 : ∃ lw, Loc h1 Lw lw := let ⟨lw, o⟩ := Z.P.O; ⟨lw, loc_ext o x1 (by simp [Z.P.IO.symm])⟩
    have k1 : KS Lw h h1 := ks2 (x1.mono (by simp))
    refine xg_wrap (esv_end cA1 (Z.P.G.grow B1) F1 hdl (fun t2 e => ?_) fun C v s' er H => ?_)
    · exact s_end PG w A _ _ _ (.ok (.ret .none)) _ rfl (PN hp e h1 t2 k1 B1)
    · obtain ⟨h2, h3, e, t', args, l', rfl, rfl, x2, F2, hm⟩ := H
      obtain ⟨lw, O1⟩ := O1
      have O2 : Loc h2 Lw lw := loc_ext O1 x2 (by simp [Z.P.LO.symm])
      have B2 : Grow b h2 := x2.keepBase (fun n m => Z.P.hb n (List.mem_singleton.mp m ▸ Z.P.LW)) B1
      refine xg_wrap (wpAny_leaves_madeW (base := b) hfr1 rfl (fun _ _ q => B2 _ _ q) (ff2 F2 O2 (Z.P.hb _ Z.P.LW) (Z.P.hb _ Z.P.OW)) hm fun h4 tt hf _ _ u => ?_)
      refine s_end PG w A _ _ _ (.error (.ref e)) _ rfl (PE C e h4 _ _ (.inr ⟨hp, er⟩) (k1.trans ((ks_ext x2 (fun n m => List.mem_singleton.mp m ▸ noSeq_loc F1) (by simp [Z.P.LO.symm])).trans (ks_slots ((Heap.UpToSlots.of_keeps hm.keeps).trans u)))) hf)
end
end Mine
namespace Mine
structure CalmL (A : Around) (Lw : Addr) : Prop where
  handled : A.handled = none
  depth : A.depth ≤ 440
  units : A.units ≤ 70
  frames : A.frames = some [lawEnv Lw]
theorem CalmL.calm {A : Around} {Lw} (c : CalmL A Lw) : Calm A := ⟨c.handled, Nat.le_trans c.depth (by decide), Nat.le_trans c.units (by decide)⟩
section
variable {w : World} {A : Around} {b h h' : Heap} {W : List Addr} {g : Array GenState} {d : Drawn} {t : Nat} {os : OsState} {L it Lw told lst ga : Addr} {dx : Str} {st : GS} {pl : List (Int × PV)} {i gi : Nat} {gs : GenState} {pf : Pos}
theorem CalmL.o1 (c : CalmL A Lw) : Calm (A.in1.over (cE L it) (fsE L (kfE L) pf)) := ⟨c.handled, by have := c.depth; show A.depth + 1 + 0 ≤ 450; omega, by have := c.units; show A.units + 1 + 3 + 0 ≤ 90; omega⟩
theorem CalmL.o2 (c : CalmL A Lw) : Calm (A.in1.over (cE1 L) []) := ⟨c.handled, by have := c.depth; show A.depth + 0 + 1 ≤ 450; omega, by have := c.units; show A.units + 1 + 0 + 3 ≤ 90; omega⟩
theorem CalmL.f1 (c : CalmL A Lw) : (A.in1.over (cE L it) (fsE L (kfE L) pf)).frames = some [esvEnv L, lawEnv Lw] := by
  show pushEnvs [] (pushEnvs [esvEnv L] A.frames) = _
  rw [c.frames]; rfl
theorem CalmL.f2 (c : CalmL A Lw) : (A.in1.over (cE1 L) []).frames = some [esvEnv L, lawEnv Lw] := by
  show pushEnvs [esvEnv L] (pushEnvs [] A.frames) = _
  rw [c.frames]; rfl
theorem clsOf (G : Glo w h) {C : Addr} (hC : C = 56 ∨ C = 68) : IsCls h C (.ref 44 :: .ref 31 :: excMro) := by
  rcases hC with rfl | rfl
  · exact isc56 G.K
  · exact isc68 G.K
theorem tStep_cls {st c pv C} (e : tStep st c pv = .error C) : C = 56 ∨ C = 68 := by
  unfold tStep at e
  split at e
  · cases e
  · split at e
    · cases e; exact .inr rfl
    · split at e
      · cases e; exact .inl rfl
      · split at e
        · cases e; exact .inl rfl
        · cases e
theorem fails_cls {C} (e : Fails pl i st C) : C = 56 ∨ C = 68 := by
  rcases e with ⟨c, pv, _, e⟩ | ⟨_, e⟩
  · exact tStep_cls e
  · unfold endStep at e
    split at e
    · cases e; exact .inl rfl
    · split at e
      · cases e; exact .inr rfl
      · cases e
theorem esv_next {Q : Option Value → Shared → Prop} {E : Value → Shared → Prop} (c : CalmL A Lw) (G : Glo w b) (Bh : Grow b h) (Ga : b.IsGen ga gi) (hgs : g[gi]? = some gs) (S : Sleep w b W L Lw told lst pl dx i st h gs)
    (hK : ∀ (i : Nat) c pv, pl[i]? = some (c, pv) → KindOk c pv) (hdl : dx.length ≤ 200)
    (hY : ∀ c pv, pl[i]? = some (c, pv) → ∀ st' gs' a h' t', tStep st c pv = .ok st' → Sleep w b W L Lw told lst pl dx (i + 1) st' h' gs' → Grow b h' → (∃ tc tv, IsTag h' a (.int c tc) (pv.val tv)) → KS Lw h h' →
      Q (some (.ref a)) ⟨h', g.setIfInBounds gi gs', d, t', os⟩)
    (hN : pl[i]? = none → endStep st = .ok () → ∀ h' t', KS Lw h h' → Grow b h' → Q none ⟨h', g.setIfInBounds gi .finished, d, t', os⟩)
    (hE : ∀ C e h' t' a0, Fails pl i st C → KS Lw h h' → Heap.FlyingW b [lawEnv Lw] e (.ref C) a0 h' → E (.ref e) ⟨h', g.setIfInBounds gi .finished, d, t', os⟩) :
    wpAny (model PG w) A (pyNext (.ref ga)) Q E ⟨h, g, d, t, os⟩ := by
  have keep : ∀ {h' : Heap}, b.StaysIn h' → Grow b h' := fun k b o e => k b o e
  have eg : ∀ x : GenState, (g.setIfInBounds gi .running).setIfInBounds gi x = g.setIfInBounds gi x := fun x => by simp
  have seg : ∀ {it pf i st h₁ t₁}, Asleep w b W L it Lw told lst pl dx i st h₁ → KS Lw h h₁ →
      (∀ c pv, pl[i]? = some (c, pv) → ∀ st' gs' a h' t', tStep st c pv = .ok st' → Sleep w b W L Lw told lst pl dx (i + 1) st' h' gs' → Grow b h' → (∃ tc tv, IsTag h' a (.int c tc) (pv.val tv)) → KS Lw h h' →
        Q (some (.ref a)) ⟨h', g.setIfInBounds gi gs', d, t', os⟩) →
      (pl[i]? = none → endStep st = .ok () → ∀ h' t', KS Lw h h' → Grow b h' → Q none ⟨h', g.setIfInBounds gi .finished, d, t', os⟩) →
      (∀ C e h' t' a0, Fails pl i st C → KS Lw h h' → Heap.FlyingW b [lawEnv Lw] e (.ref C) a0 h' → E (.ref e) ⟨h', g.setIfInBounds gi .finished, d, t', os⟩) →
      SegX (model PG w) A.in1 (cE L it) (denote table (cE L it)) (fsE L (kfE L) pf) ⟨h₁, g.setIfInBounds gi .running, d, t₁, os⟩ (fun e s₁ => match e with
      | .ret (.ok f) => f = .ret .none ∧ ∀ h', Grow s₁.heap h' → Q none { s₁.setGen gi .finished with heap := h' }
      | .ret (.error v) => ∃ e C oe bm, v = .ref e ∧ s₁.heap.IsGen ga gi ∧ IsCls s₁.heap C bm ∧ s₁.heap.get? e = some oe ∧ oe.cls = .ref C ∧ (Value.ref C :: bm).contains (.type "StopIteration") = false ∧ E v (s₁.setGen gi .finished)
      | .susp v g l k c p fs => Q (some v) (s₁.setGen gi (End.susp v g l k c p fs).genState)) := by
    intro it pf i st h₁ t₁ Z k1 hY hN hE
    refine esv_seg c.o1 c.o2 c.f1 c.f2 Z hK hdl (fun c pv hp st' a kk l p h' t' e aw S T k => ?_) (fun hp e h' t' k B => ?_) fun C e h' t' a0 er k f => ?_
    · have := hY c pv hp st' (.suspended kk l (cE L it) p (fsE L (kfE L) pf) false) a h' t' e (.inr ⟨it, kk, l, p, pf, rfl, aw, S⟩) S.P.B T (k1.trans k)
      rw [← eg] at this
      exact this
    · refine ⟨rfl, fun h2 k2 => ?_⟩
      have := hN hp e h2 t' (k1.trans (k.trans (ks_grow k2))) (B.trans k2)
      rw [← eg] at this
      exact this
    · obtain ⟨oe, hoe, hcl⟩ := f.there
      have B' := keep f.1
      refine ⟨e, C, oe, _, rfl, Ga.keeps B', clsOf (G.grow B') (fails_cls er), hoe, hcl, ?_, ?_⟩
      · rcases fails_cls er with rfl | rfl <;> decide
      · have := hE C e h' t' a0 er (k1.trans k) f
        rw [← eg] at this
        exact this
  rcases S with ⟨rfl, rfl, rfl, Y⟩ | ⟨it, kk, l, p, pf, rfl, aw, Z⟩
  · refine next_gen c.handled (G.grow Bh).lim c.calm.room (Ga.keeps Bh) hgs (.inl ⟨rfl, rfl, rfl⟩) ?_
    refine esv_start c.o2 Y.G Y.hb Y.B Y.LW Y.F Y.T Y.hd fun it h1 h2 t' k pf x1 hn k2 F2 I2 => ?_
    have s : ∀ n ∈ [L], n ∈ W := fun n m => List.mem_singleton.mp m ▸ Y.LW
    have B1 : Grow b h1 := x1.keepBase (fun n m => Y.hb n (s n m)) Y.B
    obtain ⟨lw, O⟩ := Y.O
    have O1 : Loc h1 Lw lw := loc_ext O x1 (by simp [Y.LO.symm])
    have ks1 : KS Lw h h1 := ks_ext x1 (fun n m => List.mem_singleton.mp m ▸ noSeq_loc Y.F) (by simp [Y.LO.symm])
    obtain ⟨items, Ti⟩ := Y.Ti
    have Ti1 : h1.IsList told items := isList_ext Ti x1 (by simp [Y.TL])
    have ne : ∀ {a : Addr} {o : Obj}, h1.get? a = some o → a ≠ it := fun e q => by rw [q, hn] at e; cases e
    have LI : L ≠ it := by
      intro q
      obtain ⟨m, ⟨o, es, ep, ho, r⟩, hl⟩ := F2
      obtain ⟨o', ho', _, hd'⟩ := I2
      rw [q] at ho; rw [ho'] at ho; cases ho; rw [hd'] at r; exact nomatch r.1
    obtain ⟨m, ⟨oo, es, ep, hoo, r⟩, hl⟩ := O1
    obtain ⟨ot, hot, r2⟩ := Ti1
    have T1 := (Y.T.ext x1 s).fresh hn
    refine seg (i := 0) (st := st0 dx) { P := { G := Y.G, hb := fun x m => ?_, B := B1.trans k2, F := ⟨k, F2⟩, T := T1.ext (V := []) k2.ext (fun _ m => nomatch m), hd := Y.hd, LW := List.mem_cons_of_mem _ Y.LW, IW := .head _, OW := List.mem_cons_of_mem _ Y.OW, LI := LI, LO := Y.LO, IO := (ne hoo).symm, O := ⟨lw, Loc.grow ⟨m, ⟨oo, es, ep, hoo, r⟩, hl⟩ k2⟩ }, I := I2, TW := Y.TW, TL := Y.TL, TO := Y.TO, TI := ne hot, OW := Y.OW } (ks1.trans (ks_grow k2)) hY hN hE
    rcases List.mem_cons.mp m with e | e
    · subst e
      cases q : b.get? x with
      | none => rfl
      | some o => have := B1 x o q; rw [hn] at this; cases this
    · exact Y.hb x e
  · refine next_gen c.handled (G.grow Bh).lim c.calm.room (Ga.keeps Bh) hgs (.inr ⟨kk, l, p, false, rfl, rfl⟩) ?_
    exact aw _ _ _ (seg Z (ks_grow (Grow.refl _)) hY hN hE)
end
end Mine
namespace Mine
section
variable {w : World} {A : Around} {E : Value → Shared → Prop} {h : Heap} {g : Array GenState} {d : Drawn} {t : Nat} {os : OsState} {env : Env} {l : List (Str × Value)} {x : Str} {v : Value} {Q : Value → Shared → Prop} {pos : Pos}
theorem ev_locE {M : Model} (F : Loc h env.locals l) (hv : l.lookup x = some v) (hQ : Q v ⟨h, g, d, t, os⟩)
    (hk : env.scope.kind = .function := by rfl) (hl : env.kindOf x = some .local := by rfl) (hd : (x == ("__debug__" : Str)) = false := by decide) :
    wpAny M A (eval (.Name x pos) env) Q E ⟨h, g, d, t, os⟩ := by
  obtain ⟨m, hn, hm⟩ := F
  exact wpAny_Name (wpAny_loadName_local hk hl hn (hm _ _ hv) hQ) hd
theorem st_locE {M : Model} {Q : Unit → Shared → Prop} (F : Loc h env.locals l)
    (hQ : ∀ h' tk', Loc h' env.locals ((x, v) :: l) → Heap.SameBut env.locals h h' → Q () ⟨h', g, d, tk', os⟩)
    (hk : env.scope.kind = .function := by rfl) (hl : env.kindOf x = some .local := by rfl) :
    wpAny M A (storeName env x v) Q E ⟨h, g, d, t, os⟩ := by
  obtain ⟨m, hn, hm⟩ := F
  refine wpAny_storeName_local hl hn (fun h' hn' hs => hQ h' (t + 1) ⟨_, hn', fun y u e => ?_⟩ hs) (by rw [hk]; rfl)
  rw [List.lookup_cons] at e
  by_cases q : y = x
  · subst q
    rw [beq_self_eq_true] at e
    cases e
    exact if_pos rfl
  · rw [beq_eq_false_iff_ne.mpr q] at e
    show (if y = x then _ else m y) = _
    rw [if_neg q]; exact hm _ _ e
theorem ev_globE {M : Model} (G : Glo w h) (hv : nsIn (hd.heap_39 w.params) mainGlobals x = some (some v)) (hQ : Q v ⟨h, g, d, t, os⟩)
    (hg : env.globals = mainGlobals := by rfl) (hk : env.scope.kind = .function := by rfl) (hl : env.kindOf x = some .globalImplicit := by rfl) (hd : (x == ("__debug__" : Str)) = false := by decide) :
    wpAny M A (eval (.Name x pos) env) Q E ⟨h, g, d, t, os⟩ := by
  obtain ⟨mg, hn⟩ := G.g
  exact Calls.Name_function_global hk hl (Calls.loadGlobal_global (by rw [hg]; exact hn) (mg_of G.K hn hv) hQ) hd
end

abbrev cenvOf (scope : Scope) (env : Env) (C : Addr) : Env := { scope := scope, locals := C, globals := env.globals, cells := [], qual := env.qual, func := none, code := env.code, frame := env.frame, builtins := env.builtins }
theorem get_lt {h : Heap} {a : Addr} {o} (e : h.get? a = some o) : a < h.objs.size := Heap.lt_size e
section
variable {w : World} {A : Around} {E : Value → Shared → Prop} {h : Heap} {g : Array GenState} {d : Drawn} {t : Nat} {os : OsState} {env : Env} {scope : Scope} {Q : Value → Shared → Prop} {pos : Pos} {elt iter : Expr} {x x2 : Str} {px px2 tp : Pos} {items : List Value} {l : Addr}


structure LcI (h0 : Heap) (l : Addr) (J : Addr → Addr → Addr → Nat → Heap → List Value → Prop) (C I D : Addr) (i : Nat) (h : Heap) (ys : List Value) : Prop where
  grow : Grow h0 h
  it : h.IsListIter I l i
  acc : h.IsList D ys.toArray
  loc : ∃ lc, Loc h C lc
  len : ys.length = i
  j : J C I D i h ys
structure Tri (h0 : Heap) (C I D : Addr) : Prop where
  c : h0.get? C = none
  i : h0.get? I = none
  d : h0.get? D = none
  ci : C ≠ I
  cd : C ≠ D
  id : I ≠ D
theorem Tri.grow {h0 h h' : Heap} {C I D : Addr} (T : Tri h0 C I D) (B : Grow h0 h) (e : Ext [C, I, D] h h') : Grow h0 h' :=
  e.keepBase (fun x m => by
    rcases List.mem_cons.mp m with q | m
    · exact q ▸ T.c
    · rcases List.mem_cons.mp m with q | m
      · exact q ▸ T.i
      · exact List.mem_singleton.mp m ▸ T.d) B
theorem push_grow (h : Heap) (o : Obj) : Grow h (h.push o) := fun _ _ e => Heap.get?_push_of_some _ e
theorem get_size (h : Heap) : h.get? h.objs.size = none := Heap.get?_none_of_le (Nat.le_refl _)
abbrev JStep (w : World) (A : Around) (env : Env) (scope : Scope) (g : Array GenState) (d : Drawn) (os : OsState) (J : Addr → Addr → Addr → Nat → Heap → List Value → Prop) (h0 : Heap) (items : List Value) (lo : Nat → Value → List (Str × Value)) (elt : Expr) : Prop :=
  ∀ C I D i h1 t1 ys v (E : Value → Shared → Prop) (Q : Value → Shared → Prop), items[i]? = some v → J C I D i h1 ys → Grow h0 h1 → Loc h1 C (lo i v) → (∃ o, h1.get? I = some o) → (∃ o, h1.get? D = some o) →
        (∀ y h2 t2, Grow h1 h2 → J C I D (i + 1) h2 (ys ++ [y]) → Q y ⟨h2, g, d, t2, os⟩) → wpAny (model PG w) A (eval elt (cenvOf scope env C)) Q E ⟨h1, g, d, t1, os⟩
abbrev JStable (J : Addr → Addr → Addr → Nat → Heap → List Value → Prop) : Prop :=
  ∀ C I D i h1 h2 ys, J C I D i h1 ys → Ext [C, I, D] h1 h2 → J C I D i h2 ys
section
variable {J : Addr → Addr → Addr → Nat → Heap → List Value → Prop} {h0 h1 h2 h3 : Heap} {C I D : Addr} {i : Nat} {ys : List Value} {lo : Nat → Value → List (Str × Value)}
theorem LcI.next (T : Tri h0 C I D) (js : JStable J) (Z : LcI h0 l J C I D i h1 ys) (I2 : h2.IsListIter I l (i + 1)) (s : Heap.SameBut I h1 h2) :
    Grow h0 h2 ∧ h2.IsList D ys.toArray ∧ (∃ lc, Loc h2 C lc) ∧ J C I D i h2 ys := by
  have e : Ext [I] h1 h2 := extOf s
  have e3 : Ext [C, I, D] h1 h2 := e.mono (by simp)
  have D2 := isList_ext Z.acc e (by simp [T.id.symm])
  have C2 : ∃ lc, Loc h2 C lc := let ⟨lc, q⟩ := Z.loc; ⟨lc, loc_ext q e (by simp [T.ci])⟩
  exact ⟨T.grow Z.grow e3, D2, C2, js _ _ _ _ _ _ _ Z.j e3⟩
/-- the frame's names are bound -/
theorem lc_bound {l2 : List (Str × Value)} (T : Tri h0 C I D) (js : JStable J) (e : Ext [C] h2 h3) (G2 : Grow h0 h2) (I2 : h2.IsListIter I l (i + 1)) (D2 : h2.IsList D ys.toArray) (J2 : J C I D i h2 ys) (F3 : Loc h3 C l2) :
    Grow h0 h3 ∧ h3.IsListIter I l (i + 1) ∧ h3.IsList D ys.toArray ∧ J C I D i h3 ys := by
  have e3 : Ext [C, I, D] h2 h3 := e.mono (by simp)
  have I3 : h3.IsListIter I l (i + 1) := let ⟨o, ho, r⟩ := I2; ⟨o, e _ _ (by simp [T.ci.symm]) ho, r⟩
  have D3 := isList_ext D2 e (by simp [T.cd.symm])
  exact ⟨T.grow G2 e3, I3, D3, js _ _ _ _ _ _ _ J2 e3⟩
theorem lc_step {n : Nat} {v : Value} {E E' : Value → Shared → Prop} {t1 : Nat} (T : Tri h0 C I D) (js : JStable J) (jt : JStep w A env scope g d os J h0 items lo elt) (hsz : items.length ≤ sizeLine)
    (hv : items[i]? = some v) (hn : n = items.length + 1 - i) (F3 : Loc h3 C (lo i v)) (Z : Grow h0 h3 ∧ h3.IsListIter I l (i + 1) ∧ h3.IsList D ys.toArray ∧ J C I D i h3 ys) (hlen : ys.length = i) :
    wpAny (model PG w) A (eval elt (cenvOf scope env C)) (fun y s3 => wpAny (model PG w) A (call (.builtin "list.append") [.ref D, y]) (fun _ s4 => ∃ m, m < n ∧ ∃ i h t ys, s4 = ⟨h, g, d, t, os⟩ ∧ m = items.length + 1 - i ∧ i ≤ items.length ∧ LcI h0 l J C I D i h ys) E' s3) E ⟨h3, g, d, t1, os⟩ := by
  have hi : i < items.length := (List.getElem?_eq_some_iff.mp hv).1
  obtain ⟨G3, I3, D3, J3⟩ := Z
  refine jt C I D i h3 t1 ys v _ _ hv J3 G3 F3 (let ⟨o, ho, _⟩ := I3; ⟨o, ho⟩) (let ⟨o, ho, _⟩ := D3; ⟨o, ho⟩) fun y h4 t4 k4 J4 => ?_
  have D4 : h4.IsList D ys.toArray := listK_grow k4 _ _ D3
  have I4 : h4.IsListIter I l (i + 1) := let ⟨o, ho, r⟩ := I3; ⟨o, k4 _ _ ho, r⟩
  refine wpAny_list_append D4 (fun h5 D5 s5 => ?_) (by show ys.length ≤ _; omega)
  have e5 : Ext [D] h4 h5 := extOf s5
  have D5' : h5.IsList D (ys ++ [y]).toArray := by rw [← List.push_toArray]; exact D5
  have I5 : h5.IsListIter I l (i + 1) := let ⟨o, ho, r⟩ := I4; ⟨o, e5 _ _ (by simp [T.id]) ho, r⟩
  have C5 : ∃ lc, Loc h5 C lc := ⟨_, loc_ext (F3.grow k4) e5 (by simp [T.cd])⟩
  have e53 : Ext [C, I, D] h4 h5 := e5.mono (by simp)
  exact ⟨_, by omega, i + 1, h5, t4, ys ++ [y], rfl, rfl, hi, T.grow (G3.trans k4) e53, I5, D5', C5, by simp [hlen], js _ _ _ _ _ _ _ J4 e53⟩
/-- where the loop stands at first -/
theorem lc_first (hl : h0.IsList l items.toArray)
    (j0 : ∀ C I D h', Tri h0 C I D → Grow h0 h' → (∃ lc, Loc h' C lc) → h'.IsListIter I l 0 → h'.IsList D #[] → J C I D 0 h' [])
    {ob od : Obj} (ho : ob = { cls := .type "list_iterator", data := .fields #[.ref l, .int 0 0] }) (hod : od = { cls := .type "list", dict := none, data := .seq #[] }) {h1 : Heap} {oc : Obj} {m}
    (hns : h1.Ns ((h0.push ob).push od).objs.size m) (hsb : Heap.SameBut ((h0.push ob).push od).objs.size (((h0.push ob).push od).push oc) h1) :
    Tri h0 ((h0.push ob).push od).objs.size h0.objs.size (h0.push ob).objs.size ∧ LcI h0 l J ((h0.push ob).push od).objs.size h0.objs.size (h0.push ob).objs.size 0 h1 [] := by
  have n1 := get_size h0
  have n2 := get_size (h0.push ob)
  have n3 := get_size ((h0.push ob).push od)
  have g1 : (h0.push ob).get? h0.objs.size = some ob := Heap.get?_push_size _ (by subst ho; rfl)
  have g2 : ((h0.push ob).push od).get? (h0.push ob).objs.size = some od := Heap.get?_push_size _ (by subst hod; rfl)
  have p1 := push_grow h0 ob
  have p2 := push_grow (h0.push ob) od
  have p3 : Grow ((h0.push ob).push od) h1 := fun b o e => hsb.extBut b o (fun q => by rw [q, n3] at e; cases e) (Heap.get?_push_of_some _ e)
  generalize h0.objs.size = I at *
  generalize (h0.push ob).objs.size = D at *
  generalize ((h0.push ob).push od).objs.size = C at *
  have no : ∀ {x}, (h0.push ob).get? x = none → h0.get? x = none := fun {x} e => by
    cases q : h0.get? x with
    | none => rfl
    | some o => rw [p1 _ _ q] at e; cases e
  have no2 : ∀ {x}, ((h0.push ob).push od).get? x = none → (h0.push ob).get? x = none := fun {x} e => by
    cases q : (h0.push ob).get? x with
    | none => rfl
    | some o => rw [p2 _ _ q] at e; cases e
  have T : Tri h0 C I D := ⟨no (no2 n3), n1, no n2, fun q => (by rw [q, p2 _ _ g1] at n3; cases n3), fun q => (by rw [q, g2] at n3; cases n3), fun q => (by rw [← q, g1] at n2; cases n2)⟩
  have Gr : Grow h0 h1 := (p1.trans p2).trans p3
  have I1 : h1.IsListIter I l 0 := ⟨ob, p3 _ _ (p2 _ _ g1), by subst ho; rfl, by subst ho; rfl⟩
  have D1 : h1.IsList D #[] := ⟨od, p3 _ _ g2, by subst hod; rfl, 0, by subst hod; rfl⟩
  have C1 : ∃ lc, Loc h1 C lc := ⟨[], m, hns, fun x v e => by cases e⟩
  exact ⟨T, Gr, I1, D1, C1, rfl, j0 C I D h1 T Gr C1 I1 D1⟩

theorem lc_loop_name {R : Result → Shared → Prop} {t1 : Nat} (hh : A.handled = none) (hkind : scope.kind = .function) (hx : scope.names.lookup x = some .local) (hsz : items.length ≤ sizeLine) (hl : h0.IsList l items.toArray)
    (js : JStable J) (jt : JStep w A env scope g d os J h0 items (fun _ v => [(x, v)]) elt) (T : Tri h0 C I D) (Z : LcI h0 l J C I D 0 h1 [])
    (hR : ∀ s' m, s'.heap.Ns C m → (∀ h', Heap.SameBut C s'.heap h' → ∃ t' h2 ys, s' = ⟨h2, g, d, t', os⟩ ∧ J C I D items.length h' ys ∧ Grow h0 h' ∧ h'.IsList D ys.toArray) → R (.ok .next) s') :
    codeAny (model PG w) A (.compStart (.ListComp elt [⟨.Name x px, iter, [], 0⟩] scope pos) 0 (.ref I) (.ref D) (cenvOf scope env C)) R ⟨h1, g, d, t1, os⟩ := by
  have loop : ∀ h1 t1, LcI h0 l J C I D 0 h1 [] → codeAny (model PG w) A (.compLoop (.ListComp elt [⟨.Name x px, iter, [], 0⟩] scope pos) 0 (.ref I) (.ref D) (cenvOf scope env C)) R ⟨h1, g, d, t1, os⟩ := by
    intro h1 t1 Z
    refine codeAny_compLoop_list (fun n s => ∃ i h t ys, s = ⟨h, g, d, t, os⟩ ∧ n = items.length + 1 - i ∧ i ≤ items.length ∧ LcI h0 l J C I D i h ys) ?_ (items.length + 1) ⟨0, h1, t1, [], rfl, rfl, Nat.zero_le _, Z⟩
    rintro n s ⟨i, h2, t2, ys, rfl, hn, hi, Z⟩
    have hl2 : h2.IsList l items.toArray := listK_grow Z.grow _ _ hl
    by_cases hlt : i < items.length
    · have hv : items[i]? = some items[i] := List.getElem?_eq_getElem hlt
      have hv' : items.toArray[i]? = some items[i] := by simpa using hv
      refine wpAny_pyNext_list_item Z.it hl2 hv' fun h3 I3 s3 => ?_
      obtain ⟨G3, D3, ⟨lc, C3⟩, J3⟩ := Z.next T js I3 s3
      refine wpAny_assign_Name (st_locE (env := cenvOf scope env C) C3 (fun h4 t4 F4 s4 => ?_) hkind hx)
      have F4' : Loc h4 C [(x, items[i])] := F4.weak ⟨by simp, trivial⟩
      exact lc_step T js jt hsz hv hn F4' (lc_bound T js (extOf s4) G3 I3 D3 J3 F4') Z.len
    · have hv' : items.toArray[i]? = none := by simp; omega
      refine wpAny_pyNext_list_end hh Z.it hl2 hv' fun h3 s3 => ?_
      have e3 : Ext [I] h2 h3 := fun n o m q => s3 n o (fun mm => m (List.mem_singleton.mpr mm)) q
      obtain ⟨lc, C2⟩ := Z.loc
      have C3 := loc_ext C2 e3 (by simp [T.ci])
      obtain rfl : i = items.length := by omega
      obtain ⟨m, hm, _⟩ := C3
      have e33 : Ext [C, I, D] h2 h3 := e3.mono (by simp)
      have J3 := js _ _ _ _ _ _ _ Z.j e33
      have D3 := isList_ext Z.acc e3 (by simp [T.id.symm])
      refine hR _ m hm fun h4 s4 => ?_
      have e4 : Ext [C] h3 h4 := extOf s4
      have e43 : Ext [C, I, D] h3 h4 := e4.mono (by simp)
      exact ⟨_, _, ys, rfl, js _ _ _ _ _ _ _ J3 e43, T.grow (T.grow Z.grow e33) e43, isList_ext D3 e4 (by simp [T.cd.symm])⟩
  exact codeAny_compStart_list (loop h1 t1 Z) (wpAny_pyIter_listiter Z.it (loop h1 t1 Z))

theorem lc_name (J : Addr → Addr → Addr → Nat → Heap → List Value → Prop) (hh : A.handled = none)
    (hfree : ∀ x ∈ scope.names, x.2 ≠ .free) (hkind : scope.kind = .function) (hnames : ∀ x ∈ scope.names, x.2 = .local → scope.names.lookup x.1 = some .local) (hcell : ∀ x ∈ scope.names, x.2 ≠ .cell) (hx : scope.names.lookup x = some .local)
    (hsz : items.length ≤ sizeLine) (hl : h0.IsList l items.toArray)
    (j0 : ∀ C I D h', Tri h0 C I D → Grow h0 h' → (∃ lc, Loc h' C lc) → h'.IsListIter I l 0 → h'.IsList D #[] → J C I D 0 h' [])
    (js : JStable J) (jt : JStep w A env scope g d os J h0 items (fun _ v => [(x, v)]) elt)
    (jf : ∀ C I D h' t' ys, Tri h0 C I D → J C I D items.length h' ys → Grow h0 h' → h'.IsList D ys.toArray → Q (.ref D) ⟨h', g, d, t', os⟩)
    (hit : ∀ (Q E : Value → Shared → Prop), (∀ t, Q (.ref l) ⟨h0, g, d, t, os⟩) → wpAny (model PG w) A (eval iter env) Q E ⟨h, g, d, t, os⟩)
    (hs : ∀ x, foldedSetIterable iter env x = pure x := by intro _; rfl) :
    wpAny (model PG w) A (eval (.ListComp elt [⟨.Name x px, iter, [], 0⟩] scope pos) env) Q E ⟨h, g, d, t, os⟩ := by
  refine wpAny_ListComp hfree hkind hnames (hit _ _ fun t0 => ?_) hs
  refine wpAny_pyIter_list hl ?_
  refine wpAny_newObj_type (wpAny_newFunctionEnv hcell (by intro y hy; simp at hy) (fun h1 hns1 hsb1 => ?_) hkind)
  obtain ⟨T, Z⟩ := lc_first (l := l) hl j0 rfl rfl hns1 hsb1
  refine lc_loop_name hh hkind hx hsz hl js jt T Z fun s' m hm hk => ⟨m, hm, fun h' hs' => ?_⟩
  obtain ⟨t', h2, ys, rfl, Jf, Gf, Df⟩ := hk h' hs'
  exact jf _ _ _ h' t' ys T Jf Gf Df

theorem lc_loop_pair {R : Result → Shared → Prop} {t1 : Nat} {two : Nat → Value × Value} {tk} (hh : A.handled = none) (hkind : scope.kind = .function) (hx : scope.names.lookup x = some .local) (hx2 : scope.names.lookup x2 = some .local) (hxx : x ≠ x2) (hsz : items.length ≤ sizeLine) (hl : h0.IsList l items.toArray)
    (htup : ∀ i v, items[i]? = some v → ∃ a, v = .ref a ∧ IsTup h0 a #[(two i).1, (two i).2])
    (js : JStable J) (jt : JStep w A env scope g d os J h0 items (fun i _ => [(x2, (two i).2), (x, (two i).1)]) elt) (T : Tri h0 C I D) (Z : LcI h0 l J C I D 0 h1 [])
    (hR : ∀ s' m, s'.heap.Ns C m → (∀ h', Heap.SameBut C s'.heap h' → ∃ t' h2 ys, s' = ⟨h2, g, d, t', os⟩ ∧ J C I D items.length h' ys ∧ Grow h0 h' ∧ h'.IsList D ys.toArray) → R (.ok .next) s') :
    codeAny (model PG w) A (.compStart (.ListComp elt [⟨.Tuple [.Name x px, .Name x2 px2] tk tp, iter, [], 0⟩] scope pos) 0 (.ref I) (.ref D) (cenvOf scope env C)) R ⟨h1, g, d, t1, os⟩ := by
  have loop : ∀ h1 t1, LcI h0 l J C I D 0 h1 [] → codeAny (model PG w) A (.compLoop (.ListComp elt [⟨.Tuple [.Name x px, .Name x2 px2] tk tp, iter, [], 0⟩] scope pos) 0 (.ref I) (.ref D) (cenvOf scope env C)) R ⟨h1, g, d, t1, os⟩ := by
    intro h1 t1 Z
    refine LCp.codeAny_compLoop_pair (fun n s => ∃ i h t ys, s = ⟨h, g, d, t, os⟩ ∧ n = items.length + 1 - i ∧ i ≤ items.length ∧ LcI h0 l J C I D i h ys) ?_ (items.length + 1) ⟨0, h1, t1, [], rfl, rfl, Nat.zero_le _, Z⟩
    rintro n s ⟨i, h2, t2, ys, rfl, hn, hi, Z⟩
    have hl2 : h2.IsList l items.toArray := listK_grow Z.grow _ _ hl
    by_cases hlt : i < items.length
    · have hv : items[i]? = some items[i] := List.getElem?_eq_getElem hlt
      have hv' : items.toArray[i]? = some items[i] := by simpa using hv
      obtain ⟨a, ha, ot, hot, hct, nt, hdt⟩ := htup i _ hv
      refine wpAny_pyNext_list_item Z.it hl2 hv' fun h3 I3 s3 => ?_
      obtain ⟨G3, D3, ⟨lc, C3⟩, J3⟩ := Z.next T js I3 s3
      dsimp only
      rw [ha]
      refine wpAny_letOwnedTupleGo_listiter I3 ?_
      have ht3 : IsTup h3 a #[(two i).1, (two i).2] := ⟨ot, G3 _ _ hot, hct, nt, hdt⟩
      refine assign_Tuple_tuple hh ht3 rfl rfl fun h4 e4 => ?_
      have k4 : Grow h3 h4 := fun b o e => e4 b o (Nat.ne_of_lt (Heap.lt_size e)) e
      refine assignInOrder_cons (wpAny_assign_Name (st_locE (env := cenvOf scope env C) (C3.grow k4) (fun h5 t5 F5 s5 => ?_) hkind hx))
      refine assignInOrder_cons (wpAny_assign_Name (st_locE (env := cenvOf scope env C) F5 (fun h6 t6 F6 s6 => ?_) hkind hx2))
      refine assignInOrder_nil ?_
      have F6' : Loc h6 C [(x2, (two i).2), (x, (two i).1)] := F6.weak ⟨by simp, by simp [List.lookup_cons, beq_eq_false_iff_ne.mpr hxx], trivial⟩
      exact lc_step T js jt hsz (ha ▸ hv) hn F6' (lc_bound T js ((k4.ext.trans (extOf s5)).trans (extOf s6)) G3 I3 D3 J3 F6') Z.len
    · have hv' : items.toArray[i]? = none := by simp; omega
      refine wpAny_pyNext_list_end hh Z.it hl2 hv' fun h3 s3 => ?_
      have e3 : Ext [I] h2 h3 := fun n o m q => s3 n o (fun mm => m (List.mem_singleton.mpr mm)) q
      obtain ⟨lc, C2⟩ := Z.loc
      have C3 := loc_ext C2 e3 (by simp [T.ci])
      obtain rfl : i = items.length := by omega
      obtain ⟨m, hm, _⟩ := C3
      have e33 : Ext [C, I, D] h2 h3 := e3.mono (by simp)
      have J3 := js _ _ _ _ _ _ _ Z.j e33
      have D3 := isList_ext Z.acc e3 (by simp [T.id.symm])
      refine hR _ m hm fun h4 s4 => ?_
      have e4 : Ext [C] h3 h4 := extOf s4
      have e43 : Ext [C, I, D] h3 h4 := e4.mono (by simp)
      exact ⟨_, _, ys, rfl, js _ _ _ _ _ _ _ J3 e43, T.grow (T.grow Z.grow e33) e43, isList_ext D3 e4 (by simp [T.cd.symm])⟩
  exact codeAny_compStart_list (loop h1 t1 Z) (wpAny_pyIter_listiter Z.it (loop h1 t1 Z))

theorem lc_pair (J : Addr → Addr → Addr → Nat → Heap → List Value → Prop) {two : Nat → Value × Value} {tk} (hh : A.handled = none)
    (hfree : ∀ x ∈ scope.names, x.2 ≠ .free) (hkind : scope.kind = .function) (hnames : ∀ x ∈ scope.names, x.2 = .local → scope.names.lookup x.1 = some .local) (hcell : ∀ x ∈ scope.names, x.2 ≠ .cell) (hx : scope.names.lookup x = some .local) (hx2 : scope.names.lookup x2 = some .local) (hxx : x ≠ x2)
    (hsz : items.length ≤ sizeLine) (hl : h0.IsList l items.toArray) (htup : ∀ i v, items[i]? = some v → ∃ a, v = .ref a ∧ IsTup h0 a #[(two i).1, (two i).2])
    (j0 : ∀ C I D h', Tri h0 C I D → Grow h0 h' → (∃ lc, Loc h' C lc) → h'.IsListIter I l 0 → h'.IsList D #[] → J C I D 0 h' [])
    (js : JStable J) (jt : JStep w A env scope g d os J h0 items (fun i _ => [(x2, (two i).2), (x, (two i).1)]) elt)
    (jf : ∀ C I D h' t' ys, Tri h0 C I D → J C I D items.length h' ys → Grow h0 h' → h'.IsList D ys.toArray → Q (.ref D) ⟨h', g, d, t', os⟩)
    (hit : ∀ (Q E : Value → Shared → Prop), (∀ t, Q (.ref l) ⟨h0, g, d, t, os⟩) → wpAny (model PG w) A (eval iter env) Q E ⟨h, g, d, t, os⟩)
    (hs : ∀ x, foldedSetIterable iter env x = pure x := by intro _; rfl) :
    wpAny (model PG w) A (eval (.ListComp elt [⟨.Tuple [.Name x px, .Name x2 px2] tk tp, iter, [], 0⟩] scope pos) env) Q E ⟨h, g, d, t, os⟩ := by
  refine wpAny_ListComp hfree hkind hnames (hit _ _ fun t0 => ?_) hs
  refine wpAny_pyIter_list hl ?_
  refine wpAny_newObj_type (wpAny_newFunctionEnv hcell (by intro y hy; simp at hy) (fun h1 hns1 hsb1 => ?_) hkind)
  obtain ⟨T, Z⟩ := lc_first (l := l) hl j0 rfl rfl hns1 hsb1
  refine lc_loop_pair hh hkind hx hx2 hxx hsz hl htup js jt T Z fun s' m hm hk => ⟨m, hm, fun h' hs' => ?_⟩
  obtain ⟨t', h2, ys, rfl, Jf, Gf, Df⟩ := hk h' hs'
  exact jf _ _ _ h' t' ys T Jf Gf Df
end
end
end Mine
namespace Mine
def Makes2 (h : Heap) (g : Array GenState) (d : Drawn) (os : OsState) (c v : Value) : Value → Shared → Prop := fun r s' => ∃ a h' tk' dx o, r = .ref a ∧ s' = ⟨h', g, d, tk', os⟩ ∧ Grow h h' ∧ h'.get? a = some (tagObj dx c v) ∧ h'.get? dx = some o ∧ h.get? a = none ∧ h.get? dx = none
theorem makes2 {h h' : Heap} {g d os t a dx c v f o q} (D : Mem h h' [] [f, (a, o), (dx, q)]) (ho : o = tagObj dx c v) : Makes2 h g d os c v (.ref a) ⟨h', g, d, t, os⟩ :=
  ⟨a, h', t, dx, q, rfl, rfl, mem_grow D, ho ▸ (D.nw _ (.tail _ (.head _))).1, (D.nw _ (.tail _ (.tail _ (.head _)))).1, (D.nw _ (.tail _ (.head _))).2, (D.nw _ (.tail _ (.tail _ (.head _)))).2⟩
section mk2
local macro_rules | `(tactic| x_close) => `(tactic| first | exact makes2 (by assumption) (by first | rfl | kernel_rfl!) | (trace_state; fail "no"))
theorem mk2_s {w : World} {E} {h : Heap} {g d t os} {c : Int} {x : Str} {tc tx : Tok} (KX : (hd.heap_39 w.params).In h) :
   wpAny (model PG w) A9 (call (.ref 173) [.int c tc, .str x tx]) (Makes2 h g d os (.int c tc) (.str x tx)) E ⟨h, g, d, t, os⟩ := by
  x_run
theorem mk2_n {w : World} {E} {h : Heap} {g d t os} {c : Int} {x : Int} {tc tx : Tok} (KX : (hd.heap_39 w.params).In h) :
   wpAny (model PG w) A9 (call (.ref 173) [.int c tc, .int x tx]) (Makes2 h g d os (.int c tc) (.int x tx)) E ⟨h, g, d, t, os⟩ := by
  x_run
end mk2
theorem call_tag {w : World} {A : Around} {Q E : Value → Shared → Prop} {h : Heap} {g : Array GenState} {d : Drawn} {t : Nat} {os : OsState} {c : Int} {tc tv : Tok} {pv : PV} (cA : Calm A) (G : Glo w h)
    (hQ : ∀ a h' t' dx o, Grow h h' → h'.get? a = some (tagObj dx (.int c tc) (pv.val tv)) → h'.get? dx = some o → h.get? a = none → h.get? dx = none → Q (.ref a) ⟨h', g, d, t', os⟩) :
    wpAny (model PG w) A (call (.ref 173) [.int c tc, pv.val tv]) Q E ⟨h, g, d, t, os⟩ := by
  cases pv with
  | s x =>
    refine cA.lift (wpAny_mono (mk2_s G.K) (fun r s' q => ?_) fun _ _ e => e)
    obtain ⟨a, h', tk', dx, o, rfl, rfl, k, p, q, r1, r2⟩ := q
    exact hQ a h' tk' dx o k p q r1 r2
  | n x =>
    refine cA.lift (wpAny_mono (mk2_n G.K) (fun r s' q => ?_) fun _ _ e => e)
    obtain ⟨a, h', tk', dx, o, rfl, rfl, k, p, q, r1, r2⟩ := q
    exact hQ a h' tk' dx o k p q r1 r2
end Mine
namespace Mine
def TupIs (h : Heap) (v : Value) (p : Int × PV) : Prop := ∃ a o n tc tv, v = .ref a ∧ h.get? a = some o ∧ o.cls = .type "tuple" ∧ o.data = .seq #[.int p.1 tc, p.2.val tv] n
def Tups (h : Heap) (vs : List Value) (pl : List (Int × PV)) : Prop := vs.length = pl.length ∧ ∀ (i : Nat) p, pl[i]? = some p → ∃ v, vs[i]? = some v ∧ TupIs h v p
def ToldAt (h : Heap) (a : Addr) (vs : List Value) : Prop := ∃ n sl, h.get? a = some { cls := .type "list", data := .seq vs.toArray n, slots := sl }
theorem tupIs_seq {h h' : Heap} {v p} (x : TupIs h v p) (k : SeqK h h') : TupIs h' v p := by
  obtain ⟨a, o, n, tc, tv, e, ho, hc, hd⟩ := x
  obtain ⟨sl, q⟩ := k a o ho ⟨_, _, hd⟩
  exact ⟨a, _, n, tc, tv, e, q, hc, hd⟩
theorem Tups.seq {h h' : Heap} {vs pl} (x : Tups h vs pl) (k : SeqK h h') : Tups h' vs pl := ⟨x.1, fun i p e => let ⟨v, q, r⟩ := x.2 i p e; ⟨v, q, tupIs_seq r k⟩⟩
theorem ToldAt.seq {h h' : Heap} {a vs} (x : ToldAt h a vs) (k : SeqK h h') : ToldAt h' a vs := by
  obtain ⟨n, sl, e⟩ := x
  obtain ⟨sl', q⟩ := k a _ e ⟨_, _, rfl⟩
  exact ⟨n, sl', q⟩
theorem ToldAt.list {h : Heap} {a vs} (x : ToldAt h a vs) : h.IsList a vs.toArray := let ⟨n, sl, e⟩ := x; ⟨_, e, rfl, n, rfl⟩
theorem Tups.snoc {h : Heap} {vs : List Value} {pl v p} (x : Tups h vs pl) (y : TupIs h v p) : Tups h (vs ++ [v]) (pl ++ [p]) := by
  refine ⟨by simp [x.1], fun i q e => ?_⟩
  by_cases hi : i < pl.length
  · rw [List.getElem?_append_left hi] at e
    obtain ⟨u, hu, r⟩ := x.2 i q e
    exact ⟨u, by rw [List.getElem?_append_left (by rw [x.1]; exact hi)]; exact hu, r⟩
  · have hi' : pl.length ≤ i := Nat.le_of_not_lt hi
    rw [List.getElem?_append_right hi'] at e
    have : i - pl.length = 0 := by
      rcases Nat.eq_zero_or_pos (i - pl.length) with z | z
      · exact z
      · rw [List.getElem?_eq_none (by simp; omega)] at e; cases e
    rw [this] at e; cases e
    exact ⟨v, by rw [List.getElem?_append_right (by rw [x.1]; exact hi'), x.1, this]; rfl, y⟩
theorem Tups.nil {h : Heap} : Tups h [] [] := ⟨rfl, fun i p e => by simp at e⟩
/-- all but one list stay as sequences -/
theorem tups_but {h h' : Heap} {a : Addr} {its vs pl} (x : Tups h vs pl) (s : Heap.SameBut a h h') (T : h.IsList a its) : Tups h' vs pl := ⟨x.1, fun i p e => by
  obtain ⟨v, q, b, o, n, tc, tv, e1, ho, hc, hd⟩ := x.2 i p e
  obtain ⟨o', ho', hc', _⟩ := T
  refine ⟨v, q, b, o, n, tc, tv, e1, (s.2 b fun z => ?_).trans ho, hc, hd⟩
  rw [z, ho'] at ho; cases ho; exact absurd (hc.symm.trans hc') (by intro q; injection q with q; exact absurd q (by decide))⟩
theorem tupIs_but {h h' : Heap} {a : Addr} {its v p} (x : TupIs h v p) (s : Heap.SameBut a h h') (T : h.IsList a its) : TupIs h' v p := by
  obtain ⟨b, o, n, tc, tv, e1, ho, hc, hd⟩ := x
  obtain ⟨o', ho', hc', _⟩ := T
  refine ⟨b, o, n, tc, tv, e1, (s.2 b fun z => ?_).trans ho, hc, hd⟩
  rw [z, ho'] at ho; cases ho; exact absurd (hc.symm.trans hc') (by intro q; injection q with q; exact absurd q (by decide))
section
variable {w : World} {A : Around} {E : Value → Shared → Prop} {h : Heap} {g : Array GenState} {d : Drawn} {t : Nat} {os : OsState} {env : Env} {x : Str} {pos p1 p2 p3 p4 p5 p6 : Pos} {told : Addr} {vs : List Value}
theorem told_append {v : Value} {Q : Value → Shared → Prop} (T : ToldAt h told vs) (hsz : vs.length ≤ sizeLine)
    (hQ : ∀ h', Heap.SameBut told h h' → ToldAt h' told (vs ++ [v]) → Q .none ⟨h', g, d, t, os⟩) : wpAny (model PG w) A (call (.builtin "list.append") [.ref told, v]) Q E ⟨h, g, d, t, os⟩ := by
  obtain ⟨n, sl, ho⟩ := T
  refine wpAny_call_entry slot_list_append ⟨_, ho, rfl⟩ entry_list_append ?_ (args_list_append _ _)
  show wpAny _ _ (updateSeq told (·.push v) >>= fun _ => ret .none) _ _ _
  refine wpAny_bind ?_
  refine wpAny_updateSeq ho rfl (wpAny_pure ⟨.none, rfl, hQ _ (Heap.SameBut.update ..) ⟨n + 1, sl, ?_⟩⟩) (by show vs.toArray.size ≤ _; simpa using hsz)
  rw [Heap.get?_update_self _ ho (by rw [mapSeq_push]; rfl), mapSeq_push, List.push_toArray]
/-- told.append((e1, e2)) as a statement -/
theorem told_pair {e1 e2 : Expr} {k : Nat} {Q : Flow → Shared → Prop} {c : Int} {pv : PV} {l0 : List (Str × Value)} (F : Loc h env.locals l0) (hx : l0.lookup x = some (.ref told)) (T : ToldAt h told vs) (hsz : vs.length ≤ 1000)
    (h1 : ∀ (Q E : Value → Shared → Prop), (∀ h1 t1 tc, Grow h h1 → Q (.int c tc) ⟨h1, g, d, t1, os⟩) → wpAny (model PG w) A (eval e1 env) Q E ⟨h, g, d, t, os⟩)
    (h2 : ∀ h1 t1 (Q E : Value → Shared → Prop), Grow h h1 → (∀ h2 t2 tv, Grow h1 h2 → Q (pv.val tv) ⟨h2, g, d, t2, os⟩) → wpAny (model PG w) A (eval e2 env) Q E ⟨h1, g, d, t1, os⟩)
    (hQ : ∀ h3 h' t' v, Grow h h3 → Heap.SameBut told h3 h' → ToldAt h' told (vs ++ [v]) → TupIs h3 v (c, pv) → Q .next ⟨h', g, d, t', os⟩)
    (hb : attributeBase (.Name x p1) "append" env (eval (.Name x p1) env) = eval (.Name x p1) env := by rfl) (hline : (p2.endLine == p3.line) = true := by rfl)
    (hk : env.scope.kind = .function := by rfl) (hl : env.kindOf x = some .local := by rfl) (hdd : (x == ("__debug__" : Str)) = false := by decide)
    (hs1 : isStarred e1 = false := by rfl) (hs2 : isStarred e2 = false := by rfl) (hi : interactive env = false := by rfl) (hsw : swapsWith (.Call (.Attribute (.Name x p1) "append" p2) [.Tuple [e1, e2] k p4] [] p3) none pos.line env = pure false := by rfl) :
    wpAny (model PG w) A (exec (.Expr (.Call (.Attribute (.Name x p1) "append" p2) [.Tuple [e1, e2] k p4] [] p3) pos) env) Q E ⟨h, g, d, t, os⟩ := by
  refine wpAny_Expr ?_ hi hsw
  refine Call_method1 hb rfl hline (ev_locE F hx ?_ hk hl hdd)
  obtain ⟨n, sl, ho⟩ := id T
  refine ⟨"list", "list.append", PySem.F.plainAttrs_list, slot_list_append, type_list_append, ⟨_, ho, rfl⟩, fun a e => by cases e; exact ⟨_, ho, rfl⟩, ?_⟩
  refine Calls.callWith_builtin rfl (Calls.evalArgs_plain (Calls.spliced_cons (Tuple_ ?_)))
  have es : starEach [e1, e2] env = [(false, eval e1 env), (false, eval e2 env)] := by
    show starEach (e1 :: e2 :: []) env = _
    have a1 : starEach (e1 :: [e2]) env = (false, eval e1 env) :: starEach [e2] env := by cases e1 <;> first | rfl | cases hs1
    rw [a1, starEach_one hs2]
  rw [es]
  refine Calls.spliced_cons (h1 _ _ fun h1' t1 tc k1 => Calls.spliced_cons (h2 h1' t1 _ _ k1 fun h2' t2 tv k2 => Calls.spliced_nil ?_))
  refine wpAny_newTuple ?_ (by show 2 ≤ sizeLine; decide)
  have k3 := (k1.trans k2).trans (push_grow h2' { cls := .type "tuple", data := .seq [Value.int c tc, pv.val tv].toArray })
  refine Calls.spliced_nil (told_append (T.seq (seqK_grow k3)) (by rw [sizeLine_eq]; omega) fun h4 s4 T4 => ?_)
  exact hQ _ h4 _ _ k3 s4 T4 ⟨_, _, _, tc, tv, rfl, Heap.get?_push_size _ rfl, rfl, rfl⟩
end
section
variable {w : World} {A : Around} {E : Value → Shared → Prop} {b h : Heap} {g : Array GenState} {d : Drawn} {t : Nat} {os : OsState} {Lw : Addr}
/-- an exception of the project's own, caught by one of two clauses -/
theorem catch2 {e C D1 D2 : Addr} {a0 : Value} {bm bm1 bm2 : List Value} {n1 n2 : Str} {w1 w2 x : Str} {q1 q2 q3 q4 q5 q6 q7 q8 q9 q10 : Pos} {k1 k2 : Nat} {lw : List (Str × Value)} {Q : Flow → Shared → Prop} (hA : CalmL A Lw) (G : Glo w b) (hf : Heap.FlyingW b [lawEnv Lw] e (.ref C) a0 h) (F : Loc h Lw lw)
    (i1 : ∀ h, Glo w h → IsCls h D1 bm1) (i2 : ∀ h, Glo w h → IsCls h D2 bm2) (iC : ∀ h, Glo w h → IsCls h C bm) (hb1 : bm1.contains (.type "BaseException") = true) (hb2 : bm2.contains (.type "BaseException") = true) (hbC : bm.contains (.type "BaseException") = true)
    (g1 : nsIn (hd.heap_39 w.params) mainGlobals n1 = some (some (.ref D1))) (g2 : nsIn (hd.heap_39 w.params) mainGlobals n2 = some (some (.ref D2)))
    (hC : C = D1 ∨ (C = D2 ∧ (Value.ref C :: bm).contains (.ref D1) = false))
    (hQ : ∀ h' t' tk, SeqK h h' → Grow b h' → Loc h' Lw ((x, .str (if C = D1 then w1 else w2) tk) :: lw) → Q .next ⟨h', g, d, t', os⟩)
    (hl : (lawEnv Lw).kindOf x = some .local) (hl1 : (lawEnv Lw).kindOf n1 = some .globalImplicit) (hl2 : (lawEnv Lw).kindOf n2 = some .globalImplicit) (hd1 : (n1 == ("__debug__" : Str)) = false) (hd2 : (n2 == ("__debug__" : Str)) = false) :
    notedBy (model PG w) A (lawEnv Lw) (cameBackBy (model PG w) A (lawEnv Lw) (fun e s₁ => wpAny (model PG w) A (noteFrame e (lawEnv Lw)) (fun _ s₂ => wpAny (model PG w) A (setFlight e none) (fun _ s₃ => wpAny (model PG w) A (handleBy e (lawEnv Lw)
      [.ExceptHandler (some (.Name n1 q1)) none [.Assign [.Name x q2] (.Constant (.str w1) k1 q3) q4] q5, .ExceptHandler (some (.Name n2 q6)) none [.Assign [.Name x q7] (.Constant (.str w2) k2 q8) q9] q10]) Q E s₃) E s₂) E s₁)) (.ref e) ⟨h, g, d, t, os⟩ := by
  have sg : ∀ {h'}, b.StaysIn h' → Grow b h' := fun k b o e => k b o e
  show wpAny _ _ (noteFrame (.ref e) (lawEnv Lw)) _ _ _
  refine wpAny_looks_onW hA.frames rfl hf fun ha Ha ua => ?_
  show wpAny _ _ _ _ _ _
  refine came_held rfl Ha fun hb Hb ub => ?_
  refine wpAny_noteFrame_againW rfl Hb.2.2.2 ?_
  refine wpAny_landsW Hb fun hc fc uc => ?_
  have uu := (ua.trans ub).trans uc
  have Gc := G.grow (sg fc.1)
  obtain ⟨oe, hoe, hcl⟩ := fc.there
  have suite : ∀ {h4 : Heap} {wd : Str} {k p1 p2 p3 t4}, wd = (if C = D1 then w1 else w2) → Heap.FlyingW b [lawEnv Lw] e (.ref C) a0 h4 → hc.UpToSlots h4 → ∀ {A' : Around} {E' : Value → Shared → Prop},
      wpAny (model PG w) A' (execs [.Assign [.Name x p1] (.Constant (.str wd) k p2) p3] (lawEnv Lw)) Q E' ⟨h4, g, d, t4, os⟩ := by
    intro h4 wd k p1 p2 p3 t4 hwd f4 u4 A' E'
    have F4 : Loc h4 Lw lw := (F.slots uu).slots u4
    refine wpAny_execs_cons (wpAny_Assign_Name (ev_str (st_loc F4 (fun h5 t5 F5 s5 => wpAny_execs_nil ?_) rfl hl)))
    refine hQ h5 t5 _ (((seqK_slots uu).trans (seqK_slots u4)).trans (seqK_ext (extOf s5) fun n m => List.mem_singleton.mp m ▸ noSeq_loc F4)) ((extOf s5).keepBase (fun n m => ?_) (sg f4.1)) (hwd ▸ F5)
    rw [List.mem_singleton.mp m]
    obtain ⟨_, ⟨L', _, hf', hn', _⟩, _⟩ := f4.2.2.1
    obtain rfl : Lw = L' := Option.some.inj hf'
    exact hn'
  rcases hC with rfl | ⟨rfl, hno⟩
  · refine wpAny_handleBy_cons (codeAny_handlers_test (ev_glob Gc g1 (excM_self (iC hc Gc) hoe hcl hbC ?_) rfl hl1 hd1)) (by intro q; cases q)
    refine codeAny_handlers_suite (lands_againW fc fun h4 f4 u4 => ?_)
    exact wpAny_mono (suite (E' := fun _ _ => False) (if_pos rfl).symm f4 u4) (fun f s q => q) fun _ _ q => q.elim
  · have hne : C ≠ D1 := fun q => by rw [q] at hno; simp at hno
    refine wpAny_handleBy_cons (codeAny_handlers_test (ev_glob Gc g1 (excM_other (iC hc Gc) (i1 hc Gc) hoe hcl hb1 hno ?_) rfl hl1 hd1)) (by intro q; cases q)
    refine wpAny_handleBy_cons (codeAny_handlers_test (ev_glob Gc g2 (excM_self (iC hc Gc) hoe hcl hbC ?_) rfl hl2 hd2)) (by intro q; cases q)
    refine codeAny_handlers_suite (lands_againW fc fun h4 f4 u4 => ?_)
    exact wpAny_mono (suite (E' := fun _ _ => False) (if_neg hne).symm f4 u4) (fun f s q => q) fun _ _ q => q.elim
end
end Mine
namespace Mine
def vRun (st : GS) : List (Int × PV) → List (Int × PV) × Option Addr
  | [] => ([], match endStep st with | .ok _ => none | .error C => some C)
  | p :: r => match tStep st p.1 p.2 with
    | .error C => ([], some C)
    | .ok st' => (p :: (vRun st' r).1, (vRun st' r).2)
def lw0 (nv : Value) (pa told : Addr) (wd : Value) : List (Str × Value) := [("numbers", nv), ("pairs", .ref pa), ("told", .ref told), ("word", wd)]
structure LF (b : Heap) (Lw pa told : Addr) (nv wd : Value) (pvs vs : List Value) (pl tl : List (Int × PV)) (h : Heap) : Prop where
  B : Grow b h
  F : Loc h Lw (lw0 nv pa told wd)
  T : ToldAt h told vs
  U : Tups h vs tl
  P : h.IsList pa pvs.toArray
  V : Tups h pvs pl
abbrev lawStmt (k : Nat) : Stmt := (bodyOf lawDef).getD k default
def tryBody : Stmt → List Stmt
  | .Try b _ _ _ _ => b
  | _ => []
def forTgt : Stmt → Expr
  | .For t _ _ _ _ => t
  | _ => default
def forIter : Stmt → Expr
  | .For _ i _ _ _ => i
  | _ => default
abbrev lawFor (k : Nat) : Stmt := (tryBody (lawStmt k)).getD 0 default
section
variable {w : World} {A : Around} {b h : Heap} {g g0 : Array GenState} {d : Drawn} {t : Nat} {os : OsState} {L Lw told lst pa ga : Addr} {dx : Str} {pl : List (Int × PV)} {gi : Nat} {gs : GenState} {nv wd : Value} {pvs vs : List Value} {R : Result → Shared → Prop}
theorem LF.weak {wd' : Value} {tl tl' vs'} (x : LF b Lw pa told nv wd pvs vs pl tl h) (h' : Heap) (k : SeqK h h') (B : Grow b h') (F : Loc h' Lw (lw0 nv pa told wd')) (T : ToldAt h' told vs') (U : Tups h' vs' tl') (hp : pa ≠ told) : LF b Lw pa told nv wd' pvs vs' pl tl' h' :=
  { B := B, F := F, T := T, U := U, P := let ⟨o, ho, hc, n, hd⟩ := x.P; let ⟨sl, q⟩ := k _ o ho ⟨_, _, hd⟩; ⟨_, q, hc, n, hd⟩, V := x.V.seq k }
theorem LF.keep (x : LF b Lw pa told nv wd pvs vs pl tl h) (k : KS Lw h h') (B : Grow b h') : LF b Lw pa told nv wd pvs vs pl tl h' :=
  { B := B, F := k.o _ x.F, T := x.T.seq k.q, U := x.U.seq k.q, P := k.l _ _ x.P, V := x.V.seq k.q }
theorem Sleep.sub {w : World} {b h : Heap} {W : List Addr} {L Lw told lst : Addr} {pl : List (Int × PV)} {dx : Str} {i : Nat} {st : GS} {gs : GenState} (S : Sleep w b W L Lw told lst pl dx i st h gs) : b.get? Lw = none ∧ b.get? told = none ∧ told ≠ Lw := by
  rcases S with ⟨e1, e2, e3, Y⟩ | ⟨it, kk, l, p, pf, e1, e2, Z⟩
  · exact ⟨Y.hb _ Y.OW, Y.hb _ Y.TW, Y.TO⟩
  · exact ⟨Z.P.hb _ Z.P.OW, Z.P.hb _ (List.mem_cons_of_mem _ Z.TW), Z.TO⟩
theorem law_loop (hA : CalmL A Lw) (G : Glo w b) (Ga : b.IsGen ga gi) (hgs : g0[gi]? = some gs) (S : Sleep w b W L Lw told lst pl dx 0 (st0 dx) h gs) (hK : ∀ (i : Nat) c pv, pl[i]? = some (c, pv) → KindOk c pv) (hdl : dx.length ≤ 200) (hpl : pl.length ≤ 900) (hpt : pa ≠ told)
    (Z : LF b Lw pa told nv wd pvs [] pl [] h)
    (hN : ∀ h' t' vs, (vRun (st0 dx) pl).2 = none → LF b Lw pa told nv wd pvs vs pl (vRun (st0 dx) pl).1 h' → R (.ok .next) ⟨h', g0.setIfInBounds gi .finished, d, t', os⟩)
    (hE : ∀ h' t' vs e C a0, (vRun (st0 dx) pl).2 = some C → (C = 56 ∨ C = 68) → LF b Lw pa told nv wd pvs vs pl (vRun (st0 dx) pl).1 h' → Heap.FlyingW b [lawEnv Lw] e (.ref C) a0 h' →
      notedBy (model PG w) A (lawEnv Lw) (fun e s' => R (.error e) s') (.ref e) ⟨h', g0.setIfInBounds gi .finished, d, t', os⟩) :
    codeAny (model PG w) A (.forLoop (forTgt (lawFor 3)) (.ref ga) (bodyOf (lawFor 3)) [] (lawEnv Lw)) R ⟨h, g0, d, t, os⟩ := by
  refine codeAny_forLoop (fun n s => ∃ h g t i st gs vs, s = ⟨h, g, d, t, os⟩ ∧ n = pl.length + 1 - i ∧ i ≤ pl.length ∧ Sleep w b W L Lw told lst pl dx i st h gs ∧ g[gi]? = some gs ∧ (∀ x, g.setIfInBounds gi x = g0.setIfInBounds gi x) ∧ vs.length = i ∧
    LF b Lw pa told nv wd pvs vs pl (pl.take i) h ∧ vRun (st0 dx) pl = (pl.take i ++ (vRun st (pl.drop i)).1, (vRun st (pl.drop i)).2)) ?_ (pl.length + 1) ⟨h, g0, t, 0, st0 dx, gs, [], rfl, rfl, Nat.zero_le _, S, hgs, fun _ => rfl, rfl, Z, by simp⟩
  rintro n s ⟨h, g, t, i, st, gs, vs, rfl, hn, hi, S, hgs, hg, hvl, Z, hv⟩
  refine esv_next hA G Z.B Ga hgs S hK hdl (fun c pv hp st' gs' a h1 t1 e S1 B1 T1 k1 => ?_) (fun hp e h1 t1 k1 B1 => ?_) fun C e h1 t1 a0 er k1 f1 => ?_
  · show wpAny _ _ (assign (.Name _ _) _ _) _ _ _
    have Z1 := Z.keep k1 B1
    obtain ⟨nb1, nb2, nTo⟩ := S1.sub
    refine wpAny_assign_Name (st_loc Z1.F fun h2 t2 F2 s2 => ?_)
    obtain ⟨tc, tv, T1⟩ := T1
    have e2 : Ext [Lw] h1 h2 := extOf s2
    have q2 : SeqK h1 h2 := seqK_ext e2 fun n m => List.mem_singleton.mp m ▸ noSeq_loc Z1.F
    have B2 : Grow b h2 := e2.keepBase (fun n m => List.mem_singleton.mp m ▸ nb1) B1
    have T2 : IsTag h2 a (.int c tc) (pv.val tv) := by
      obtain ⟨dx', o', p1, p2⟩ := T1
      obtain ⟨ol, hol, hdl⟩ := loc_obj F2
      by_cases hd' : dx' = Lw
      · refine ⟨dx', ol, (s2.2 a fun z => ?_).trans p1, hd' ▸ hol⟩
        obtain ⟨m, ⟨oo, es, ep, hoo, hdd, _⟩, _⟩ := Z1.F
        rw [z, hoo] at p1; cases p1; cases hdd
      · refine ⟨dx', o', (s2.2 a fun z => ?_).trans p1, (s2.2 dx' hd').trans p2⟩
        obtain ⟨m, ⟨oo, es, ep, hoo, hdd, _⟩, _⟩ := Z1.F
        rw [z, hoo] at p1; cases p1; cases hdd
    have G2 := G.grow B2
    show wpAny _ _ (execs [.Expr (.Call (.Attribute (.Name _ _) _ _) [.Tuple [.Attribute (.Name _ _) _ _, .Attribute (.Name _ _) _ _] _ _] [] _) _] _) _ _ _
    refine wpAny_execs_cons (told_pair (l0 := ("tag", .ref a) :: lw0 nv pa told wd) F2 rfl (Z1.T.seq q2) (by rw [hvl]; omega) (fun Q E hq => Attribute_name (ev_loc F2 rfl (attr_code hA.calm G2 T2 fun h3 t3 k3 => hq h3 t3 tc k3)))
      (fun h3 t3 Q E k3 hq => Attribute_name (ev_loc (F2.grow k3) rfl (attr_value hA.calm (G2.grow k3) (T2.grow k3) fun h4 t4 k4 => hq h4 t4 tv k4))) fun h3 h4 t4 v k3 s4 T4 V4 => ?_)
    have hlt : i < pl.length := (List.getElem?_eq_some_iff.mp hp).1
    have hpi : pl[i] = (c, pv) := (List.getElem?_eq_some_iff.mp hp).2
    have hdrop : pl.drop i = (c, pv) :: pl.drop (i + 1) := by rw [← hpi]; exact List.drop_eq_getElem_cons hlt
    have htake : pl.take (i + 1) = pl.take i ++ [(c, pv)] := by rw [← hpi]; exact (List.take_append_getElem hlt).symm
    have T3 : h3.IsList told vs.toArray := listK_grow k3 _ _ (ToldAt.list (Z1.T.seq q2))
    have e4 : Ext [told] h3 h4 := extOf s4
    have F4 : Loc h4 Lw (("tag", .ref a) :: lw0 nv pa told wd) := loc_ext (F2.grow k3) e4 (by simp [nTo.symm])
    have pa3 : h3.IsList pa pvs.toArray := by
      obtain ⟨o, ho, hc, n, hd⟩ := Z1.P
      obtain ⟨sl, q⟩ := q2 _ o ho ⟨_, _, hd⟩
      exact ⟨_, k3 _ _ q, hc, n, hd⟩
    have ee : Ext [Lw, told] h1 h4 := ((e2.mono (by simp)).trans (k3.ext)).trans (e4.mono (by simp))
    refine wpAny_execs_nil ⟨_, by show pl.length + 1 - (i + 1) < n; omega, h4, _, t4, i + 1, st', gs', vs ++ [v], rfl, rfl, hlt, S1.ext ee ⟨_, F4⟩ ⟨_, T4.list⟩, ?_, fun x => by rw [← hg x]; simp, by simp [hvl], ?_, ?_⟩
    · have hlt2 : gi < g.size := (Array.getElem?_eq_some_iff.mp hgs).1
      simp [hlt2]
    · refine { B := e4.keepBase (fun n m => List.mem_singleton.mp m ▸ nb2) (B2.trans k3), F := F4.weak ⟨rfl, rfl, rfl, rfl, trivial⟩, T := T4, U := ?_, P := isList_ext pa3 e4 (by simp [hpt]), V := tups_but ((Z1.V.seq q2).seq (seqK_grow k3)) s4 T3 }
      rw [htake]
      exact (tups_but ((Z1.U.seq q2).seq (seqK_grow k3)) s4 T3).snoc (tupIs_but V4 s4 T3)
    · rw [hv, hdrop, htake]
      simp only [vRun, e, List.append_assoc, List.singleton_append]
  · have hlen : pl.length ≤ i := List.getElem?_eq_none_iff.mp hp
    have hd : pl.drop i = [] := List.drop_eq_nil_of_le hlen
    have ht : pl.take i = pl := List.take_of_length_le hlen
    rw [hd, ht] at hv
    rw [ht] at Z
    simp only [vRun, e, List.append_nil] at hv
    refine wpAny_execs_nil ?_
    rw [hg]
    have Z1 := Z.keep k1 B1
    have := hN h1 t1 vs (by rw [hv])
    rw [hv] at this
    exact this Z1
  · have hvv : vRun (st0 dx) pl = (pl.take i, some C) := by
      rcases er with ⟨c, pv, hp, e⟩ | ⟨hp, e⟩
      · have hlt : i < pl.length := (List.getElem?_eq_some_iff.mp hp).1
        have hpi : pl[i] = (c, pv) := (List.getElem?_eq_some_iff.mp hp).2
        have hdrop : pl.drop i = (c, pv) :: pl.drop (i + 1) := by rw [← hpi]; exact List.drop_eq_getElem_cons hlt
        rw [hv, hdrop]; simp [vRun, e]
      · have hlen : pl.length ≤ i := List.getElem?_eq_none_iff.mp hp
        have hd : pl.drop i = [] := List.drop_eq_nil_of_le hlen
        rw [hv, hd]; simp [vRun, e]
    rw [hg]
    have := hE h1 t1 vs e C a0 (by rw [hvv]) (fails_cls er)
    rw [hvv] at this
    exact this (Z.keep k1 (fun b o e => f1.1 b o e)) f1
end
end Mine
namespace Mine
theorem erase1 (h : Heap) (a : Addr) : ∃ b : Heap, b.get? a = none ∧ ∀ x, x ≠ a → b.get? x = h.get? x := by
  refine ⟨h.update a (fun o => { o with data := .freed }), ?_, fun x hx => Heap.get?_update_other _ _ (Ne.symm hx)⟩
  obtain ⟨objs, life⟩ := h
  show (match (objs.modify a _)[a]? with | some ⟨_, _, .freed, _⟩ => none | o => o) = none
  rw [Array.getElem?_modify]
  simp only [if_true]
  cases objs[a]? <;> rfl
theorem erase3 (h : Heap) (x y z : Addr) : ∃ b : Heap, (∀ n ∈ [x, y, z], b.get? n = none) ∧ ∀ n, n ∉ [x, y, z] → b.get? n = h.get? n := by
  obtain ⟨b1, p1, q1⟩ := erase1 h x
  obtain ⟨b2, p2, q2⟩ := erase1 b1 y
  obtain ⟨b3, p3, q3⟩ := erase1 b2 z
  refine ⟨b3, fun n m => ?_, fun n m => ?_⟩
  · by_cases e3 : n = z
    · rw [e3, p3]
    · rw [q3 n e3]
      by_cases e2 : n = y
      · rw [e2, p2]
      · rw [q2 n e2]
        have : n = x := by
          simp only [List.mem_cons, List.not_mem_nil, or_false] at m
          exact m.resolve_right fun q => q.elim e2 e3
        rw [this, p1]
  · simp only [List.mem_cons, List.not_mem_nil, or_false, not_or] at m
    rw [q3 n m.2.2, q2 n m.2.1, q1 n m.1]
theorem fn_esv (w : World) : ∃ o fd, (hd.heap_39 w.params).lookup 198 = some o ∧ o.data = .func fd ∧ fd.scope.isCoroutine = false ∧ fd.scope.isGenerator = true ∧ fd.body = .stmts (bodyOf esvDef) ∧ (∀ v, bindArgs fd ⟨[v], []⟩ = (pure [(("tags" : Str), v)] : Sem (List (Str × Value)))) ∧ fd.scope = scopeOf esvDef ∧
    (∀ L, newEnv fd.scope L fd.globals fd.closure (fd.qualname ++ ".<locals>.") (some 198) fd.code none fd.builtins = esvEnv L) ∧ (∀ h, (hd.heap_39 w.params).In h → h.CodeRec fd.code fd.qualname) :=
  ⟨_, _, rfl, rfl, rfl, rfl, rfl, fun v => by rfl, rfl, fun L => by rfl, fun h K => ⟨_, _, _, _, rfl, K _ _ rfl, rfl, rfl⟩⟩
section
variable {w : World} {A : Around} {E Q : Value → Shared → Prop} {h : Heap} {g : Array GenState} {d : Drawn} {t : Nat} {os : OsState} {v : Value}
theorem call_esv (hroom : A.depth < recursionLimit) (G : Glo w h) (hQ : ∀ L ga h' t', h.get? L = none → h.get? ga = none → L ≠ ga → Grow h h' → Loc h' L [("tags", v)] → h'.IsGen ga g.size → Q (.ref ga) ⟨h', g.push (.fresh (cE1 L)), d, t', os⟩) :
    wpAny (model PG w) A (call (.ref 198) [v]) Q E ⟨h, g, d, t, os⟩ := by
  obtain ⟨o, fd, ho, hd, hco, hgen, hbody, hbind, hsc, henv, hcr⟩ := fn_esv w
  refine wpAny_call (codeAny_call_generator hroom (G.K _ _ ho) hd hco hgen hbody (hcr _ G.K) ?_)
  rw [hbind]
  refine wpAny_pure (wpAny_newFunctionEnv (by rw [hsc]; decide) (by intro x m; rw [List.mem_singleton.mp m, hsc]; rfl) (fun h1 hns hsb => ?_) (by rw [hsc]; rfl))
  rw [henv]
  dsimp only at hns hsb ⊢
  have n1 := get_size h
  have gr : Grow h h1 := fun b o e => hsb.extBut b o (fun q => by rw [q, n1] at e; cases e) (Heap.get?_push_of_some _ e)
  obtain ⟨oL, es, ep, hoL, rL⟩ := id hns
  have n2 := get_size h1
  refine ⟨(G.grow gr).lim, hQ h.objs.size h1.objs.size _ _ n1 ?_ (fun q => by rw [← q, hoL] at n2; cases n2) (gr.trans (push_grow _ _)) ?_ ?_⟩
  · cases q : h.get? h1.objs.size with
    | none => rfl
    | some o => rw [gr _ _ q] at n2; cases n2
  · exact Loc.grow ⟨_, hns, fun x u e => by simpa using e⟩ (push_grow _ _)
  · exact ⟨_, _, _, Heap.get?_push_size _ rfl, rfl, rfl, rfl⟩
end
end Mine
namespace Mine
def wordOf : Option Addr → Str
  | none => ""
  | some C => if C = 56 then "group" else "data"
section
variable {w : World} {A : Around} {b0 h : Heap} {g : Array GenState} {d : Drawn} {t : Nat} {os : OsState} {Lw told pa : Addr} {dx : Str} {pl : List (Int × PV)} {nv wd : Value} {pvs vs : List Value}

def TwoOk (h0 : Heap) (pvs : List Value) (pl : List (Int × PV)) (i : Nat) (q : Value × Value) : Prop :=
  ∀ v, pvs[i]? = some v → (∃ a : Addr, v = Value.ref a ∧ IsTup h0 a #[q.1, q.2]) ∧ ∃ (c : Int) (pv : PV) (tc tv : Tok), pl[i]? = some (c, pv) ∧ q = (Value.int c tc, pv.val tv)
theorem two_of {h0 : Heap} (V : Tups h0 pvs pl) : ∃ two : Nat → Value × Value, ∀ i, TwoOk h0 pvs pl i (two i) := by
  have : ∀ i, ∃ q : Value × Value, TwoOk h0 pvs pl i q := by
    intro i
    cases hp : pl[i]? with
    | none => exact ⟨(.none, .none), fun v e => by
        have := (List.getElem?_eq_some_iff.mp e).1
        rw [V.1] at this
        rw [List.getElem?_eq_none_iff] at hp; omega⟩
    | some p =>
      obtain ⟨v, hv, a, o, n, tc, tv, e, ho, hc, hd⟩ := V.2 i p hp
      refine ⟨(.int p.1 tc, p.2.val tv), fun v' e' => ?_⟩
      rw [hv] at e'; cases e'
      exact ⟨⟨a, e, o, ho, hc, n, hd⟩, p.1, p.2, tc, tv, hp, rfl⟩
  exact Classical.axiomOfChoice this

/-- the tags made of the pairs -/
def TagsJ (Lw told : Addr) (pl : List (Int × PV)) : Addr → Addr → Addr → Nat → Heap → List Value → Prop := fun C I D i h ys =>
  ys.length = i ∧ ∀ (k : Nat) c pv, k < i → pl[k]? = some (c, pv) → ∃ a tc tv, ys[k]? = some (.ref a) ∧ TagIn [C, I, D, Lw, told] h a (.int c tc) (pv.val tv)
theorem tagsJ_stable : JStable (TagsJ Lw told pl) := fun C I D i h1 h2 ys x e => ⟨x.1, fun k c pv hk hp => by
  obtain ⟨a, tc, tv, q, T⟩ := x.2 k c pv hk hp
  exact ⟨a, tc, tv, q, T.ext e (by simp)⟩⟩
abbrev compElt : Expr → Expr
  | .ListComp e _ _ _ => e
  | _ => default
abbrev compScope : Expr → Scope
  | .ListComp _ _ s _ => s
  | _ => default
abbrev callArg : Expr → Expr
  | .Call _ [a] _ _ => a
  | _ => default
abbrev lcOf (k : Nat) : Expr := callArg (forIter (lawFor k))
theorem tags_step {h0 : Heap} {two : Nat → Value × Value} {k : Nat} (hk : k = 3) (cA : Calm A) (G : Glo w h0) (oW : ∃ o, h0.get? Lw = some o) (oT : ∃ o, h0.get? told = some o)
    (htwo : ∀ i, TwoOk h0 pvs pl i (two i)) :
    JStep w A (lawEnv Lw) (compScope (lcOf k)) g d os (TagsJ Lw told pl) h0 pvs (fun i _ => [("value", (two i).2), ("code", (two i).1)]) (compElt (lcOf k)) := by
  subst hk
  intro C I D i h1 t1 ys v E Q hv J G1 F1 oI oD hq
  obtain ⟨_, c, pv, tc, tv, hp, htw⟩ := htwo i v hv
  dsimp only at F1
  rw [htw] at F1
  dsimp only at F1
  have Gh := G.grow G1
  show wpAny _ _ (eval (.Call (.Name _ _) [.Name _ _, .Name _ _] [] _) _) _ _ _
  refine wpAny_Call_ofName (ev_globE Gh (v := .ref 173) (by kernel_rfl!) (callWith_K (f := .ref 173) (h₀ := h1) Gh.K (by kernel_rfl!) (Calls.spliced_cons (ev_locE (env := cenvOf _ (lawEnv Lw) C) F1 rfl (Calls.spliced_cons (ev_locE (env := cenvOf _ (lawEnv Lw) C) F1 rfl (Calls.spliced_nil ⟨Gh.K, ?_⟩)))))))
  refine call_tag cA Gh fun a h2 t2 dx o k2 p q n1 n2 => hq (.ref a) h2 t2 k2 ⟨by simp [J.1], fun k c' pv' hk hp' => ?_⟩
  obtain ⟨oW, hoW⟩ := oW
  obtain ⟨oT, hoT⟩ := oT
  obtain ⟨oC, hoC, _⟩ := loc_obj F1
  obtain ⟨oI, hoI⟩ := oI
  obtain ⟨oD, hoD⟩ := oD
  have ne : ∀ {x : Addr}, h1.get? x = none → x ∉ [C, I, D, Lw, told] := fun {x} n m => by
    simp only [List.mem_cons, List.not_mem_nil, or_false] at m
    rcases m with m | m | m | m | m <;> rw [m] at n
    · rw [hoC] at n; cases n
    · rw [hoI] at n; cases n
    · rw [hoD] at n; cases n
    · rw [G1 _ _ hoW] at n; cases n
    · rw [G1 _ _ hoT] at n; cases n
  by_cases hki : k < i
  · obtain ⟨a', tc', tv', q', T'⟩ := J.2 k c' pv' hki hp'
    exact ⟨a', tc', tv', by rw [List.getElem?_append_left (by rw [J.1]; exact hki)]; exact q', T'.grow k2⟩
  · have : k = i := by omega
    subst this
    rw [hp] at hp'; cases hp'
    exact ⟨a, tc, tv, by rw [List.getElem?_append_right (by rw [J.1]; exact Nat.le_refl _), J.1, Nat.sub_self]; rfl, dx, o, p, q, ne n1, ne n2⟩
end
end Mine
namespace Mine
section
variable {w : World} {A : Around} {b0 h : Heap} {g : Array GenState} {d : Drawn} {t : Nat} {os : OsState} {Lw told pa : Addr} {dx : Str} {pl : List (Int × PV)} {nv : Value} {pvs vs : List Value}

/-- a run over made tags: what the generator starts from -/
theorem law_try3 {tw : Tok} {Q : Flow → Shared → Prop} {E : Value → Shared → Prop} (hA : CalmL A Lw) (G : Glo w b0) (n0 : b0.get? Lw = none) (n1 : b0.get? told = none) (hpt : pa ≠ told) (hK : ∀ (i : Nat) c pv, pl[i]? = some (c, pv) → KindOk c pv) (hdl : dx.length ≤ 200) (hpl : pl.length ≤ 900)
    (hd0 : ∃ c, pl[0]? = some (c, .s dx)) (Z : LF b0 Lw pa told nv (.str "" tw) pvs [] pl [] h)
    (hQ : ∀ h' t' vs tk, LF b0 Lw pa told nv (.str (wordOf (vRun (st0 dx) pl).2) tk) pvs vs pl (vRun (st0 dx) pl).1 h' → Q .next ⟨h', g.push .finished, d, t', os⟩) :
    wpAny (model PG w) A (exec (lawStmt 3) (lawEnv Lw)) Q E ⟨h, g, d, t, os⟩ := by
  show wpAny _ _ (exec (.Try [.For _ (.Call (.Name _ _) [.ListComp _ [⟨.Tuple [.Name _ _, .Name _ _] _ _, .Name _ _, [], 0⟩] _ _] [] _) _ [] _] [.ExceptHandler (some (.Name _ _)) none [.Assign [.Name _ _] (.Constant _ _ _) _] _, .ExceptHandler (some (.Name _ _)) none [.Assign [.Name _ _] (.Constant _ _ _) _] _] [] [] _) _) _ _ _
  obtain ⟨two, htwo⟩ := two_of Z.V
  obtain ⟨oW, hoW, hdW⟩ := loc_obj Z.F
  obtain ⟨nT, slT, hoT⟩ := id Z.T
  obtain ⟨o198, fd198, ho198, hd198, _⟩ := fn_esv w
  refine wpAny_Try_except (wpAny_execs_cons (wpAny_For (wpAny_Call_ofName (ev_glob (G.grow Z.B) (v := .ref 198) (by kernel_rfl!) (Calls.callWith_function (o := o198) (fd := fd198) (Calls.evalArgs_plain (Calls.spliced_cons
    (lc_pair (TagsJ Lw told pl) (l := pa) (items := pvs) (h0 := h) (two := two) hA.handled (by decide) rfl (by decide) (by decide) rfl rfl (by decide) (by rw [Z.V.1, sizeLine_eq]; omega) Z.P (fun i v e => (htwo i v e).1)
      (fun C I D h' T k _ _ _ => ⟨rfl, fun k c pv hk => absurd hk (Nat.not_lt_zero _)⟩) tagsJ_stable (tags_step rfl hA.calm (G.grow Z.B) ⟨_, hoW⟩ ⟨_, hoT⟩ htwo) (fun C I D h1 t1 ys T J k1 D1 => ?_) (fun Q E hq => ev_loc Z.F rfl (hq _))))))))))
  have Z1 := Z.keep (ks_grow k1) (Z.B.trans k1)
  have G1 := G.grow Z1.B
  refine Calls.spliced_nil ⟨⟨G1.K _ _ ho198, hd198⟩, call_esv hA.calm.room G1 fun L ga h2 t2 nL nG hLG k2 F2 Ga2 => ?_⟩
  have Z2 := Z1.keep (ks_grow k2) (Z1.B.trans k2)
  have hoW2 := k2 _ _ (k1 _ _ hoW)
  have hoT2 := k2 _ _ (k1 _ _ hoT)
  have hLW : L ≠ Lw := fun q => by rw [q, k1 _ _ hoW] at nL; cases nL
  have hLT : told ≠ L := fun q => by rw [← q, k1 _ _ hoT] at nL; cases nL
  have hTW : told ≠ Lw := fun q => by
    have := hoT.symm.trans (q ▸ hoW)
    obtain ⟨m, ⟨oo, es, ep, hoo, hdd, _⟩, _⟩ := Z.F
    rw [← q, hoT] at hoo; cases hoo; cases hdd
  have hGW : ga ≠ Lw := fun q => by rw [q, k1 _ _ hoW] at nG; cases nG
  have hGT : ga ≠ told := fun q => by rw [q, k1 _ _ hoT] at nG; cases nG
  obtain ⟨b, be, bs⟩ := erase3 h2 L Lw told
  have Bb : Grow b h2 := fun x o e => by
    by_cases m : x ∈ [L, Lw, told]
    · rw [be x m] at e; cases e
    · rw [← bs x m]; exact e
  have hL0 : b0.get? L = none := by
    cases q : b0.get? L with
    | none => rfl
    | some o => rw [Z1.B _ _ q] at nL; cases nL
  have B0 : Grow b0 b := fun x o e => by
    rw [bs x (fun m => ?_)]
    · exact Z2.B _ _ e
    · simp only [List.mem_cons, List.not_mem_nil, or_false] at m
      rcases m with m | m | m <;> rw [m] at e
      · rw [hL0] at e; cases e
      · rw [n0] at e; cases e
      · rw [n1] at e; cases e
  have Gab : b.IsGen ga g.size := by
    obtain ⟨o, nm, qn, ho, r⟩ := Ga2
    exact ⟨o, nm, qn, by rw [bs ga (by simp [hLG.symm, hGW, hGT])]; exact ho, r⟩
  have T2 : TagsAt [L, Lw, told] h2 D pl := by
    obtain ⟨oD, hoD, rD⟩ := id D1
    refine ⟨?_, ys.toArray, listK_grow k2 _ _ D1, by simp [J.1, Z.V.1], fun i c pv e => ?_⟩
    · simp only [List.mem_cons, List.not_mem_nil, or_false, not_or]
      exact ⟨fun q => (by rw [← q, hoD] at nL; cases nL), fun q => (by have := T.d; rw [q, hoW] at this; cases this), fun q => (by have := T.d; rw [q, hoT] at this; cases this)⟩
    · have hi : i < pvs.length := by rw [Z.V.1]; exact (List.getElem?_eq_some_iff.mp e).1
      obtain ⟨a, tc, tv, q, dx', o', p1, p2, r1, r2⟩ := J.2 i c pv hi e
      refine ⟨a, tc, tv, by simpa using q, dx', o', k2 _ _ p1, k2 _ _ p2, ?_, ?_⟩
      · simp only [List.mem_cons, List.not_mem_nil, or_false, not_or] at r1 ⊢
        exact ⟨fun q => (by rw [← q, p1] at nL; cases nL), r1.2.2.2.1, r1.2.2.2.2⟩
      · simp only [List.mem_cons, List.not_mem_nil, or_false, not_or] at r2 ⊢
        exact ⟨fun q => (by rw [← q, p2] at nL; cases nL), r2.2.2.2.1, r2.2.2.2.2⟩
  have Y : Young w b [L, Lw, told] L Lw told D pl dx h2 := { G := G.grow B0, hb := be, B := Bb, F := F2, T := T2, hd := hd0, LW := by simp, OW := by simp, LO := hLW, O := ⟨_, Z2.F⟩, TW := by simp, TL := hLT, TO := hTW, Ti := ⟨_, Z2.T.list⟩ }
  refine wpAny_pyIter_gen Ga2 ?_
  have eg : ((g.push (.fresh (cE1 L))).setIfInBounds g.size .finished) = g.push .finished := by
    apply Array.ext
    · simp
    · intro i h1 h2
      by_cases hi : i = g.size
      · subst hi; simp
      · have hi' : i < g.size := by simp at h2; omega
        rw [Array.getElem_setIfInBounds_ne (by simpa using h2) (Ne.symm hi), Array.getElem_push_lt hi', Array.getElem_push_lt hi']
  have up : ∀ {h' : Heap} {wd : Value} {vs tl}, LF b Lw pa told nv wd pvs vs pl tl h' → LF b0 Lw pa told nv wd pvs vs pl tl h' := fun z => { z with B := B0.trans z.B }
  refine law_loop (w := w) (b := b) (L := L) (lst := D) (dx := dx) (pl := pl) (gi := g.size) (gs := .fresh (cE1 L)) (nv := nv) (wd := .str "" tw) (pvs := pvs) (told := told) (pa := pa) hA (G.grow B0) Gab (by simp) (.inl ⟨rfl, rfl, rfl, Y⟩) hK hdl hpl hpt { Z2 with B := Bb }
    (fun h3 t3 vs3 e3 Z3 => ?_) fun h3 t3 vs3 e C a0 e3 hC Z3 f3 => ?_
  · refine wpAny_execs_nil (wpAny_execs_nil ?_)
    rw [eg]
    have := hQ h3 t3 vs3 tw
    rw [e3] at this
    exact this (up Z3)
  · refine catch2 (w := w) (D1 := 56) (D2 := 68) (x := "word") hA (G.grow B0) f3 Z3.F (fun _ G => isc56 G.K) (fun _ G => isc68 G.K) (fun _ G => clsOf G hC) (by decide) (by decide) (by decide) (by kernel_rfl!) (by kernel_rfl!) ?_ (fun h4 t4 tk q4 B4 F4 => ?_) rfl rfl rfl (by decide) (by decide)
    · rcases hC with rfl | rfl
      · exact .inl rfl
      · exact .inr ⟨rfl, by decide⟩
    · rw [eg]
      refine hQ h4 t4 vs3 tk ?_
      have F4' : Loc h4 Lw (lw0 nv pa told (.str (wordOf (vRun (st0 dx) pl).2) tk)) := by
        rw [e3]
        exact F4.weak ⟨rfl, rfl, rfl, rfl, trivial⟩
      exact up (Z3.weak h4 q4 B4 F4' (Z3.T.seq q4) (Z3.U.seq q4) hpt)
end
end Mine
namespace Mine
abbrev dueDef : Stmt := topStmt 20
abbrev dueEnv (Ld : Addr) : Env := envOf "_law_due" (scopeOf dueDef) Ld 222 (.ref 221)
abbrev dueLoop : List Stmt := bodyOf ((bodyOf dueDef).getD 2 default)
def endV (f : Option Str) (t : Tok) : Value := match f with | none => .none | some e => .str e t
def dl0 (pa told : Addr) (st : GS) (ke kl : Tok) : List (Str × Value) := [("pairs", .ref pa), ("end", endV st.fin ke), ("data", .bool st.data), ("level", .int st.level kl), ("free", .bool st.free), ("told", .ref told)]
def dl1 (i : Nat) (c : Int) (pv : PV) (kk kc kv : Tok) : List (Str × Value) := [("k", .int i kk), ("code", .int c kc), ("value", pv.val kv)]
structure DX (w : World) (b : Heap) (Ld told pa : Addr) (i : Nat) (c : Int) (pv : PV) (st : GS) (h : Heap) : Prop where
  G : Glo w b
  hb : b.get? Ld = none
  B : Grow b h
  F : ∃ k1 k2 k3 k4 k5, Loc h Ld (dl0 pa told st k1 k2 ++ dl1 i c pv k3 k4 k5)
def DRet (told : Addr) (wd : Str) (h : Heap) (v : Value) (h' : Heap) : Prop := Grow h h' ∧ ∃ a n tk, v = .ref a ∧ h'.get? a = some { cls := .type "tuple", data := .seq #[.ref told, .str wd tk] n }
structure KindDue (c : Int) (pv : PV) : Prop where
  ok : KindOk c pv
  str : ∀ x, pv = .s x → PyData.strOk x = true
  cut : ∀ x, pv = .s x → PyData.strOk (cutText x) = true
  c102 : c = 102 → ∃ x, pv = .s x ∧ x.length ≤ 20 ∧ (Txt.charAt x 0).isSome = true ∧ (Txt.item x 0 == ("{" : Str)) = Txt.startswith x "{"
section
variable {w : World} {A : Around} {E : Value → Shared → Prop} {b h : Heap} {g : Array GenState} {d : Drawn} {t : Nat} {os : OsState} {Ld told pa : Addr} {i : Nat} {c : Int} {pv : PV} {st : GS} {Q : Flow → Shared → Prop}
theorem DX.glo (S : DX w b Ld told pa i c pv st h) : Glo w h := S.G.grow S.B
theorem DX.set {h' : Heap} {st' : GS} (S : DX w b Ld told pa i c pv st h) (s : Heap.SameBut Ld h h') (F : ∃ k1 k2 k3 k4 k5, Loc h' Ld (dl0 pa told st' k1 k2 ++ dl1 i c pv k3 k4 k5)) : DX w b Ld told pa i c pv st' h' :=
  { S with B := (extOf s).keepBase (fun n m => List.mem_singleton.mp m ▸ S.hb) S.B, F := F }
theorem due_ret {wd : Str} {p1 p2 p3 p4 : Pos} {k kk : Nat} {l : List (Str × Value)} (F : Loc h Ld l) (hv : l.lookup ("told" : Str) = some (.ref told)) (hQ : ∀ v h' t', DRet told wd h v h' → Q (.ret v) ⟨h', g, d, t', os⟩) :
    wpAny (model PG w) A (execs [.Return (some (.Tuple [.Name "told" p1, .Constant (.str wd) k p2] kk p3)) p4] (dueEnv Ld)) Q E ⟨h, g, d, t, os⟩ := by
  refine wpAny_execs_cons (wpAny_Return_some (Tuple_ (Calls.spliced_cons (ev_loc F hv (Calls.spliced_cons (ev_str (kk := k) (pos := p2) (Calls.spliced_nil (wpAny_newTuple ?_ (by show 2 ≤ sizeLine; decide)))))))))
  exact hQ _ _ _ ⟨push_grow _ _, _, 0, t, rfl, Heap.get?_push_size _ rfl⟩
theorem mkDX {h' : Heap} {st' : GS} {l} {k1 k2 k3 k4 k5 : Tok} (S : DX w b Ld told pa i c pv st h) (e : Ext [Ld] h h') (F : Loc h' Ld l) (V : LookAll l (dl0 pa told st' k1 k2 ++ dl1 i c pv k3 k4 k5)) : DX w b Ld told pa i c pv st' h' :=
  { S with B := e.keepBase (fun n m => List.mem_singleton.mp m ▸ S.hb) S.B, F := ⟨_, _, _, _, _, F.weak V⟩ }
abbrev XQ (w : World) (b : Heap) (Ld told pa : Addr) (i : Nat) (c : Int) (pv : PV) (st' : GS) (h h' : Heap) : Prop := Ext [Ld] h h' ∧ DX w b Ld told pa i c pv st' h'
theorem notIn2 {Q : Value → Shared → Prop} {x y z : Str} {tx ty tz : Tok} (hx : PyData.strOk x = true) (hy : PyData.strOk y = true) (hz : PyData.strOk z = true) (hu : A.units ≤ 90) (hQ : Q (.bool (!(y == x || z == x))) ⟨h, g, d, t, os⟩) {tp : Addr} {n : Nat} (ht : h.get? tp = some { cls := .type "tuple", data := .seq #[.str y ty, .str z tz] n }) :
    wpAny (model PG w) A (compareOp .NotIn (.str x tx) (.ref tp)) Q E ⟨h, g, d, t, os⟩ := by
  refine SeqAt.notIn_tuple_reads (xs := [.str y, .str z]) (d := .str x) (.tuple ht rfl rfl (.cons (.str y ty) (.cons (.str z tz) .nil))) (.str x tx) (by simp [PyData.canLayAll0, PyData.canLay0, hy, hz]) (by simp [PyData.canLay0, hx])
    (by simp only [PyData.depthAll, PyData.depth]; have : cLine = 9900 := rfl; omega) ?_
  have : ([PyData.str y, PyData.str z].any fun q => PyData.eqv q (.str x)) = (y == x || z == x) := by simp [PyData.eqv]
  rw [this]; exact hQ
/-- a name's text looked for in a display of two -/
theorem notIn_two {Q : Bool → Shared → Prop} {e1 e2 : Expr} {n : Str} {p1 p2 p3 : Pos} {kk : Nat} {l : List (Str × Value)} {x y z : Str} {tx : Tok} {whole : Sem Value} (cA : Calm A) (F : Loc h Ld l) (hv : l.lookup n = some (.str x tx)) (hx : PyData.strOk x = true) (hy : PyData.strOk y = true) (hz : PyData.strOk z = true)
    (h1 : ∀ (Q E : Value → Shared → Prop), (∀ ty t1, Q (.str y ty) ⟨h, g, d, t1, os⟩) → wpAny (model PG w) A (eval e1 (dueEnv Ld)) Q E ⟨h, g, d, t, os⟩)
    (h2 : ∀ t1 (Q E : Value → Shared → Prop), (∀ tz t2, Q (.str z tz) ⟨h, g, d, t2, os⟩) → wpAny (model PG w) A (eval e2 (dueEnv Ld)) Q E ⟨h, g, d, t1, os⟩)
    (hQ : ∀ h' t', Grow h h' → Q (!(y == x || z == x)) ⟨h', g, d, t', os⟩)
    (hl : (dueEnv Ld).kindOf n = some .local := by rfl) (hd : (n == ("__debug__" : Str)) = false := by decide) (hs1 : isStarred e1 = false := by rfl) (hs2 : isStarred e2 = false := by rfl) :
    wpAny (model PG w) A (isTrue (.Compare (.Name n p1) [.NotIn] [.Tuple [e1, e2] kk p2] p3) (dueEnv Ld) whole) Q E ⟨h, g, d, t, os⟩ := by
  refine wpAny_isTrue_Compare1 (ev_loc F hv (Tuple_ ?_) rfl hl hd)
  have es : starEach [e1, e2] (dueEnv Ld) = [(false, eval e1 (dueEnv Ld)), (false, eval e2 (dueEnv Ld))] := by
    have a1 : starEach (e1 :: [e2]) (dueEnv Ld) = (false, eval e1 (dueEnv Ld)) :: starEach [e2] (dueEnv Ld) := by cases e1 <;> first | rfl | cases hs1
    rw [a1, starEach_one hs2]
  rw [es]
  refine Calls.spliced_cons (h1 _ _ fun ty t1 => Calls.spliced_cons (h2 t1 _ _ fun tz t2 => Calls.spliced_nil ?_))
  refine wpAny_newTuple ?_ (by show 2 ≤ sizeLine; decide)
  exact notIn2 hx hy hz cA.units (wpAny_truthy_bool (hQ _ _ (push_grow _ _))) (Heap.get?_push_size _ rfl)
theorem DX.grow {h' : Heap} (S : DX w b Ld told pa i c pv st h) (k : Grow h h') : DX w b Ld told pa i c pv st h' := { S with B := S.B.trans k, F := let ⟨q1, q2, q3, q4, q5, q6⟩ := S.F; ⟨q1, q2, q3, q4, q5, q6.grow k⟩ }
theorem due_d (S : DX w b Ld told pa i c pv st h) (K : KindDue c pv)
    (hQ : ∀ st' h' t', dStep st c pv = some st' → Ext [Ld] h h' → DX w b Ld told pa i c pv st' h' → Q .next ⟨h', g, d, t', os⟩)
    (hR : dStep st c pv = none → ∀ h1 v h' t', Ext [Ld] h h1 → DRet told "data" h1 v h' → Q (.ret v) ⟨h', g, d, t', os⟩) (cA : Calm A) :
    wpAny (model PG w) A (exec (dueLoop.getD 1 default) (dueEnv Ld)) Q E ⟨h, g, d, t, os⟩ := by
  show wpAny _ _ (exec (.If (.Name _ _) [.If (.Compare (.Name _ _) [.Lt] [.Constant _ _ _] _) [.Return (some (.Tuple [.Name _ _, .Constant _ _ _] _ _)) _] [] _, .If (.Compare (.Name _ _) [.Eq] [.Constant _ _ _] _) [.AugAssign (.Name _ _) .Add (.IfExp (.Compare (.Name _ _) [.Eq] [.Constant _ _ _] _) (.Constant _ _ _) (.UnaryOp .USub (.Constant _ _ _) _) _) _,
    .If (.BoolOp .Or [.Compare (.Name _ _) [.NotIn] [.Tuple [.Constant _ _ _, .Constant _ _ _] _ _] _, .Compare (.Name _ _) [.Lt] [.Constant _ _ _] _] _) [.Return (some (.Tuple [.Name _ _, .Constant _ _ _] _ _)) _] [] _] [] _] [] _) _) _ _ _
  obtain ⟨k1, k2, k3, k4, k5, F⟩ := S.F
  refine wpAny_If (wpAny_isTrue_value (ev_loc F rfl (wpAny_truthy_bool ?_)))
  cases hdt : st.data with
  | false => exact wpAny_execs_nil (hQ st _ _ (by simp [dStep, hdt]) (Ext.refl _ _) S)
  | true =>
    refine wpAny_execs_cons (wpAny_If (wpAny_isTrue_Compare1 (ev_loc F rfl (ev_int (lt_int (wpAny_truthy_bool ?_))))))
    by_cases hlt : c < 1000
    · rw [decide_eq_true hlt]
      exact due_ret F rfl fun v h' t' r => hR (by simp [dStep, hdt, hlt]) h v h' t' (Ext.refl _ _) r
    · rw [decide_eq_false hlt]
      refine wpAny_execs_nil (wpAny_execs_cons (wpAny_If (wpAny_isTrue_Compare1 (ev_loc F rfl (ev_int (eq_int (wpAny_truthy_bool ?_)))))))
      by_cases hc : c = 1002
      · subst hc
        obtain ⟨x, rfl, hx⟩ := K.ok.k1002 rfl
        refine wpAny_execs_cons (wpAny_AugAssign_Name (load_loc F rfl (wpAny_IfExp (wpAny_isTrue_Compare1 (ev_loc (v := .str x k5) F rfl (ev_str (eq_str (wpAny_truthy_bool ?_))))))))
        by_cases x1 : x = "{"
        · rw [beq_iff_eq.mpr x1]
          refine ev_int (iaddI (st_loc F fun h5 t5 F5 s5 => ?_))
          have S5 : DX w b Ld told pa i 1002 (.s x) { st with level := st.level + 1 } h5 := mkDX S (extOf s5) F5 ⟨rfl, rfl, rfl, rfl, rfl, rfl, rfl, rfl, rfl, trivial⟩
          refine wpAny_execs_cons (wpAny_If (wpAny_isTrue_BoolOp (wpAny_allTrue_Or_cons (notIn_two (x := x) cA F5 rfl (K.str _ rfl) (by decide +kernel) (by decide +kernel) (fun Q E hq => ev_str (hq _ _)) (fun t1 Q E hq => ev_str (hq _ _)) fun h6 t6 k6 => ?_))))
          rw [show (!((("{" : Str) == x) || (("}" : Str) == x))) = false by rw [x1]; decide +kernel]
          refine wpAny_allTrue_Or_cons (wpAny_isTrue_Compare1 (ev_loc (F5.grow k6) rfl (ev_int (lt_int (wpAny_truthy_bool ?_)))))
          rw [decide_eq_false (by omega)]
          exact wpAny_allTrue_Or_nil (wpAny_execs_nil (wpAny_execs_nil (wpAny_execs_nil (hQ { st with level := st.level + 1 } _ _ (by simp [dStep, hdt, hlt, x1]) ((extOf s5).trans k6.ext) (S5.grow k6)))))
        · rw [beq_eq_false_iff_ne.mpr x1]
          refine wpAny_UnaryOp (ev_int (neg_int (iaddI (st_loc F fun h5 t5 F5 s5 => ?_))))
          have S5 : ∀ n : Nat, (st.level : Int) + -1 = n → DX w b Ld told pa i 1002 (.s x) { st with level := n } h5 := fun n e => by rw [e] at F5; exact mkDX S (extOf s5) F5 ⟨rfl, rfl, rfl, rfl, rfl, rfl, rfl, rfl, rfl, trivial⟩
          refine wpAny_execs_cons (wpAny_If (wpAny_isTrue_BoolOp (wpAny_allTrue_Or_cons (notIn_two (x := x) cA F5 rfl (K.str _ rfl) (by decide +kernel) (by decide +kernel) (fun Q E hq => ev_str (hq _ _)) (fun t1 Q E hq => ev_str (hq _ _)) fun h6 t6 k6 => ?_))))
          rw [show (("{" : Str) == x) = false from beq_eq_false_iff_ne.mpr (Ne.symm x1), Bool.false_or]
          by_cases x2 : x = "}"
          · rw [show (("}" : Str) == x) = true from beq_iff_eq.mpr x2.symm]
            refine wpAny_allTrue_Or_cons (wpAny_isTrue_Compare1 (ev_loc (F5.grow k6) rfl (ev_int (lt_int (wpAny_truthy_bool ?_)))))
            cases hl : st.level with
            | zero =>
              rw [decide_eq_true (by omega)]
              exact due_ret (F5.grow k6) rfl fun v h' t' r => hR (by simp [dStep, hdt, x2, hl, brace_ne]) h6 v h' t' ((extOf s5).trans k6.ext) r
            | succ n =>
              rw [decide_eq_false (by omega)]
              exact wpAny_allTrue_Or_nil (wpAny_execs_nil (wpAny_execs_nil (wpAny_execs_nil (hQ { st with level := n } _ _ (by simp [dStep, hdt, x2, hl, brace_ne]) ((extOf s5).trans k6.ext) ((S5 n (by omega)).grow k6)))))
          · rw [show (("}" : Str) == x) = false from beq_eq_false_iff_ne.mpr (Ne.symm x2)]
            exact due_ret (F5.grow k6) rfl fun v h' t' r => hR (by simp [dStep, hdt, x1, x2]) h6 v h' t' ((extOf s5).trans k6.ext) r
      · rw [beq_eq_false_iff_ne.mpr hc]
        exact wpAny_execs_nil (wpAny_execs_nil (hQ st _ _ (by simp [dStep, hdt, hlt, hc]) (Ext.refl _ _) S))
end
end Mine
namespace Mine
section
variable {w : World} {A : Around} {E : Value → Shared → Prop} {b h : Heap} {g : Array GenState} {d : Drawn} {t : Nat} {os : OsState} {Ld told pa : Addr} {i : Nat} {c : Int} {pv : PV} {st : GS} {Q : Flow → Shared → Prop}
theorem isNone {f : Option Str} {te : Tok} {Q : Bool → Shared → Prop} {n : Str} {p1 p2 p3 : Pos} {kk : Nat} {l : List (Str × Value)} {whole : Sem Value} (F : Loc h Ld l) (hv : l.lookup n = some (endV f te)) (hQ : Q f.isNone ⟨h, g, d, t, os⟩)
    (hl : (dueEnv Ld).kindOf n = some .local := by rfl) (hd : (n == ("__debug__" : Str)) = false := by decide) :
    wpAny (model PG w) A (isTrue (.Compare (.Name n p1) [.Is] [.Constant .none kk p2] p3) (dueEnv Ld) whole) Q E ⟨h, g, d, t, os⟩ := by
  refine wpAny_isTrue_Compare1 (ev_loc F hv (wpAny_Constant_none ?_) rfl hl hd)
  cases f with
  | none => exact wpAny_is_self rfl (wpAny_truthy_bool hQ)
  | some e => exact is_str_none (wpAny_truthy_bool hQ)
theorem isNotNone {f : Option Str} {te : Tok} {Q : Bool → Shared → Prop} {n : Str} {p1 p2 p3 : Pos} {kk : Nat} {l : List (Str × Value)} {whole : Sem Value} (F : Loc h Ld l) (hv : l.lookup n = some (endV f te)) (hQ : Q f.isSome ⟨h, g, d, t, os⟩)
    (hl : (dueEnv Ld).kindOf n = some .local := by rfl) (hd : (n == ("__debug__" : Str)) = false := by decide) :
    wpAny (model PG w) A (isTrue (.Compare (.Name n p1) [.IsNot] [.Constant .none kk p2] p3) (dueEnv Ld) whole) Q E ⟨h, g, d, t, os⟩ := by
  refine wpAny_isTrue_Compare1 (ev_loc F hv (wpAny_Constant_none ?_) rfl hl hd)
  cases f with
  | none => exact wpAny_isNot_self rfl (wpAny_truthy_bool hQ)
  | some e => exact isnot_str_none (wpAny_truthy_bool hQ)
theorem due_a (S : DX w b Ld told pa i c pv st h) (K : KindDue c pv) (hf : ∀ e, st.fin = some e → PyData.strOk e = true)
    (hQ : ∀ st' h' t', aStep st c pv = some st' → Ext [Ld] h h' → DX w b Ld told pa i c pv st' h' → Q .next ⟨h', g, d, t', os⟩)
    (hR : aStep st c pv = none → ∀ h1 v h' t', Ext [Ld] h h1 → DRet told "group" h1 v h' → Q (.ret v) ⟨h', g, d, t', os⟩) (cA : Calm A) :
    wpAny (model PG w) A (exec (dueLoop.getD 2 default) (dueEnv Ld)) Q E ⟨h, g, d, t, os⟩ := by
  show wpAny _ _ (exec (.If (.BoolOp .And [.Compare (.Name _ _) [.Eq] [.Constant _ _ _] _, .UnaryOp .Not (.Name _ _) _] _) [.If (.Compare (.Subscript (.Name _ _) (.Constant _ _ _) _) [.Eq] [.Constant _ _ _] _) [.If (.Compare (.Name _ _) [.IsNot] [.Constant _ _ _] _) [.Return (some (.Tuple [.Name _ _, .Constant _ _ _] _ _)) _] [] _, .Assign [.Name _ _] (.BinOp (.Subscript (.Name _ _) (.Slice (some (.Constant _ _ _)) none none _) _) .Add (.Constant _ _ _) _) _]
    [.If (.BoolOp .Or [.Compare (.Name _ _) [.Is] [.Constant _ _ _] _, .Compare (.Name _ _) [.NotIn] [.Tuple [.Constant _ _ _, .Name _ _] _ _] _] _) [.Return (some (.Tuple [.Name _ _, .Constant _ _ _] _ _)) _] [.Assign [.Name _ _] (.Constant _ _ _) _] _] _] [] _) _) _ _ _
  obtain ⟨k1, k2, k3, k4, k5, F⟩ := S.F
  refine wpAny_If (wpAny_isTrue_BoolOp (wpAny_allTrue_And_cons (wpAny_isTrue_Compare1 (ev_loc F rfl (ev_int (eq_int (wpAny_truthy_bool ?_)))))))
  by_cases hc : c = 102
  · subst hc
    obtain ⟨x, rfl, hx, hch, hst⟩ := K.c102 rfl
    rw [show ((102 : Int) == 102) = true from rfl]
    refine wpAny_allTrue_And_cons (wpAny_isTrue_Not (wpAny_isTrue_value (ev_loc F rfl (wpAny_truthy_bool ?_))))
    cases hfr : st.free with
    | true => exact wpAny_execs_nil (hQ st _ _ (by simp [aStep, hfr]) (Ext.refl _ _) S)
    | false =>
      refine wpAny_allTrue_And_nil (wpAny_execs_cons (wpAny_If (wpAny_isTrue_Compare1 (Subscript_Constant (ev_loc (v := .str x k5) F rfl (ev_int (SB.item rfl hch (ev_str (eq_str (wpAny_truthy_bool ?_))))))))))
      rw [hst]
      cases hs : Txt.startswith x "{" with
      | true =>
        refine wpAny_execs_cons (wpAny_If (isNotNone F rfl ?_))
        cases hfin : st.fin.isSome with
        | true => exact due_ret F rfl fun v h' t' r => hR (by simp [aStep, hfr, hs, hfin]) h v h' t' (Ext.refl _ _) r
        | false =>
          refine wpAny_execs_nil (wpAny_execs_cons (wpAny_Assign_Name (wpAny_BinOp (Subscript_Slice (ev_loc (v := .str x k5) F rfl (wpAny_Slice (partSome (ev_int (partNone (partNone (sliceGrow (by rw [sizeLine_eq]; omega) fun h5 t5 tk5 k5' => ev_str (add_str (fun t6 tk6 => ?_) ?_))))))))))))
          · refine st_loc (F.grow k5') fun h7 t7 F7 s7 => ?_
            exact wpAny_execs_nil (wpAny_execs_nil (hQ { st with fin := some (cutText x) } h7 _ (by simp [aStep, hfr, hs, hfin]) (k5'.ext.trans (extOf s7)) (mkDX S (k5'.ext.trans (extOf s7)) F7 ⟨rfl, rfl, rfl, rfl, rfl, rfl, rfl, rfl, rfl, trivial⟩)))
          · have := Txt.slice_le x (some 1) none
            rw [sizeLine_eq]
            have e2 : (Str.ofString "}").length = 1 := by decide +kernel
            omega
      | false =>
        refine wpAny_execs_cons (wpAny_If (wpAny_isTrue_BoolOp (wpAny_allTrue_Or_cons (isNone F rfl ?_))))
        cases hfin : st.fin with
        | none => exact due_ret F rfl fun v h' t' r => hR (by simp [aStep, hfr, hs, hfin]) h v h' t' (Ext.refl _ _) r
        | some e =>
          have F' := F
          simp only [dl0, hfin, endV] at F'
          refine wpAny_allTrue_Or_cons (notIn_two (x := x) (y := "}") (z := e) cA F' rfl (K.str _ rfl) (by decide +kernel) (hf e hfin) (fun Q E hq => ev_str (hq _ _)) (fun t1 Q E hq => ev_loc F' rfl (hq _ _)) fun h6 t6 k6 => ?_)
          by_cases hor : x = "}" ∨ x = e
          · rw [show (!((("}" : Str) == x) || (e == x))) = false by
              rcases hor with q | q
              · rw [show (("}" : Str) == x) = true from beq_iff_eq.mpr q.symm]; rfl
              · rw [show (e == x) = true from beq_iff_eq.mpr q.symm, Bool.or_true]; rfl]
            refine wpAny_allTrue_Or_nil (wpAny_execs_cons (wpAny_Assign_Name (wpAny_Constant_none (st_loc (F.grow k6) fun h7 t7 F7 s7 => ?_))))
            exact wpAny_execs_nil (wpAny_execs_nil (wpAny_execs_nil (hQ { st with fin := none } h7 _ (aStep_close hfr hs (by rw [hfin]; rfl) (by rw [hfin]; exact hor)) (k6.ext.trans (extOf s7)) (mkDX (k1 := k1) S (k6.ext.trans (extOf s7)) F7 ⟨rfl, rfl, rfl, rfl, rfl, rfl, rfl, rfl, rfl, trivial⟩))))
          · rw [show (!((("}" : Str) == x) || (e == x))) = true by
              rw [show (("}" : Str) == x) = false from beq_eq_false_iff_ne.mpr fun q => hor (.inl q.symm), show (e == x) = false from beq_eq_false_iff_ne.mpr fun q => hor (.inr q.symm)]; rfl]
            have hn : aStep st 102 (.s x) = none := by
              unfold aStep
              rw [if_pos ⟨rfl, hfr⟩]
              show (if Txt.startswith x "{" = true then _ else _) = _
              rw [if_neg (by rw [hs]; decide), if_neg (by rw [hfin]; exact hor)]
            exact due_ret (F.grow k6) rfl fun v h' t' r => hR hn h6 v h' t' k6.ext r
  · rw [beq_eq_false_iff_ne.mpr hc]
    exact wpAny_execs_nil (hQ st _ _ (by simp [aStep, hc]) (Ext.refl _ _) S)

theorem due_x (S : DX w b Ld told pa i c pv st h)
    (hQ : ∀ st' h' t', xStep st c = some st' → Ext [Ld] h h' → DX w b Ld told pa i c pv st' h' → Q .next ⟨h', g, d, t', os⟩)
    (hR : xStep st c = none → ∀ h1 v h' t', Ext [Ld] h h1 → DRet told "group" h1 v h' → Q (.ret v) ⟨h', g, d, t', os⟩) :
    wpAny (model PG w) A (exec (dueLoop.getD 3 default) (dueEnv Ld)) Q E ⟨h, g, d, t, os⟩ := by
  show wpAny _ _ (exec (.If (.BoolOp .And [.Compare (.Name _ _) [.Eq] [.Constant _ _ _] _, .UnaryOp .Not (.Name _ _) _] _) [.Assign [.Name _ _] (.Constant _ _ _) _, .If (.Compare (.Name _ _) [.IsNot] [.Constant _ _ _] _) [.Return (some (.Tuple [.Name _ _, .Constant _ _ _] _ _)) _] [] _] [] _) _) _ _ _
  obtain ⟨k1, k2, k3, k4, k5, F⟩ := S.F
  refine wpAny_If (wpAny_isTrue_BoolOp (wpAny_allTrue_And_cons (wpAny_isTrue_Compare1 (ev_loc F rfl (ev_int (eq_int (wpAny_truthy_bool ?_)))))))
  by_cases hc : c = 1001
  · subst hc
    rw [show ((1001 : Int) == 1001) = true from rfl]
    refine wpAny_allTrue_And_cons (wpAny_isTrue_Not (wpAny_isTrue_value (ev_loc F rfl (wpAny_truthy_bool ?_))))
    cases hdt : st.data with
    | true => exact wpAny_execs_nil (hQ st _ _ (by simp [xStep, hdt]) (Ext.refl _ _) S)
    | false =>
      refine wpAny_allTrue_And_nil (wpAny_execs_cons (wpAny_Assign_Name (ev_bool (st_loc F fun h2 t2 F2 s2 => ?_))))
      refine wpAny_execs_cons (wpAny_If (isNotNone F2 rfl ?_))
      cases hfin : st.fin.isSome with
      | true => exact due_ret F2 rfl fun v h' t' r => hR (by simp [xStep, hdt, hfin]) h2 v h' t' (extOf s2) r
      | false => exact wpAny_execs_nil (wpAny_execs_nil (hQ { st with data := true } h2 _ (by simp [xStep, hdt, hfin]) (extOf s2) (mkDX S (extOf s2) F2 ⟨rfl, rfl, rfl, rfl, rfl, rfl, rfl, rfl, rfl, trivial⟩)))
  · rw [beq_eq_false_iff_ne.mpr hc]
    exact wpAny_execs_nil (hQ st _ _ (by simp [xStep, hc]) (Ext.refl _ _) S)
end
end Mine
namespace Mine
def PV.dat : PV → PyData
  | .s x => .str x
  | .n i => .int i
def pairD (p : Int × PV) : PyData := .tuple [.int p.1, p.2.dat]
theorem reads_pv {h : Heap} {pv : PV} {t : Tok} : Reads h (pv.val t) pv.dat [] := by
  cases pv with
  | s x => exact .str x t
  | n i => exact .int i t
theorem reads_tup {h : Heap} {v p} (x : TupIs h v p) : ∃ as, Reads h v (pairD p) as := by
  obtain ⟨a, o, n, tc, tv, rfl, ho, hc, hd⟩ := x
  exact ⟨_, .tuple ho hc hd (.cons (.int _ tc) (.cons reads_pv .nil))⟩
theorem Tups.cons {h : Heap} {v : Value} {vs : List Value} {p pl} (x : Tups h (v :: vs) (p :: pl)) : TupIs h v p ∧ Tups h vs pl := by
  obtain ⟨u, hu, r⟩ := x.2 0 p rfl
  cases hu
  exact ⟨r, by simpa using x.1, fun i q e => x.2 (i + 1) q e⟩
theorem reads_tups {h : Heap} : ∀ {vs : List Value} {pl : List (Int × PV)}, Tups h vs pl → ∃ as, ReadsAll h vs (pl.map pairD) as
  | [], [], _ => ⟨_, .nil⟩
  | [], _ :: _, x => by have := x.1; simp at this
  | _ :: _, [], x => by have := x.1; simp at this
  | v :: vs, p :: pl, x => by
    obtain ⟨y, z⟩ := x.cons
    obtain ⟨as, r1⟩ := reads_tup y
    obtain ⟨bs, r2⟩ := reads_tups z
    exact ⟨_, .cons r1 r2⟩
theorem Tups.take {h : Heap} {vs : List Value} {pl} (x : Tups h vs pl) (k : Nat) : Tups h (vs.take k) (pl.take k) := by
  refine ⟨by simp [x.1], fun i p e => ?_⟩
  rw [List.getElem?_take] at e ⊢
  by_cases hi : i < k
  · rw [if_pos hi] at e ⊢; exact x.2 i p e
  · rw [if_neg hi] at e; cases e
def StrsOk (pl : List (Int × PV)) : Prop := ∀ p ∈ pl, ∀ x, p.2 = .s x → PyData.strOk x = true
theorem lay_pair {p : Int × PV} (k : ∀ x, p.2 = .s x → PyData.strOk x = true) : (pairD p).canLay0 = true := by
  obtain ⟨c, pv⟩ := p
  cases pv with
  | s x => simp [pairD, PV.dat, PyData.canLay0, PyData.canLayAll0, k x rfl]
  | n i => simp [pairD, PV.dat, PyData.canLay0, PyData.canLayAll0]
theorem lay_pairs : ∀ {pl : List (Int × PV)}, StrsOk pl → PyData.canLayAll0 (pl.map pairD) = true
  | [], _ => rfl
  | p :: pl, k => by
    simp only [List.map_cons, PyData.canLayAll0, lay_pair (k p (.head _)), lay_pairs fun q m => k q (.tail _ m), Bool.and_true]
theorem any_emb (pl : List (Int × PV)) : ((pl.map pairD).any fun y => PyData.eqv y (pairD (101, .s "Embedded Object"))) = pl.any fun p => isEmb p.1 p.2 := by
  rw [List.any_map]
  congr 1
  funext p
  obtain ⟨c, pv⟩ := p
  cases pv with
  | s x => simp [pairD, PV.dat, PyData.eqv, PyData.eqvAll, isEmb]
  | n i => simp [pairD, PV.dat, PyData.eqv, PyData.eqvAll, isEmb]
theorem tStep_emb {st st' : GS} {c pv} (e : tStep st c pv = .ok st') : st'.emb = (st.emb || isEmb c pv) := by
  unfold tStep at e
  split at e
  · rename_i q; cases e; rw [q]
  · rename_i q
    have q' : (st.emb || isEmb c pv) = false := by simpa using q
    rw [q']
    have q2 : st.emb = false := by simp only [Bool.or_eq_false_iff] at q'; exact q'.1
    have d1 : ∀ {s2}, dStep st c pv = some s2 → s2.emb = false := fun {s2} y => by
      unfold dStep at y
      repeat' split at y
      all_goals first | (cases y; done) | (cases y; exact q2)
    have d2 : ∀ {s2 s3 : GS}, s2.emb = false → aStep s2 c pv = some s3 → s3.emb = false := fun {s2 s3} z y => by
      unfold aStep at y
      repeat' split at y
      all_goals first | (cases y; done) | (cases y; exact z)
    have d3 : ∀ {s2 s3 : GS}, s2.emb = false → xStep s2 c = some s3 → s3.emb = false := fun {s2 s3} z y => by
      unfold xStep at y
      repeat' split at y
      all_goals first | (cases y; done) | (cases y; exact z)
    split at e
    · cases e
    · rename_i s2 h2
      split at e
      · cases e
      · rename_i s3 h3
        split at e
        · cases e
        · rename_i s4 h4
          cases e
          exact d3 (d2 (d1 h2) h3) h4
def FinOk (st : GS) : Prop := ∀ e, st.fin = some e → PyData.strOk e = true
theorem dStep_fin {st st' : GS} {c pv} (f : FinOk st) (y : dStep st c pv = some st') : FinOk st' := by
  unfold dStep at y
  repeat' split at y
  all_goals first | (cases y; done) | (cases y; exact f)
theorem aStep_fin {st st' : GS} {c pv} (k : ∀ x, pv = .s x → PyData.strOk (cutText x) = true) (f : FinOk st) (y : aStep st c pv = some st') : FinOk st' := by
  unfold aStep at y
  repeat' split at y
  all_goals first | (cases y; done) | (cases y; exact f) | (cases y; intro e q; cases q; done) | (cases y; intro e q; cases q; exact k _ rfl)
theorem xStep_fin {st st' : GS} {c} (f : FinOk st) (y : xStep st c = some st') : FinOk st' := by
  unfold xStep at y
  repeat' split at y
  all_goals first | (cases y; done) | (cases y; exact f)
end Mine
namespace Mine
structure DL (w : World) (b : Heap) (Ld told pa e it : Addr) (pl : List (Int × PV)) (i : Nat) (st : GS) (vs : List Value) (h : Heap) : Prop where
  B : Grow b h
  F : ∃ k1 k2, Loc h Ld (dl0 pa told st k1 k2)
  T : ToldAt h told vs
  U : Tups h vs (pl.take i)
  E : ∃ old, IsEnum h e it (i : Nat) old
  I : h.IsListIter it pa i
structure DB (w : World) (b : Heap) (Ld told pa e it : Addr) (pvs : List Value) (pl : List (Int × PV)) : Prop where
  G : Glo w b
  nL : b.get? Ld = none
  nT : b.get? told = none
  nE : b.get? e = none
  nI : b.get? it = none
  P : b.IsList pa pvs.toArray
  V : Tups b pvs pl
  LT : Ld ≠ told
  LE : Ld ≠ e
  LI : Ld ≠ it
  TE : told ≠ e
  TI : told ≠ it
  EI : e ≠ it
  K : ∀ (i : Nat) c pv, pl[i]? = some (c, pv) → KindDue c pv
  S : StrsOk pl
  n : pl.length ≤ 900
section
variable {w : World} {A : Around} {b h h' : Heap} {g : Array GenState} {d : Drawn} {t : Nat} {os : OsState} {Ld told pa e it : Addr} {pvs vs : List Value} {pl : List (Int × PV)} {i : Nat} {st : GS}
theorem DL.ext (Z : DL w b Ld told pa e it pl i st vs h) (D : DB w b Ld told pa e it pvs pl) (x : Ext [Ld] h h') {st' : GS} (F : ∃ k1 k2, Loc h' Ld (dl0 pa told st' k1 k2)) : DL w b Ld told pa e it pl i st' vs h' := by
  have q : SeqK h h' := seqK_ext x fun n m => by
    obtain ⟨k1, k2, F⟩ := Z.F
    exact List.mem_singleton.mp m ▸ noSeq_loc F
  exact { B := x.keepBase (fun n m => List.mem_singleton.mp m ▸ D.nL) Z.B, F := F, T := Z.T.seq q, U := Z.U.seq q, E := let ⟨old, o⟩ := Z.E; ⟨old, x _ _ (by simp [D.LE.symm]) o⟩, I := let ⟨o, ho, r⟩ := Z.I; ⟨o, x _ _ (by simp [D.LI.symm]) ho, r⟩ }
/-- what the function gives back -/
def DueOk (told : Addr) (tl : List (Int × PV)) (wd : Str) (h : Heap) (v : Value) : Prop := ∃ a n tk vs, v = .ref a ∧ h.get? a = some { cls := .type "tuple", data := .seq #[.ref told, .str wd tk] n } ∧ ToldAt h told vs ∧ Tups h vs tl
theorem dueOk_of {wd : Str} {tl} {h1 h2 : Heap} {v : Value} (T : ToldAt h1 told vs) (U : Tups h1 vs tl) (r : DRet told wd h1 v h2) : DueOk told tl wd h2 v := by
  obtain ⟨k, a, n, tk, e, ho⟩ := r
  exact ⟨a, n, tk, vs, e, ho, T.seq (seqK_grow k), U.seq (seqK_grow k)⟩
def DInv (w : World) (b : Heap) (Ld told pa e it : Addr) (pl : List (Int × PV)) (st0' : GS) (g : Array GenState) (d : Drawn) (os : OsState) (n : Nat) (s : Shared) : Prop :=
  ∃ h t i st vs, s = ⟨h, g, d, t, os⟩ ∧ n = pl.length + 1 - i ∧ i ≤ pl.length ∧ vs.length = i ∧ DL w b Ld told pa e it pl i st vs h ∧ st.emb = ((pl.take i).any fun p => isEmb p.1 p.2) ∧ FinOk st ∧
    vRun st0' pl = (pl.take i ++ (vRun st (pl.drop i)).1, (vRun st (pl.drop i)).2)
theorem due_loop {st0' : GS} {R : Result → Shared → Prop} (cA : Calm A) (D : DB w b Ld told pa e it pvs pl) (Z : DL w b Ld told pa e it pl 0 st0' [] h) (he0 : st0'.emb = false) (hf0 : FinOk st0')
    (hN : ∀ h' t' vs st, Grow b h' → (∃ k1 k2, Loc h' Ld (dl0 pa told st k1 k2)) → ToldAt h' told vs → Tups h' vs pl → vRun st0' pl = (pl, (vRun st []).2) → R (.ok .next) ⟨h', g, d, t', os⟩)
    (hR : ∀ v h' t', Grow b h' → DueOk told (vRun st0' pl).1 (wordOf (vRun st0' pl).2) h' v → R (.ok (.ret v)) ⟨h', g, d, t', os⟩) :
    codeAny (model PG w) A (.forLoop (forTgt ((bodyOf dueDef).getD 2 default)) (.ref e) dueLoop [] (dueEnv Ld)) R ⟨h, g, d, t, os⟩ := by
  show codeAny _ _ (.forLoop (.Tuple [.Name _ _, .Tuple [.Name _ _, .Name _ _] _ _] _ _) _ _ _ _) _ _
  refine codeAny_forLoop_any (DInv w b Ld told pa e it pl st0' g d os) ?_ (pl.length + 1) ⟨h, t, 0, st0', [], rfl, rfl, Nat.zero_le _, rfl, Z, by simpa using he0, hf0, by simp⟩
  rintro n s ⟨h, t, i, st, vs, rfl, hn, hi, hvl, Z, hemb, hfin, hv⟩
  have hl : h.IsList pa pvs.toArray := listK_grow Z.B _ _ D.P
  obtain ⟨old, hE⟩ := Z.E
  cases hp : pl[i]? with
  | none =>
    have hlen : pl.length ≤ i := List.getElem?_eq_none_iff.mp hp
    obtain rfl : i = pl.length := by omega
    have hx : pvs.toArray[pl.length]? = none := by rw [← D.V.1]; simp
    refine wpAny_pyNext_enum_end cA.handled hE Z.I hl hx fun h1 s1 => wpAny_execs_nil ?_
    rw [List.drop_length, List.take_length] at hv
    have e1 : Ext [it] h h1 := fun n o m q => s1 n o (fun mm => m (List.mem_singleton.mpr mm)) q
    have q1 : SeqK h h1 := seqK_ext e1 fun n m => List.mem_singleton.mp m ▸ noSeq_iter Z.I
    obtain ⟨k1, k2, F⟩ := Z.F
    have U := Z.U
    rw [List.take_length] at U
    exact hN h1 _ vs st (e1.keepBase (fun n m => List.mem_singleton.mp m ▸ D.nI) Z.B) ⟨k1, k2, loc_ext F e1 (by simp [D.LI])⟩ (Z.T.seq q1) (U.seq q1) (by rw [hv]; simp [vRun])
  | some p =>
    obtain ⟨c, pv⟩ := p
    have hlt : i < pl.length := (List.getElem?_eq_some_iff.mp hp).1
    have hpi : pl[i] = (c, pv) := (List.getElem?_eq_some_iff.mp hp).2
    have hdrop : pl.drop i = (c, pv) :: pl.drop (i + 1) := by rw [← hpi]; exact List.drop_eq_getElem_cons hlt
    have htake : pl.take (i + 1) = pl.take i ++ [(c, pv)] := by rw [← hpi]; exact (List.take_append_getElem hlt).symm
    have K := D.K i c pv hp
    obtain ⟨v, hv0, ta, to, tn, tc, tv, rfl, hto, htc, htd⟩ := D.V.2 i _ hp
    have hx : pvs.toArray[i]? = some (.ref ta) := by simpa using hv0
    obtain ⟨k1, k2, F⟩ := Z.F
    refine wpAny_pyNext_enum_item hE Z.I hl hx D.EI fun h1 E1 I1 t1 z1 x1 => ?_
    dsimp only at E1 t1 z1 x1
    generalize hN' : h.objs.size = tp at *
    have ntp : h.get? tp = none := hN' ▸ get_size h
    refine wpAny_letOwnedTupleGo_enum E1 fun h2 E2 s2 => ?_
    have tpE : tp ≠ e := fun q => by rw [q, hE] at ntp; cases ntp
    have t2 : h2.IsTuple tp #[.int i t, .ref ta] := ⟨_, (s2.2 _ tpE).trans t1, rfl, _, rfl⟩
    -- what stays to here
    have x2 : Ext [e, it] h h2 := fun n o m q => by
      simp only [List.mem_cons, List.not_mem_nil, or_false, not_or] at m
      exact (s2.2 n m.1).trans (x1 n o m.1 m.2 q)
    have q2 : SeqK h h2 := seqK_ext x2 fun n m => by
      rcases List.mem_cons.mp m with q | m
      · rw [q]; intro o ho vs n hd; rw [hE] at ho; cases ho; cases hd
      · exact List.mem_singleton.mp m ▸ noSeq_iter Z.I
    have B2 : Grow b h2 := x2.keepBase (fun n m => by
      rcases List.mem_cons.mp m with q | m
      · exact q ▸ D.nE
      · exact List.mem_singleton.mp m ▸ D.nI) Z.B
    have I2 : h2.IsListIter it pa (i + 1) := let ⟨o, ho, r⟩ := I1; ⟨o, (s2.2 _ D.EI.symm).trans ho, r⟩
    have F2 : Loc h2 Ld (dl0 pa told st k1 k2) := loc_ext F x2 (by simp [D.LE, D.LI])
    refine wpAny_assign_Tuple cA.handled t2 rfl rfl fun h3 e3 => ?_
    have k3 : Grow h2 h3 := fun b o q => e3 b o (fun z => by have := get_size h2; rw [← z] at this; rw [this] at q; cases q) q
    refine assignInOrder_cons (wpAny_assign_Name (st_loc (F2.grow k3) fun h4 t4 F4 s4 => ?_))
    have ta4 : IsTup h4 ta #[.int c tc, pv.val tv] := by
      obtain ⟨sl, q⟩ := seqK_ext (extOf s4) (fun n m => List.mem_singleton.mp m ▸ noSeq_loc (F2.grow k3)) ta to (k3 _ _ (B2 _ _ hto)) ⟨_, _, htd⟩
      exact ⟨_, q, htc, tn, htd⟩
    refine assignInOrder_cons (assign_Tuple_tuple (x1 := 0) cA.handled ta4 rfl rfl fun h5 e5 => ?_)
    have k5 : Grow h4 h5 := fun b o q => e5 b o (fun z => by have := get_size h4; rw [← z] at this; rw [this] at q; cases q) q
    refine assignInOrder_cons (wpAny_assign_Name (st_loc (F4.grow k5) fun h6 t6 F6 s6 => ?_))
    refine assignInOrder_cons (wpAny_assign_Name (st_loc F6 fun h7 t7 F7 s7 => ?_))
    refine assignInOrder_nil (assignInOrder_nil ?_)
    have x7 : Ext [Ld] h2 h7 := (((k3.ext.trans (extOf s4)).trans k5.ext).trans (extOf s6)).trans (extOf s7)
    have F7' : Loc h7 Ld (dl0 pa told st k1 k2 ++ dl1 i c pv t tc tv) := F7.weak ⟨rfl, rfl, rfl, rfl, rfl, rfl, rfl, rfl, rfl, trivial⟩
    have B7 : Grow b h7 := x7.keepBase (fun n m => List.mem_singleton.mp m ▸ D.nL) B2
    have q7 : SeqK h h7 := q2.trans (seqK_ext x7 fun n m => List.mem_singleton.mp m ▸ noSeq_loc F2)
    have S7 : DX w b Ld told pa i c pv st h7 := { G := D.G, hb := D.nL, B := B7, F := ⟨_, _, _, _, _, F7'⟩ }
    have T7 : ToldAt h7 told vs := Z.T.seq q7
    have U7 : Tups h7 vs (pl.take i) := Z.U.seq q7
    have E7 : IsEnum h7 e it ((i + 1 : Nat)) (.ref ta) := by
      have := x7 _ _ (by simp [D.LE.symm]) E2
      have ee : ((i + 1 : Nat) : Int) = (i : Int) + 1 := by push_cast; rfl
      rw [ee]; exact this
    have I7 : h7.IsListIter it pa (i + 1) := let ⟨o, ho, r⟩ := I2; ⟨o, x7 _ _ (by simp [D.LI.symm]) ho, r⟩
    -- the tuple told, and the next turn
    have again : ∀ {h8 : Heap} {t8 : Nat} {st' : GS} {p1 p2 p3 p4 p5 p6 p7 : Pos} {kk : Nat} {Q : Flow → Shared → Prop} {E : Value → Shared → Prop}, tStep st c pv = .ok st' → FinOk st' → Ext [Ld] h7 h8 → DX w b Ld told pa i c pv st' h8 →
        (∀ s, (∃ m, m < n ∧ DInv w b Ld told pa e it pl st0' g d os m s) → Q .next s) → (p2.endLine == p6.line) = true →
        wpAny (model PG w) A (exec (.Expr (.Call (.Attribute (.Name "told" p1) "append" p2) [.Tuple [.Name "code" p3, .Name "value" p4] kk p5] [] p6) p7) (dueEnv Ld)) Q E ⟨h8, g, d, t8, os⟩ := by
      intro h8 t8 st' p1 p2 p3 p4 p5 p6 p7 kk Q E et ef x8 S8 hr hpos
      obtain ⟨a1, a2, a3, a4, a5, F8⟩ := S8.F
      have q8 : SeqK h7 h8 := seqK_ext x8 fun n m => List.mem_singleton.mp m ▸ noSeq_loc F7'
      refine told_pair (env := dueEnv Ld) (c := c) (pv := pv) (vs := vs) F8 rfl (T7.seq q8) (by have := D.n; omega) (fun Q E hq => ev_loc F8 rfl (hq h8 _ a4 (Grow.refl _))) (fun h9 t9 Q E k9 hq => ev_loc (F8.grow k9) rfl (hq h9 _ a5 (Grow.refl _))) (fun h9 h10 t10 u k9 s10 T10 U10 => ?_) (hline := hpos)
      have e10 : Ext [told] h9 h10 := extOf s10
      have T9 : h9.IsList told vs.toArray := listK_grow k9 _ _ (ToldAt.list (T7.seq q8))
      have B8 : Grow b h8 := x8.keepBase (fun n m => List.mem_singleton.mp m ▸ D.nL) B7
      have E8 := x8 _ _ (by simp [D.LE.symm]) E7
      have I8 : h8.IsListIter it pa (i + 1) := let ⟨o, ho, r⟩ := I7; ⟨o, x8 _ _ (by simp [D.LI.symm]) ho, r⟩
      refine hr _ ⟨pl.length + 1 - (i + 1), by omega, h10, t10, i + 1, st', vs ++ [u], rfl, rfl, hlt, by simp [hvl], { B := ?_, F := ?_, T := T10, U := ?_, E := ?_, I := ?_ }, ?_, ef, ?_⟩
      · exact e10.keepBase (fun n m => List.mem_singleton.mp m ▸ D.nT) (B8.trans k9)
      · exact ⟨a1, a2, (loc_ext (F8.grow k9) e10 (by simp [D.LT])).weak ⟨rfl, rfl, rfl, rfl, rfl, rfl, trivial⟩⟩
      · rw [htake]
        exact (tups_but ((U7.seq q8).seq (seqK_grow k9)) s10 T9).snoc (tupIs_but U10 s10 T9)
      · exact ⟨_, e10 _ _ (by simp [D.TE.symm]) (k9 _ _ E8)⟩
      · obtain ⟨o, ho, r⟩ := I8
        exact ⟨o, e10 _ _ (by simp [D.TI.symm]) (k9 _ _ ho), r⟩
      · rw [tStep_emb et, hemb, htake, List.any_append]; simp
      · rw [hv, hdrop, htake]
        simp only [vRun, et, List.append_assoc, List.singleton_append]
    have fails : ∀ {C h8 u h9 t9}, tStep st c pv = .error C → Ext [Ld] h7 h8 → DRet told (wordOf (some C)) h8 u h9 → R (.ok (.ret u)) ⟨h9, g, d, t9, os⟩ := by
      intro C h8 u h9 t9 et x8 r
      have q8 : SeqK h7 h8 := seqK_ext x8 fun n m => List.mem_singleton.mp m ▸ noSeq_loc F7'
      have hvv : vRun st0' pl = (pl.take i, some C) := by rw [hv, hdrop]; simp [vRun, et]
      refine hR u h9 t9 ((x8.keepBase (fun n m => List.mem_singleton.mp m ▸ D.nL) B7).trans r.1) ?_
      rw [hvv]
      exact dueOk_of (T7.seq q8) (U7.seq q8) r
    show wpAny _ _ (execs [.If (.Compare (.Tuple [.Constant _ _ _, .Constant _ _ _] _ _) [.In] [.Subscript (.Name _ _) (.Slice none (some (.BinOp (.Name _ _) .Add (.Constant _ _ _) _)) none _) _] _) [.Expr (.Call (.Attribute (.Name _ _) _ _) [.Tuple [.Name _ _, .Name _ _] _ _] [] _) _, .Continue _] [] _, dueLoop.getD 1 default, dueLoop.getD 2 default, dueLoop.getD 3 default, .Expr (.Call (.Attribute (.Name _ _) _ _) [.Tuple [.Name _ _, .Name _ _] _ _] [] _) _] _) _ _ _
    have hl7 : h7.IsList pa pvs.toArray := listK_grow B7 _ _ D.P
    refine wpAny_execs_cons (wpAny_If (wpAny_isTrue_Compare1 (Tuple_ (Calls.spliced_cons (ev_int (i := 101) (kk := 0) (pos := default) (Calls.spliced_cons (ev_str (y := "Embedded Object") (kk := 0) (pos := default) (Calls.spliced_nil (wpAny_newTuple ?_ (by show 2 ≤ sizeLine; decide))))))))))
    have kA := push_grow h7 { cls := .type "tuple", data := .seq [Value.int 101 t7, Value.str (Str.ofString "Embedded Object") (t7 + 1)].toArray }
    have hA := Heap.get?_push_size h7 (o := { cls := .type "tuple", data := .seq [Value.int 101 t7, Value.str (Str.ofString "Embedded Object") (t7 + 1)].toArray }) rfl
    generalize h7.push { cls := .type "tuple", data := .seq [Value.int 101 t7, Value.str (Str.ofString "Embedded Object") (t7 + 1)].toArray } = hB at kA hA ⊢
    have FB := F7'.grow kA
    refine wpAny_Subscript_list_slice (ev_loc FB rfl (partNone (partSome (wpAny_BinOp (ev_loc FB rfl (ev_int (add_int ?_)))))))
    refine ⟨pa, pvs.toArray, none, some ((i : Int) + 1), rfl, listK_grow kA _ _ hl7, by have := D.n; have := D.V.1; rw [sizeLine_eq]; simp; omega, .none, .int _ _, ?_⟩
    have hcast : ((i : Int) + 1) = ((i + 1 : Nat) : Int) := by push_cast; rfl
    rw [hcast, slicePick_upto']
    have kB := push_grow hB { cls := .type "slice", data := .fields #[.none, .int ((i + 1 : Nat) : Int) (t7 + 1 + 1 + 1), .none] }
    have zB := Heap.size_push hB { cls := .type "slice", data := .fields #[.none, .int ((i + 1 : Nat) : Int) (t7 + 1 + 1 + 1), .none] }
    have kC := push_grow (hB.push { cls := .type "slice", data := .fields #[.none, .int ((i + 1 : Nat) : Int) (t7 + 1 + 1 + 1), .none] }) { cls := .type "list", data := .seq (pvs.toArray.toList.take (i + 1)).toArray }
    have hC := Heap.get?_push_size (hB.push { cls := .type "slice", data := .fields #[.none, .int ((i + 1 : Nat) : Int) (t7 + 1 + 1 + 1), .none] }) (o := { cls := .type "list", data := .seq (pvs.toArray.toList.take (i + 1)).toArray }) rfl
    rw [zB] at hC
    have kD := kB.trans kC
    generalize (hB.push { cls := .type "slice", data := .fields #[.none, .int ((i + 1 : Nat) : Int) (t7 + 1 + 1 + 1), .none] }).push { cls := .type "list", data := .seq (pvs.toArray.toList.take (i + 1)).toArray } = hD at kD hC ⊢
    have kE := kA.trans kD
    have VD : Tups hD pvs pl := D.V.seq (seqK_grow (Grow.trans B7 kE))
    obtain ⟨as, ra⟩ := reads_tups (VD.take (i + 1))
    have hany : ((pl.take (i + 1)).any fun p => isEmb p.1 p.2) = (st.emb || isEmb c pv) := by rw [htake, List.any_append, hemb]; simp
    refine SeqAt.in_list_reads (xs := (pl.take (i + 1)).map pairD) (d := pairD (101, .s "Embedded Object")) (.list hC rfl rfl (by simpa using ra)) (.tuple (kD _ _ hA) rfl rfl (.cons (.int _ _) (.cons (.str _ _) .nil))) (lay_pairs fun p m => D.S p (List.mem_of_mem_take m)) (lay_pair fun x q => by cases q; decide +kernel)
      (by have h1 := Nat.min_le_right (PyData.depthAll ((pl.take (i + 1)).map pairD)) (pairD (101, .s "Embedded Object")).depth
          have h2 : (pairD (101, .s "Embedded Object")).depth = 1 := by simp [pairD, PV.dat, PyData.depth, PyData.depthAll]
          have := cA.units
          have : cLine = 9900 := rfl
          omega) ?_
    rw [any_emb, hany]
    refine wpAny_truthy_bool ?_
    have SD : DX w b Ld told pa i c pv st hD := S7.grow kE
    cases hem : (st.emb || isEmb c pv) with
    | true =>
      refine wpAny_execs_cons (again (st' := { st with emb := true }) (by simp only [tStep, hem, if_true]) hfin kE.ext ⟨SD.G, SD.hb, SD.B, SD.F⟩ (fun s hs => ?_) rfl)
      exact wpAny_execs_cons (wpAny_Continue hs)
    | false =>
      refine wpAny_execs_nil (wpAny_execs_cons (due_d SD K (fun sa ha ua da xa Sa => ?_) (fun dn ha u hb ub xa r => fails (C := 68) (by simp [tStep, hem, dn]) (kE.ext.trans xa) r) cA))
      have fa := dStep_fin hfin da
      refine wpAny_execs_cons (due_a Sa K fa (fun sb hb ub db xb Sb => ?_) (fun dn hb u hc uc xb r => fails (C := 56) (by simp [tStep, hem, da, dn]) ((kE.ext.trans xa).trans xb) r) cA)
      have fb := aStep_fin K.cut fa db
      refine wpAny_execs_cons (due_x Sb (fun sc hc uc dc xc Sc => ?_) (fun dn hc u hd ud xc r => fails (C := 56) (by simp [tStep, hem, da, db, dn]) (((kE.ext.trans xa).trans xb).trans xc) r))
      refine wpAny_execs_cons (again (st' := sc) (by simp [tStep, hem, da, db, dc]) (xStep_fin fb dc) (((kE.ext.trans xa).trans xb).trans xc) Sc (fun s hs => ?_) rfl)
      exact wpAny_execs_nil hs
end
end Mine
namespace Mine
theorem fn_due (w : World) : ∃ o fd, (hd.heap_39 w.params).lookup 222 = some o ∧ o.data = .func fd ∧ fd.scope.isCoroutine = false ∧ fd.scope.isGenerator = false ∧ fd.body = .stmts (bodyOf dueDef) ∧ (∀ v, bindArgs fd ⟨[v], []⟩ = (pure [(("pairs" : Str), v)] : Sem (List (Str × Value)))) ∧ fd.scope = scopeOf dueDef ∧
    (∀ L, callEnv fd L 222 = dueEnv L) ∧ (∀ h, (hd.heap_39 w.params).In h → h.CodeRec fd.code fd.qualname) :=
  ⟨_, _, rfl, rfl, rfl, rfl, rfl, fun v => by rfl, rfl, fun L => by rfl, fun h K => ⟨_, _, _, _, rfl, K _ _ rfl, rfl, rfl⟩⟩
section
variable {w : World} {A : Around} {b h h' : Heap} {g : Array GenState} {d : Drawn} {t : Nat} {os : OsState} {Ld pa : Addr} {pvs : List Value} {pl : List (Int × PV)} {dx : Str}
theorem star2 {e1 e2 : Expr} {env : Env} (h1 : isStarred e1 = false) (h2 : isStarred e2 = false) : starEach [e1, e2] env = [(false, eval e1 env), (false, eval e2 env)] := by
  have a1 : starEach (e1 :: [e2]) env = (false, eval e1 env) :: starEach [e2] env := by cases e1 <;> first | rfl | cases h1
  rw [a1, starEach_one h2]
theorem star4 {e1 e2 e3 e4 : Expr} {env : Env} (h1 : isStarred e1 = false) (h2 : isStarred e2 = false) (h3 : isStarred e3 = false) (h4 : isStarred e4 = false) : starEach [e1, e2, e3, e4] env = [(false, eval e1 env), (false, eval e2 env), (false, eval e3 env), (false, eval e4 env)] := by
  have a1 : starEach (e1 :: [e2, e3, e4]) env = (false, eval e1 env) :: starEach [e2, e3, e4] env := by cases e1 <;> first | rfl | cases h1
  have a2 : starEach (e2 :: [e3, e4]) env = (false, eval e2 env) :: starEach [e3, e4] env := by cases e2 <;> first | rfl | cases h2
  rw [a1, a2, star2 h3 h4]
theorem Tuple2 {M : Model} {E : Value → Shared → Prop} {s : Shared} {env : Env} {e1 e2 : Expr} {k : Nat} {pos : Pos} {Q : Value → Shared → Prop} (h : wpAny M A (eval e1 env) (fun v1 s1 => wpAny M A (eval e2 env) (fun v2 s2 => wpAny M A (newTuple [v1, v2]) Q E s2) E s1) E s)
    (h1 : isStarred e1 = false := by rfl) (h2 : isStarred e2 = false := by rfl) : wpAny M A (eval (.Tuple [e1, e2] k pos) env) Q E s := by
  refine Tuple_ ?_
  rw [star2 h1 h2]
  exact Calls.spliced_cons (wpAny_mono h (fun v1 s1 h1 => Calls.spliced_cons (wpAny_mono h1 (fun v2 s2 h2 => Calls.spliced_nil h2) fun _ _ q => q)) fun _ _ q => q)
theorem Tuple4 {M : Model} {E : Value → Shared → Prop} {s : Shared} {env : Env} {e1 e2 e3 e4 : Expr} {k : Nat} {pos : Pos} {Q : Value → Shared → Prop} (h : wpAny M A (eval e1 env) (fun v1 s1 => wpAny M A (eval e2 env) (fun v2 s2 => wpAny M A (eval e3 env) (fun v3 s3 => wpAny M A (eval e4 env) (fun v4 s4 => wpAny M A (newTuple [v1, v2, v3, v4]) Q E s4) E s3) E s2) E s1) E s)
    (h1 : isStarred e1 = false := by rfl) (h2 : isStarred e2 = false := by rfl) (h3 : isStarred e3 = false := by rfl) (h4 : isStarred e4 = false := by rfl) : wpAny M A (eval (.Tuple [e1, e2, e3, e4] k pos) env) Q E s := by
  refine Tuple_ ?_
  rw [star4 h1 h2 h3 h4]
  exact Calls.spliced_cons (wpAny_mono h (fun v1 s1 h1 => Calls.spliced_cons (wpAny_mono h1 (fun v2 s2 h2 => Calls.spliced_cons (wpAny_mono h2 (fun v3 s3 h3 => Calls.spliced_cons (wpAny_mono h3 (fun v4 s4 h4 => Calls.spliced_nil h4) fun _ _ q => q)) fun _ _ q => q)) fun _ _ q => q)) fun _ _ q => q)
theorem List0 {M : Model} {E : Value → Shared → Prop} {env : Env} {pos : Pos} {Q : Value → Shared → Prop} (h1 : Q (.ref h.objs.size) ⟨h.push { cls := .type "list", data := .seq #[] }, g, d, t, os⟩) : wpAny M A (eval (.List [] pos) env) Q E ⟨h, g, d, t, os⟩ :=
  List_ (Calls.spliced_nil (wpAny_newList h1 (Nat.zero_le _)))
theorem Sub_C {E : Value → Shared → Prop} {s : Shared} {env : Env} {value : Expr} {c : Const} {k : Nat} {p pos : Pos} {Q : Value → Shared → Prop}
    (h : wpAny (model PG w) A (eval value env) (fun o s₁ => wpAny (model PG w) A (eval (.Constant c k p) env) (fun i s₂ => ItemOn (model PG w) A E o i Q s₂) E s₁) E s) :
    wpAny (model PG w) A (eval (.Subscript value (.Constant c k p) pos) env) Q E s := by
  rw [eval_Subscript]
  refine wpAny_bind (wpAny_mono h (fun o s₁ h₁ => wpAny_bind (wpAny_holding (wpAny_mono h₁ (fun i s₂ h₂ => wpAny_bind (wpAny_standAt ?_)) fun _ _ x => x)))
    fun _ _ x => x)
  obtain ⟨T, id, hl, hT, hg⟩ := h₂
  first
    | (refine wpAny_bind ?_; rw [getitemInPython_of_ne hT.not_modules]; refine wpAny_bind (wpAny_specialOf hT hl ?_))
    | refine wpAny_bind (wpAny_specialOf hT hl ?_)
  have fin : wpAny (model PG w) A (operate [o, i] (getItem o i)) (fun r s₃ => wpAny (model PG w) A (letTemporaryGo value o r >>= fun _ => pure r) Q E s₃) E s₂ :=
    wpAny_operating (wpAny_mono hg (fun r s₃ h₃ => wpAny_bind (wpAny_letTemporaryGo (wpAny_pure h₃))) fun _ _ x => x)
  first
    | exact wpAny_pure (wpAny_bind fin)
    | exact wpAny_bind (wpAny_pure (wpAny_bind fin))
    | exact wpAny_bind fin
theorem Sub_B {E : Value → Shared → Prop} {s : Shared} {env : Env} {value : Expr} {e₁ e₂ : Expr} {op : Operator} {p pos : Pos} {Q : Value → Shared → Prop}
    (h : wpAny (model PG w) A (eval value env) (fun o s₁ => wpAny (model PG w) A (eval (.BinOp e₁ op e₂ p) env) (fun i s₂ => ItemOn (model PG w) A E o i Q s₂) E s₁) E s) :
    wpAny (model PG w) A (eval (.Subscript value (.BinOp e₁ op e₂ p) pos) env) Q E s := by
  rw [eval_Subscript]
  refine wpAny_bind (wpAny_mono h (fun o s₁ h₁ => wpAny_bind (wpAny_holding (wpAny_mono h₁ (fun i s₂ h₂ => wpAny_bind (wpAny_standAt ?_)) fun _ _ x => x)))
    fun _ _ x => x)
  obtain ⟨T, id, hl, hT, hg⟩ := h₂
  first
    | (refine wpAny_bind ?_; rw [getitemInPython_of_ne hT.not_modules]; refine wpAny_bind (wpAny_specialOf hT hl ?_))
    | refine wpAny_bind (wpAny_specialOf hT hl ?_)
  have fin : wpAny (model PG w) A (operate [o, i] (getItem o i)) (fun r s₃ => wpAny (model PG w) A (letTemporaryGo value o r >>= fun _ => pure r) Q E s₃) E s₂ :=
    wpAny_operating (wpAny_mono hg (fun r s₃ h₃ => wpAny_bind (wpAny_letTemporaryGo (wpAny_pure h₃))) fun _ _ x => x)
  first
    | exact wpAny_pure (wpAny_bind fin)
    | exact wpAny_bind (wpAny_pure (wpAny_bind fin))
    | exact wpAny_bind fin
theorem due_tail {told : Addr} {st : GS} {k1 k2 : Tok} {vs : List Value} {Q : Flow → Shared → Prop} {E : Value → Shared → Prop} {tl} (F : Loc h Ld (dl0 pa told st k1 k2)) (T : ToldAt h told vs) (U : Tups h vs tl)
    (hQ : ∀ v h' t', Grow h h' → DueOk told tl (wordOf (vRun st []).2) h' v → Q (.ret v) ⟨h', g, d, t', os⟩) : wpAny (model PG w) A (execs ((bodyOf dueDef).drop 3) (dueEnv Ld)) Q E ⟨h, g, d, t, os⟩ := by
  show wpAny _ _ (execs [.If (.Compare (.Name _ _) [.IsNot] [.Constant _ _ _] _) [.Return (some (.Tuple [.Name _ _, .Constant _ _ _] _ _)) _] [] _, .Return (some (.Tuple [.Name _ _, .IfExp (.BoolOp .And [.Name _ _, .Compare (.Name _ _) [.NotEq] [.Constant _ _ _] _] _) (.Constant _ _ _) (.Constant _ _ _) _] _ _)) _] _) _ _ _
  refine wpAny_execs_cons (wpAny_If (isNotNone F rfl ?_))
  cases hfin : st.fin.isSome with
  | true =>
    refine due_ret F rfl fun v h' t' r => hQ v h' t' r.1 ?_
    have : wordOf (vRun st []).2 = "group" := by simp [vRun, endStep, hfin, wordOf]
    rw [this]
    exact dueOk_of T U r
  | false =>
    have fin : ∀ {wd : Str} {tw : Tok} {t1 : Nat}, wordOf (vRun st []).2 = wd → wpAny (model PG w) A (newTuple [.ref told, .str wd tw]) (fun v s' => Q (.ret v) s') E ⟨h, g, d, t1, os⟩ := by
      intro wd tw t1 e
      refine wpAny_newTuple (hQ _ _ _ (push_grow _ _) ?_) (by show 2 ≤ sizeLine; decide)
      rw [e]
      exact dueOk_of T U ⟨push_grow _ _, _, 0, tw, rfl, Heap.get?_push_size _ rfl⟩
    refine wpAny_execs_nil (wpAny_execs_cons (wpAny_Return_some (Tuple_ (Calls.spliced_cons (ev_loc F rfl (Calls.spliced_cons (wpAny_IfExp (pos := default) (wpAny_isTrue_BoolOp (pos := default) (whole := pure .none) (wpAny_allTrue_And_cons (wpAny_isTrue_value (ev_loc F rfl (wpAny_truthy_bool ?_)))))))))))) 
    cases hdt : st.data with
    | false => exact ev_str (Calls.spliced_nil (fin (by simp [vRun, endStep, hfin, hdt, wordOf])))
    | true =>
      refine wpAny_allTrue_And_cons (wpAny_isTrue_Compare1 (ev_loc F rfl (ev_int (ne_int (wpAny_truthy_bool ?_)))))
      by_cases hl : st.level = 0
      · rw [show ((st.level : Int) != 0) = false by rw [hl]; rfl]
        exact ev_str (Calls.spliced_nil (fin (by simp [vRun, endStep, hfin, hl, wordOf])))
      · rw [show ((st.level : Int) != 0) = true by simp [hl]]
        exact wpAny_allTrue_And_nil (ev_str (Calls.spliced_nil (fin (by simp [vRun, endStep, hfin, hdt, hl, wordOf]))))
/-- _law_due(pairs) -/
theorem call_due {nP : Nat} {Q : Value → Shared → Prop} {E : Value → Shared → Prop} (hh : A.handled = none) (hdp : A.depth ≤ 440) (hu : A.units ≤ 80) (G : Glo w h) (P : h.get? pa = some { cls := .type "list", data := .seq pvs.toArray nP }) (V : Tups h pvs pl)
    (K : ∀ (i : Nat) c pv, pl[i]? = some (c, pv) → KindDue c pv) (S : StrsOk pl) (n : pl.length ≤ 900) (hd0 : ∃ c, pl[0]? = some (c, .s dx))
    (hQ : ∀ v h' t' told, Grow h h' → h.get? told = none → DueOk told (vRun (st0 dx) pl).1 (wordOf (vRun (st0 dx) pl).2) h' v → Q v ⟨h', g, d, t', os⟩) :
    wpAny (model PG w) A (call (.ref 222) [.ref pa]) Q E ⟨h, g, d, t, os⟩ := by
  obtain ⟨o, fd, ho, hd, hco, hgen, hbody, hbind, hsc, henv, hcr⟩ := fn_due w
  refine wpAny_call (codeAny_call_def (Nat.lt_of_le_of_lt hdp (by decide)) (G.K _ _ ho) hd G.lim (hcr _ G.K) hbody (BindsTo.of_eq (hbind _)) (by rw [hsc]; decide) (by intro x m; rw [List.mem_singleton.mp m, hsc]; rfl) (fun h1 hns hk1 => ?_) hco hgen (by rw [hsc]; rfl))
  rw [henv]
  dsimp only at hns hk1 ⊢
  generalize t + [(("pairs" : Str), Value.ref pa)].length = tq
  have nL := get_size h
  generalize h.objs.size = Ld at *
  have cA : Calm (A.deeper (dueEnv Ld)) := ⟨hh, by show A.depth + 1 ≤ 450; omega, by show A.units + 3 ≤ 90; omega⟩
  have F1 : Loc h1 Ld [("pairs", .ref pa)] := ⟨_, hns, fun x u e => by simpa using e⟩
  have G1 : Glo w h1 := G.grow hk1
  generalize A.deeper (dueEnv Ld) = A1 at *
  show wpAny _ _ (execs ([.Assign [.Tuple [.Name _ _, .Name _ _, .Name _ _, .Name _ _] _ _] (.Tuple [.Constant _ _ _, .Constant _ _ _, .Constant _ _ _, .Compare (.Subscript (.Subscript (.Name _ _) (.Constant _ _ _) _) (.Constant _ _ _) _) [.Eq] [.Constant _ _ _] _] _ _) _, .Assign [.Name _ _] (.List [] _) _, .For (forTgt ((bodyOf dueDef).getD 2 default)) (.Call (.Name _ _) [.Name _ _] [] _) dueLoop [] _] ++ (bodyOf dueDef).drop 3) _) _ _ _
  obtain ⟨c0, hp0⟩ := hd0
  obtain ⟨v0, hv0, ta, to, tn, tc, tv, rfl, hto, htc, htd⟩ := V.2 0 _ hp0
  have P1 : h1.IsList pa pvs.toArray := ⟨_, hk1 _ _ P, rfl, nP, rfl⟩
  have hx : pvs.toArray[0]? = some (.ref ta) := by simpa using hv0
  have ht1 : IsTup h1 ta #[.int c0 tc, .str dx tv] := ⟨to, hk1 _ _ hto, htc, tn, htd⟩
  refine wpAny_execs_cons (Assign_Tuple (Tuple4 (wpAny_Constant_none (ev_bool (ev_int (wpAny_Compare1 (Sub_C (Sub_C (ev_loc F1 rfl (ev_int ⟨"list", "list.__getitem__", slot_list_getitem.lookup, P1.typeIs, wpAny_getItem_list P1 (by decide) (by decide) hx
    (ev_int ⟨"tuple", "tuple.__getitem__", PySem.F.slot_tuple_getitem.lookup, ⟨to, hk1 _ _ hto, htc⟩, PyProof.Rows.getItem_tuple ht1 (by decide) (by decide) (j := 1) rfl rfl ?_⟩)⟩))))))))))
  show wpAny _ _ (eval (.Constant _ _ _) _) _ _ _
  refine ev_str ?_
  show wpAny _ _ (compareOp .Eq (.str dx tv) _) _ _ _
  refine eq_str (wpAny_newTuple ?_ (by show 4 ≤ sizeLine; decide))
  have k2 := push_grow h1 { cls := .type "tuple", data := .seq [Value.none, .bool false, .int 0 tq, .bool (dx == ("XRECORD" : Str))].toArray }
  have T2 : Heap.IsTuple (h1.push { cls := .type "tuple", data := .seq [Value.none, .bool false, .int 0 tq, .bool (dx == ("XRECORD" : Str))].toArray }) h1.objs.size #[.none, .bool false, .int 0 tq, .bool (dx == ("XRECORD" : Str))] := ⟨_, Heap.get?_push_size _ rfl, rfl, 0, rfl⟩
  refine wpAny_assign_Tuple cA.handled T2 rfl rfl fun h3 e3 => ?_
  dsimp only at e3
  generalize h1.push { cls := .type "tuple", data := .seq [Value.none, .bool false, .int 0 tq, .bool (dx == ("XRECORD" : Str))].toArray } = h2 at *
  have k3 : Grow h2 h3 := fun b o q => e3 b o (fun z => by have := get_size h2; rw [← z] at this; rw [this] at q; cases q) q
  have k13 : Grow h1 h3 := k2.trans k3
  refine assignInOrder_cons (wpAny_assign_Name (st_loc (F1.grow k13) fun h4 t4 F4 s4 => ?_))
  refine assignInOrder_cons (wpAny_assign_Name (st_loc F4 fun h5 t5 F5 s5 => ?_))
  refine assignInOrder_cons (wpAny_assign_Name (st_loc F5 fun h6 t6 F6 s6 => ?_))
  refine assignInOrder_cons (wpAny_assign_Name (st_loc F6 fun h7 t7 F7 s7 => ?_))
  refine assignInOrder_nil ?_
  have x7 : Ext [Ld] h1 h7 := (((k13.ext.trans (extOf s4)).trans (extOf s5)).trans (extOf s6)).trans (extOf s7)
  have kb : ∀ {h'}, Ext [Ld] h1 h' → Grow h h' := fun e => e.keepBase (fun n m => List.mem_singleton.mp m ▸ nL) hk1
  refine wpAny_execs_cons (wpAny_Assign_Name (List0 ?_))
  have k8 := push_grow h7 { cls := .type "list", data := .seq #[] }
  have hT := Heap.get?_push_size h7 (o := { cls := .type "list", data := .seq #[] }) rfl
  have nT := get_size h7
  generalize h7.push { cls := .type "list", data := .seq #[] } = h8 at *
  generalize h7.objs.size = told at *
  refine st_loc (F7.grow k8) fun h9 t9 F9 s9 => ?_
  have x9 : Ext [Ld] h1 h9 := (x7.trans k8.ext).trans (extOf s9)
  have nLT : Ld ≠ told := fun q => by
    obtain ⟨oo, hoo, _⟩ := loc_obj F7
    rw [q, nT] at hoo; cases hoo
  have hT9 := extOf s9 _ _ (by simp [nLT.symm]) hT
  have P9 := kb x9 _ _ P
  have G9 := G.grow (kb x9)
  have nT0 : h.get? told = none := by
    cases q : h.get? told with
    | none => rfl
    | some o => have := kb x7 _ _ q; rw [nT] at this; cases this
  refine wpAny_execs_cons (wpAny_For (wpAny_Call_ofName (ev_bi G9 (v := .type "enumerate") (by kernel_rfl!) (by kernel_rfl!) (PyProof.Rows.callWith_type rfl (Calls.evalArgs_plain (Calls.spliced_cons (ev_loc F9 rfl (Calls.spliced_nil (call_enumerate_1 P9 fun ha Ea Ia za ka => ?_)))))))))
  have nn : ∀ {x : Addr}, h9.get? x = none → h.get? x = none := fun {x} e => by
    cases q : h.get? x with
    | none => rfl
    | some o => rw [kb x9 _ _ q] at e; cases e
  have n0 := get_size h9
  have n1 : h9.get? (h9.objs.size + 1) = none := Heap.get?_none_of_le (Nat.le_succ _)
  dsimp only at Ea Ia ka ⊢
  have hne : h9.objs.size + 1 ≠ h9.objs.size := Nat.succ_ne_self _
  generalize h9.objs.size + 1 = e at *
  generalize h9.objs.size = it at *
  obtain ⟨oL, hoL, _⟩ := loc_obj F9
  have Fa : Loc ha Ld (dl0 pa told (st0 dx) 0 tq) := (Loc.grow F9 ka).weak ⟨rfl, rfl, rfl, rfl, rfl, rfl, trivial⟩
  refine wpAny_pyIter_enum Ea (due_loop (w := w) (b := h) (Ld := Ld) (told := told) (pa := pa) (e := e) (it := it) (pvs := pvs) (pl := pl) (st0' := st0 dx) cA
    { G := G, nL := nL, nT := nT0, nE := nn n1, nI := nn n0, P := ⟨_, P, rfl, nP, rfl⟩, V := V, LT := nLT, LE := fun q => (by rw [q, n1] at hoL; cases hoL), LI := fun q => (by rw [q, n0] at hoL; cases hoL), TE := fun q => (by rw [q, n1] at hT9; cases hT9), TI := fun q => (by rw [q, n0] at hT9; cases hT9), EI := hne, K := K, S := S, n := n }
    { B := Grow.trans (kb x9) ka, F := ⟨_, _, Fa⟩, T := ⟨0, #[], ka _ _ hT9⟩, U := by simpa using Tups.nil, E := ⟨_, Ea⟩, I := Ia } rfl (fun e q => by cases q)
    (fun h' t' vs st B F T U e => ?_) fun v h' t' B O => ?_)
  · obtain ⟨k1, k2, F⟩ := F
    refine due_tail F T U fun v h'' t'' k r => hQ v h'' t'' told (B.trans k) nT0 ?_
    rw [e]; exact r
  · exact hQ v h' t' told B nT0 O
end
end Mine
namespace Mine
section
local macro_rules | `(tactic| x_close) => `(tactic| first | exact endsV (by assumption) | exact ⟨rfl, _, _, rfl, Grow.refl _⟩ | (trace_state; fail "no"))
theorem member_code {w : World} {E} {h : Heap} {g d t os} {a dx : Addr} {c : Int} {tc : Tok} {v : Value} (KX : (hd.heap_39 w.params).In h) (ha : h.get? a = some ⟨.ref 173, some dx, .plain, #[some (.int c tc), some v]⟩) :
   wpAny (model PG w) A9 (call (.builtin "member_descriptor.__get__") [.ref 174, .ref a, .ref 173]) (EndsV h g d os (.int c tc)) E ⟨h, g, d, t, os⟩ := by
  x_run
end
theorem fn_iter (w : World) : ∃ o fd qn sc cd p1 p2 p3 p4 p5 p6 p7 p8, (hd.heap_39 w.params).lookup 141 = some o ∧ o.cls = .type "function" ∧ o.data = .func fd ∧ fd.scope.isCoroutine = false ∧ fd.scope.isGenerator = true ∧
    fd.body = .stmts [.Expr (.Yield (some (.Attribute (.Name "self" p1) "_code" p2)) p3) p4, .Expr (.Yield (some (.Attribute (.Name "self" p5) "value" p6)) p7) p8] ∧ (∀ v, bindArgs fd ⟨[v], []⟩ = (pure [(("self" : Str), v)] : Sem (List (Str × Value)))) ∧
    (∀ L, newEnv fd.scope L fd.globals fd.closure (fd.qualname ++ ".<locals>.") (some 141) fd.code none fd.builtins = envOf qn sc L 141 cd) ∧ (∀ h, (hd.heap_39 w.params).In h → h.CodeRec fd.code fd.qualname) ∧
    fd.scope = sc ∧ sc.kind = .function ∧ sc.names.lookup ("self" : Str) = some NameKind.local ∧ (∀ x ∈ sc.names, x.2 ≠ .cell) ∧ sc.isCoroutine = false ∧ sc.isGenerator = true :=
  ⟨_, _, _, _, _, _, _, _, _, _, _, _, _, rfl, rfl, rfl, rfl, rfl, rfl, fun v => by rfl, fun L => by rfl, fun h K => ⟨_, _, _, _, rfl, K _ _ rfl, rfl, rfl⟩, rfl, rfl, by rfl, by decide, rfl, rfl⟩
section
variable {w : World} {A : Around} {E : Value → Shared → Prop} {h : Heap} {g : Array GenState} {d : Drawn} {t : Nat} {os : OsState} {a : Addr}
theorem attr_slot {c : Int} {tc : Tok} {v : Value} {e : Bool} {Q : Value → Shared → Prop} (cA : Calm A) (G : Glo w h) (T : IsTag h a (.int c tc) v)
    (hQ : ∀ h' t', Grow h h' → Q (.int c tc) ⟨h', g, d, t', os⟩) : wpAny (model PG w) A (getAttr (.ref a) "_code" e) Q E ⟨h, g, d, t, os⟩ := by
  obtain ⟨dx, o, p, q⟩ := T
  refine get_bind (g := .builtin "member_descriptor.__get__") (a := .ref 174) G.K (instTag p q) (by kernel_rfl!) (by kernel_rfl!) (by kernel_rfl!) ?_
  refine cA.lift1 (endsGo (member_code G.K p) fun h' t' k => ?_)
  rw [handedOut_of rfl]
  exact wpAny_pure (hQ h' t' k)
theorem iter_of (G : Glo w h) {dx : Addr} {c v : Value} {o} (p : h.get? a = some (tagObj dx c v)) (q : h.get? dx = some o) {Q : Option Value → Shared → Prop} (hQ : Q (some (.ref 141)) ⟨h, g, d, t, os⟩) :
    wpAny (model PG w) A (specialOf (.ref a) "__iter__") Q E ⟨h, g, d, t, os⟩ := by
  unfold specialOf
  refine wpAny_bind ((instTag p q).type.here ?_)
  exact (looks_findIn (t := .ref 173) (name := "__iter__") (r := some (.ref 141)) G.K (by kernel_rfl!)).here hQ
end
end Mine
namespace Mine
section
variable {w : World} {A : Around} {E : Value → Shared → Prop} {h : Heap} {g : Array GenState} {d : Drawn} {t : Nat} {os : OsState} {a : Addr}
theorem pyIter_tag (G : Glo w h) {dx : Addr} {c v : Value} {o} (p : h.get? a = some (tagObj dx c v)) (q : h.get? dx = some o) {Q : Value → Shared → Prop}
    (hc : wpAny (model PG w) A (call (.ref 141) [.ref a]) (fun it s' => ∃ gi, s'.heap.IsGen (match it with | .ref x => x | _ => 0) gi ∧ (∃ x, it = .ref x) ∧ Q it s') E ⟨h, g, d, t, os⟩) :
    wpAny (model PG w) A (pyIter (.ref a)) Q E ⟨h, g, d, t, os⟩ := by
  unfold pyIter
  refine wpAny_bind (iter_of G p q ?_)
  show wpAny _ _ (callSpecialIfBoundUnlessNone? (.ref a) "__iter__" _ >>= _) _ _ _
  unfold callSpecialIfBoundUnlessNone? bindSpecialIfBound?
  refine wpAny_bind (wpAny_holding (wpAny_bind (wpAny_bind (iter_of G p q ?_))))
  refine wpAny_bind (wpAny_askSetting (wpAny_ite ?_))
  have fin : ∀ {X : Sem Value}, wpAny (model PG w) A (do
      if (Value.ref 141) == .none then return some (← X)
      return some (← call (.ref 141) [.ref a]) : Sem (Option Value)) (fun r s' => wpAny (model PG w) A (match r with
        | some it => do
          match ← specialOf it "__next__" with
          | none => rule "iter.non-iterator"; raiseError "TypeError" s!"iter() returned non-iterator of type '{← typeNameOf it}'"
          | some _ => pure it
        | none => do
          match ← bindSpecialIfBound? (.ref a) "__getitem__" with
          | none => rule "iter.not-iterable"; raiseError "TypeError" s!"'{← typeNameOf (.ref a)}' object is not iterable"
          | some _ => rule "iter.getitem-fallback"; newFields "iterator" [(.ref a), ← mkInt 0]) Q E s') E ⟨h, g, d, t, os⟩ := by
    intro X
    refine wpAny_bind (wpAny_mono hc (fun it s' hh => wpAny_pure ?_) fun _ _ e => e)
    obtain ⟨gi, hg, ⟨x, rfl⟩, hQ⟩ := hh
    exact wpAny_bind (wpAny_specialOf hg.typeIs slot_gen_next.lookup (wpAny_pure hQ))
  split
  · exact wpAny_bind ((bind_fn (K := hd.heap_39 w.params) G.K (.ref a) (f := 141) (by kernel_rfl!)).here (wpAny_pure fin))
  · exact wpAny_tryCatch (wpAny_bind ((bind_fn (K := hd.heap_39 w.params) G.K (.ref a) (f := 141) (by kernel_rfl!)).here (wpAny_pure fin)))
end
end Mine
namespace Mine
theorem push_set {g : Array GenState} {x y : GenState} : (g.push y).setIfInBounds g.size x = g.push x := by
  apply Array.ext
  · simp
  · intro i h1 h2
    by_cases hi : i = g.size
    · subst hi; simp
    · have hi' : i < g.size := by simp at h2; omega
      rw [Array.getElem_setIfInBounds_ne (by simpa using h2) (Ne.symm hi), Array.getElem_push_lt hi', Array.getElem_push_lt hi']
theorem push_get {g : Array GenState} {x : GenState} : (g.push x)[g.size]? = some x := by simp
section
variable {w : World} {A : Around} {E : Value → Shared → Prop} {h : Heap} {g : Array GenState} {d : Drawn} {t : Nat} {os : OsState} {a : Addr} {c : Int} {tc tv : Tok} {pv : PV}
theorem unpack_tag {Q : List Value → Shared → Prop} (hh : A.handled = none) (hdp : A.depth ≤ 445) (hu : A.units ≤ 80) (G : Glo w h) (T : IsTag h a (.int c tc) (pv.val tv))
    (hQ : ∀ h' t', Grow h h' → Q [.int c tc, pv.val tv] ⟨h', g.push .finished, d, t', os⟩) :
    wpAny (model PG w) A (unpackItems (.ref a) 2 none) Q E ⟨h, g, d, t, os⟩ := by
  obtain ⟨dx, o, p, q⟩ := id T
  obtain ⟨oI, fd, qn, sc, cd, p1, p2, p3, p4, p5, p6, p7, p8, hoI, hcI, hdI, hco, hgen, hbody, hbind, henv, hcr, hsc, hk, hself, hcell, hsco, hsg⟩ := fn_iter w
  have room : A.depth < recursionLimit := Nat.lt_of_le_of_lt hdp (by decide)
  unfold unpackItems
  refine wpAny_bind (m := notIterableAtAll _) ?_
  unfold notIterableAtAll
  refine wpAny_bind (iter_of G p q ?_)
  refine wpAny_pure ?_
  rw [if_neg (by decide)]
  refine wpAny_bind (wpAny_holding (pyIter_tag G p q ?_))
  refine wpAny_call (codeAny_call_generator room (G.K _ _ hoI) hdI hco hgen hbody (hcr _ G.K) ?_)
  rw [hbind]
  refine wpAny_pure (wpAny_newFunctionEnv (by rw [hsc]; exact hcell) (by intro x m; rw [List.mem_singleton.mp m, hsc]; exact hself) (fun h1 hns hsb => ?_) (by rw [hsc]; exact hk))
  rw [henv]
  dsimp only at hns hsb ⊢
  have n1 := get_size h
  have gr : Grow h h1 := fun b o e => hsb.extBut b o (fun q => by rw [q, n1] at e; cases e) (Heap.get?_push_of_some _ e)
  refine ⟨(G.grow gr).lim, g.size, ⟨_, _, _, Heap.get?_push_size _ rfl, rfl, rfl, rfl⟩, ⟨_, rfl⟩, ?_⟩
  generalize hL : h.objs.size = L at *
  have Ga : (h1.push { cls := .type "generator", data := .fields #[.int g.size 0, .str fd.name (t + [(("self" : Str), Value.ref a)].length), .str fd.qualname (t + [(("self" : Str), Value.ref a)].length + 1)] }).IsGen h1.objs.size g.size := ⟨_, _, _, Heap.get?_push_size _ rfl, rfl, rfl, rfl⟩
  have k2 : Grow h (h1.push { cls := .type "generator", data := .fields #[.int g.size 0, .str fd.name (t + [(("self" : Str), Value.ref a)].length), .str fd.qualname (t + [(("self" : Str), Value.ref a)].length + 1)] }) := gr.trans (push_grow _ _)
  have F2 : Loc (h1.push { cls := .type "generator", data := .fields #[.int g.size 0, .str fd.name (t + [(("self" : Str), Value.ref a)].length), .str fd.qualname (t + [(("self" : Str), Value.ref a)].length + 1)] }) L [("self", .ref a)] := Loc.grow ⟨_, hns, fun x u e => by simpa using e⟩ (push_grow _ _)
  generalize h1.push { cls := .type "generator", data := .fields #[.int g.size 0, .str fd.name (t + [(("self" : Str), Value.ref a)].length), .str fd.qualname (t + [(("self" : Str), Value.ref a)].length + 1)] } = h2 at *
  generalize h1.objs.size = ga at *
  generalize t + [(("self" : Str), Value.ref a)].length + 1 + 1 = t2
  have calm : ∀ env', Calm (A.in1.over (.func [.Expr (.Yield (some (.Attribute (.Name "self" p1) "_code" p2)) p3) p4, .Expr (.Yield (some (.Attribute (.Name "self" p5) "value" p6)) p7) p8] env') []) := fun env' => ⟨hh, by show A.depth + 0 + 1 ≤ 450; omega, by show A.units + 1 + 0 + 3 ≤ 90; omega⟩
  have hlself : ∀ L, (envOf qn sc L 141 cd).kindOf "self" = some .local := fun L => hself
  show wpAny _ _ (holding [_] (draw (.ref ga) 2) >>= _) _ _ _
  refine wpAny_bind (wpAny_holding ?_)
  show wpAny _ _ (pyNext (.ref ga) >>= _) _ _ _
  have hi : ∀ L, interactive (envOf qn sc L 141 cd) = false := fun L => by
    show (sc.kind == .module && _) = false
    rw [hk]; rfl
  have eg : ∀ y x : GenState, ((g.push y).setIfInBounds g.size .running).setIfInBounds g.size x = g.push x := fun y x => by rw [push_set, push_set]
  refine wpAny_bind (next_gen hh (G.grow k2).lim room Ga push_get (.inl ⟨rfl, rfl, rfl⟩) (xg_func (xg_cons (xg_yield rfl rfl rfl (Attribute_name (ev_loc F2 rfl (attr_slot (calm _) (G.grow k2) (T.grow k2) fun h3 t3 k3 l3 kk3 q3 w3 => ?_) hk (hlself L))) hsco (hi L)))))
  show wpAny _ _ (match some (Value.int c tc) with | none => pure [] | some v => do return v :: (← holding [v] (draw (.ref ga) 1))) _ _ ⟨h3, ((g.push _).setIfInBounds g.size .running).setIfInBounds g.size _, d, t3, os⟩
  rw [eg]
  have k23 := k2.trans k3
  refine wpAny_bind (wpAny_holding ?_)
  show wpAny _ _ (pyNext (.ref ga) >>= _) _ _ _
  refine wpAny_bind (next_gen hh (G.grow k23).lim room (Ga.keeps k3) push_get (.inr ⟨kk3, l3, q3, _, rfl, rfl⟩) (w3 _ _ _ (xg_cons (xg_yield rfl rfl rfl (Attribute_name (ev_loc (F2.grow k3) rfl (attr_value (calm _) (G.grow k23) (T.grow k23) fun h4 t4 k4 l4 kk4 q4 w4 => ?_) hk (hlself L))) hsco (hi L)))))
  show wpAny _ _ (match some (pv.val tv) with | none => pure [] | some v => do return v :: (← holding [v] (draw (.ref ga) 0))) _ _ ⟨h4, ((g.push _).setIfInBounds g.size .running).setIfInBounds g.size _, d, t4, os⟩
  rw [eg]
  have k24 := k23.trans k4
  refine wpAny_bind (wpAny_holding (wpAny_pure (wpAny_pure (wpAny_pure ?_))))
  rw [if_neg (by show ¬ (2 < 2); decide)]
  refine wpAny_bind (wpAny_holding (next_gen hh (G.grow k24).lim room ((Ga.keeps k3).keeps k4) push_get (.inr ⟨kk4, l4, q4, _, rfl, rfl⟩) (w4 _ _ _ (xg_nil (s_end PG w _ _ _ _ (.ok (.ret .none)) _ rfl ⟨rfl, fun h5 k5 => ?_⟩)))))
  show wpAny _ _ (if (none : Option Value).isSome = true then _ else _) _ _ ⟨h5, ((g.push _).setIfInBounds g.size .running).setIfInBounds g.size .finished, d, t4, os⟩
  rw [eg, if_neg (by decide)]
  exact wpAny_pure (hQ h5 t4 (k24.trans k5))
end
end Mine
namespace Mine
abbrev hdrDef : Stmt := topStmt 16
abbrev hdrEnv (L : Addr) : Env := envOf "header_validator" (scopeOf hdrDef) L 191 (.ref 190)
abbrev hdrLoop : List Stmt := bodyOf ((bodyOf hdrDef).getD 1 default)
abbrev hdrTgt : Expr := forTgt ((bodyOf hdrDef).getD 1 default)
abbrev cH (L it : Addr) : Code := cF hdrTgt (.ref it) hdrLoop (hdrEnv L)
abbrev cH1 (L : Addr) : Code := .func (bodyOf hdrDef) (hdrEnv L)
def hStep (b : Bool) (c : Int) (pv : PV) : Except Addr Bool :=
  if b = true then (if c ≠ 9 then .error 44 else match pv with | .s x => if Txt.startswith x "$" = true then .ok false else .error 80 | .n _ => .error 44) else .ok true
structure KindH (c : Int) (pv : PV) : Prop where
  n : c.natAbs.log2 < 1920 ∧ (Str.ofString (toString c)).length ≤ 300
  s9 : c = 9 → ∃ x, pv = .s x
  s : ∀ x, pv = .s x → x.length ≤ 20
  i : ∀ i, pv = .n i → i.natAbs.log2 < 1920 ∧ (Str.ofString (toString i)).length ≤ 300
def hl0 (lst : Addr) (b : Bool) : List (Str × Value) := [("tagger", .ref lst), ("variable_name_tag", .bool b)]
def hl1 (a : Addr) (c : Int) (pv : PV) (tc tv : Tok) : List (Str × Value) := [("value", pv.val tv), ("code", .int c tc), ("tag", .ref a)]
section
variable {w : World} {A : Around} {E : Value → Shared → Prop} {b h : Heap} {g : Array GenState} {d : Drawn} {t : Nat} {os : OsState} {L a lst : Addr} {c : Int} {pv : PV} {vb : Bool}
theorem part_val {env : Env} {n : Nat} {name : Str} {scope : Scope} {fa : Addr} {cd : Value} {l : List (Str × Value)} {x : Str} {p1 p2 : Pos} {tv : Tok} (F : Loc h L l) (hv : l.lookup x = some (pv.val tv)) (hs : ∀ x, pv = .s x → x.length ≤ n) (hi : ∀ i, pv = .n i → i.natAbs.log2 < 1920 ∧ (toString i : Str).length ≤ n) (hz : n ≤ sizeLine)
    (hk : scope.kind = .function := by rfl) (hl : (envOf name scope L fa cd).kindOf x = some .local := by rfl) (hd : (x == ("__debug__" : Str)) = false := by decide) :
    PartOk w A (envOf name scope L fa cd) h n (.FormattedValue (.Name x p1) (-1) none p2) := by
  intro Q E g d t os hQ
  refine wpAny_FormattedValue_plain (ev_loc F hv ?_ hk hl hd)
  cases pv with
  | s y => exact wpAny_formatField_str (hQ _ _ _ (hs y rfl)) (hQ _ _ _ (hs y rfl)) (Nat.le_trans (hs y rfl) hz)
  | n i => exact wpAny_formatField_int (hi i rfl).1 (hQ _ _ _ (hi i rfl).2)
theorem hdr_s1 {Q : Flow → Shared → Prop} (cA : Calm A) (G : Glo w b) (B : Grow b h) (nL : b.get? L = none) (K : KindH c pv) {tc tv : Tok} (F : Loc h L (hl1 a c pv tc tv ++ hl0 lst vb))
    (hQ : ∀ vb' h' t', hStep vb c pv = .ok vb' → Ext [L] h h' → Loc h' L (("tag", .ref a) :: hl0 lst vb') → Q .next ⟨h', g, d, t', os⟩)
    (hE : ∀ C v s', hStep vb c pv = .error C → Hurt L h g d os C v s' → E v s') :
    wpAny (model PG w) A (exec (hdrLoop.getD 1 default) (hdrEnv L)) Q E ⟨h, g, d, t, os⟩ := by
  obtain ⟨tkm, gm⟩ := g_hvm w
  show wpAny _ _ (exec (.If (.Name _ _) [.If (.Compare (.Name _ _) [.NotEq] [.Name _ _] _) [.Raise (some (.Call (.Name _ _) [_] [] _)) none _] [] _, .If (.UnaryOp .Not (.Call (.Attribute (.Name _ _) _ _) [.Constant _ _ _] [] _) _) [.Raise (some (.Call (.Name _ _) [_] [] _)) none _] [] _, .Assign [.Name _ _] (.Constant _ _ _) _] [.Assign [.Name _ _] (.Constant _ _ _) _] _) _) _ _ _
  have Gh := G.grow B
  refine wpAny_If (wpAny_isTrue_value (ev_loc F rfl (wpAny_truthy_bool ?_)))
  cases vb with
  | false =>
    refine wpAny_execs_cons (wpAny_Assign_Name (ev_bool (st_loc F fun h2 t2 F2 s2 => wpAny_execs_nil (hQ true h2 t2 rfl (extOf s2) (F2.weak ⟨rfl, rfl, rfl, trivial⟩)))))
  | true =>
    refine wpAny_execs_cons (wpAny_If (wpAny_isTrue_Compare1 (ev_loc F rfl (ev_glob Gh gm (ne_int (wpAny_truthy_bool ?_))))))
    by_cases hc : c = 9
    · subst hc
      obtain ⟨x, rfl⟩ := K.s9 rfl
      rw [show ((9 : Int) != 9) = false from rfl]
      refine wpAny_execs_nil (wpAny_execs_cons (wpAny_If (wpAny_isTrue_Not (wpAny_isTrue_value (Call_method1 rfl rfl rfl (ev_loc (v := .str x tv) F rfl (SB.startswith (ev_str ⟨_, _, rfl, wpAny_truthy_bool ?_⟩))))))))
      cases hs : Txt.startswith x "$" with
      | true =>
        exact wpAny_execs_nil (wpAny_execs_cons (wpAny_Assign_Name (ev_bool (st_loc F fun h2 t2 F2 s2 => wpAny_execs_nil (hQ false h2 t2 (by simp [hStep, hs]) (extOf s2) (F2.weak ⟨rfl, rfl, rfl, trivial⟩))))))
      | false =>
        refine wpAny_execs_cons ((cls80 w).go (n := 4000) cA Gh (fun Q E q => ev_glob Gh (by kernel_rfl!) q) ?_ rfl fun h' e t' args hm => hE 80 _ _ (by simp [hStep, hs]) ⟨h, h', e, t', args, _, rfl, rfl, Ext.refl _ _, F, hm⟩)
        refine part_join (n := 300) ?_ (by decide) (by decide)
        refine List.forall_mem_cons.mpr ⟨part_const (by decide +kernel), List.forall_mem_cons.mpr ⟨part_val (env := hdrEnv L) (pv := .s x) F rfl (fun y e => by have := K.s y e; omega) (fun i e => by cases e) (by decide), List.forall_mem_cons.mpr ⟨part_const (by decide +kernel), List.forall_mem_nil _⟩⟩⟩
    · rw [show (c != 9) = true by simp [hc]]
      refine wpAny_execs_cons ((cls44 w).go (n := 4000) cA Gh (fun Q E q => ev_glob Gh (by kernel_rfl!) q) ?_ rfl fun h' e t' args hm => hE 44 _ _ (by simp [hStep, hc]) ⟨h, h', e, t', args, _, rfl, rfl, Ext.refl _ _, F, hm⟩)
      refine part_join (n := 300) ?_ (by decide) (by decide)
      refine List.forall_mem_cons.mpr ⟨part_const (by decide +kernel), List.forall_mem_cons.mpr ⟨part_val (env := hdrEnv L) (pv := .n c) F rfl (fun y e => by cases e) (fun i e => by cases e; exact K.n) (by decide), List.forall_mem_cons.mpr ⟨part_const (by decide +kernel), List.forall_mem_cons.mpr ⟨part_val (env := hdrEnv L) (pv := pv) F rfl (fun y e => by have := K.s y e; omega) K.i (by decide), List.forall_mem_cons.mpr ⟨part_const (by decide +kernel), List.forall_mem_nil _⟩⟩⟩⟩⟩
end
end Mine
namespace Mine
abbrev fsH (L : Addr) (kf : Result → Sem Fin) (pf : Pos) : List Frame := [.ret kf none false [] (cH1 L) pf []]
noncomputable def kfH (L : Addr) : Result → Sem Fin := kfOf (hdrEnv L) (fun f => match f with | .next => (execs [] (hdrEnv L)).wrap KFn (HFn (hdrEnv L)) id id | f => KFn f) (HFn (hdrEnv L)) id id
theorem ff2h {h b : Heap} {L Lw : Addr} {l lw} (x : Loc h L l) (y : Loc h Lw lw) (hn : b.get? L = none) (hw : b.get? Lw = none) : h.FunFrames b [hdrEnv L, lawEnv Lw] :=
  ff1 x hn (by decide) (ff1 y hw (by decide) trivial)
/-- all generators but one have ended -/
def DoneBut (g : Array GenState) (gi : Nat) : Prop := ∀ (i : Nat) x, i ≠ gi → g[i]? = some x → x = .finished
structure HP (w : World) (b : Heap) (W : List Addr) (L it Lw told lst : Addr) (pl : List (Int × PV)) (i : Nat) (vb : Bool) (h : Heap) : Prop where
  G : Glo w b
  hb : ∀ x ∈ W, b.get? x = none
  B : Grow b h
  F : Loc h L (hl0 lst vb)
  T : TagsAt W h lst pl
  I : h.IsListIter it lst i
  LW : L ∈ W
  IW : it ∈ W
  OW : Lw ∈ W
  TW : told ∈ W
  LI : L ≠ it
  LO : L ≠ Lw
  IO : it ≠ Lw
  TL : told ≠ L
  TO : told ≠ Lw
  TI : told ≠ it
  O : ∃ lw, Loc h Lw lw
section
variable {w : World} {A : Around} {b h h' : Heap} {W : List Addr} {g : Array GenState} {d : Drawn} {t : Nat} {os : OsState} {L it Lw told lst : Addr} {vb : Bool} {pl : List (Int × PV)} {i : Nat} {pf : Pos} {P : End → Shared → Prop}
theorem kfH_err {A P} {b h : Heap} {g d t os} {e : Addr} {cls a0} (hh : Heap.HeldW b [hdrEnv L, lawEnv Lw] e cls a0 L h) (hP : ∀ h', Heap.FlyingW b [lawEnv Lw] e cls a0 h' → h.UpToSlots h' → P (.ret (.error (.ref e))) ⟨h', g, d, t, os⟩) :
    SegX (model PG w) A (cH1 L) (kfH L (.error (.ref e))) [] ⟨h, g, d, t, os⟩ P := by
  show SegX _ A _ (Sem.wrap _ _ _ _ ((Sem.raise _).onRaise _)) _ _ _
  refine xg_raised ?_
  refine xg_wrap (came_held rfl hh fun h1 hh1 u1 => ?_)
  refine xg_wrap (leaves_held' rfl hh1 fun h2 hf u2 => ?_)
  exact s_end PG w A _ _ _ (.error (.ref e)) _ rfl (hP h2 hf (u1.trans u2))
theorem HP.ks (Z : HP w b W L it Lw told lst pl i vb h) (x : Ext [L, it] h h') : KS Lw h h' := ks_ext x (fun n m => by
    rcases List.mem_cons.mp m with e | m
    · exact e ▸ noSeq_loc Z.F
    · exact List.mem_singleton.mp m ▸ noSeq_iter Z.I) (by simp [Z.LO.symm, Z.IO.symm])
/-- one turn of the header's loop, or its end -/
theorem hdr_seg (cA : Calm (A.over (cH L it) (fsH L (kfH L) pf))) (hdp : (A.over (cH L it) (fsH L (kfH L) pf)).depth ≤ 445) (hun : (A.over (cH L it) (fsH L (kfH L) pf)).units ≤ 80) (hfr : ((A.over (cH L it) (fsH L (kfH L) pf))).frames = some [hdrEnv L, lawEnv Lw])
    (Z : HP w b W L it Lw told lst pl i vb h) (hK : ∀ (i : Nat) c pv, pl[i]? = some (c, pv) → KindH c pv)
    (PY : ∀ c pv, pl[i]? = some (c, pv) → ∀ vb' a kk l p h' t', hStep vb c pv = .ok vb' → Awake w (cH L it) (fsH L (kfH L) pf) kk → HP w b W L it Lw told lst pl (i + 1) vb' h' → (∃ tc tv, IsTag h' a (.int c tc) (pv.val tv)) → KS Lw h h' →
      P (.susp (.ref a) false l kk (cH L it) p (fsH L (kfH L) pf)) ⟨h', g.push .finished, d, t', os⟩)
    (PN : pl[i]? = none → ∀ h' t', KS Lw h h' → Grow b h' → P (.ret (.ok (.ret .none))) ⟨h', g, d, t', os⟩)
    (PE : ∀ c pv, pl[i]? = some (c, pv) → ∀ C e h' t' a0, hStep vb c pv = .error C → KS Lw h h' → Heap.FlyingW b [lawEnv Lw] e (.ref C) a0 h' → P (.ret (.error (.ref e))) ⟨h', g.push .finished, d, t', os⟩) :
    SegX (model PG w) A (cH L it) (denote table (cH L it)) (fsH L (kfH L) pf) ⟨h, g, d, t, os⟩ P := by
  obtain ⟨hlW, items, hil, hsz, hit⟩ := Z.T
  have sI : ∀ n ∈ [it], n ∈ W := fun n m => List.mem_singleton.mp m ▸ Z.IW
  have sL : ∀ n ∈ [L], n ∈ W := fun n m => List.mem_singleton.mp m ▸ Z.LW
  cases hp : pl[i]? with
  | none =>
    have hin : items[i]? = none := by
      rw [Array.getElem?_eq_none_iff, hsz]; exact List.getElem?_eq_none_iff.mp hp
    refine xg_forTurn (wpAny_pyNext_list_end cA.handled Z.I hil hin fun h1 s1 => xg_block ?_)
    have x1 : Ext [it] h h1 := fun n o m q => s1 n o (fun mm => m (List.mem_singleton.mpr mm)) q
    show SegX _ _ _ (Sem.wrap KFn (HFn (hdrEnv L)) id id (execs [] (hdrEnv L))) _ _ _
    exact xg_nil (s_end PG w A _ _ _ (.ok (.ret .none)) _ rfl (PN hp h1 t (Z.ks (x1.mono (by simp))) (x1.keepBase (fun n m => Z.hb n (sI n m)) Z.B)))
  | some q =>
    obtain ⟨c, pv⟩ := q
    have K := hK i c pv hp
    obtain ⟨a, tc, tv, hia, hTa⟩ := hit i c pv hp
    refine xg_forTurn (wpAny_pyNext_list_item Z.I hil hia fun h1 I1 s1 => ?_)
    show wpAny _ _ (assign (.Name _ _) _ _) _ _ _
    have e1 : Ext [it] h h1 := extOf s1
    have F1 := loc_ext Z.F e1 (by simp [Z.LI])
    refine wpAny_assign_Name (st_loc F1 fun h2 t2 F2 s2 => ?_)
    have e2 : Ext [L] h1 h2 := extOf s2
    have X2 : Ext [L, it] h h2 := (e1.mono (by simp)).trans (e2.mono (by simp))
    have B1 : Grow b h1 := e1.keepBase (fun n m => Z.hb n (sI n m)) Z.B
    have B2 : Grow b h2 := e2.keepBase (fun n m => Z.hb n (sL n m)) B1
    have T2 := (hTa.ext e1 sI).ext e2 sL
    have I2 : h2.IsListIter it lst (i + 1) := let ⟨o, ho, r⟩ := I1; ⟨o, e2 _ _ (by simp [Z.LI.symm]) ho, r⟩
    have Ts2 := (Z.T.ext e1 sI).ext e2 sL
    obtain ⟨lw, O⟩ := Z.O
    have O2 : Loc h2 Lw lw := loc_ext (loc_ext O e1 (by simp [Z.IO.symm])) e2 (by simp [Z.LO.symm])
    -- after a change of the frame alone
    have after : ∀ {h3 vb'}, Ext [L] h2 h3 → Loc h3 L (("tag", .ref a) :: hl0 lst vb') → HP w b W L it Lw told lst pl (i + 1) vb' h3 := fun x F => { Z with
      B := x.keepBase (fun n m => Z.hb n (sL n m)) B2, F := F.weak ⟨rfl, rfl, trivial⟩, T := Ts2.ext x sL, I := let ⟨o, ho, r⟩ := I2; ⟨o, x _ _ (by simp [Z.LI.symm]) ho, r⟩, O := ⟨lw, loc_ext O2 x (by simp [Z.LO.symm])⟩ }
    show SegX _ _ _ (Sem.wrap _ _ _ _ (execs [.Assign [.Tuple [.Name _ _, .Name _ _] _ _] (.Name _ _) _, hdrLoop.getD 1 default, .Expr (.Yield (some (.Name _ _)) _) _] _)) _ _ _
    refine xg_stmt (Assign_Tuple (ev_loc F2 rfl ?_))
    rw [arm_assign_Tuple]
    refine wpAny_bind (wpAny_standAt ?_)
    unfold unpack
    refine wpAny_bind (wpAny_holding (unpack_tag cA.handled hdp hun (Z.G.grow B2) T2.tag fun h3 t3 k3 => ?_))
    refine assignInOrder_cons (wpAny_assign_Name (st_loc (F2.grow k3) fun h4 t4 F4 s4 => ?_))
    refine assignInOrder_cons (wpAny_assign_Name (st_loc F4 fun h5 t5 F5 s5 => ?_))
    refine assignInOrder_nil ?_
    have x5 : Ext [L] h2 h5 := (k3.ext.trans (extOf s4)).trans (extOf s5)
    have F5' : Loc h5 L (hl1 a c pv tc tv ++ hl0 lst vb) := F5.weak ⟨rfl, rfl, rfl, rfl, rfl, trivial⟩
    have B5 : Grow b h5 := x5.keepBase (fun n m => Z.hb n (sL n m)) B2
    refine xg_stmt (hdr_s1 cA Z.G B5 (Z.hb _ Z.LW) K F5' (fun vb' h6 t6 es x6 F6 => ?_) fun C v s' er H => ?_)
    · refine xg_cons (xg_yield rfl rfl rfl (ev_loc F6 rfl fun l kk p hw => ?_))
      have x26 := x5.trans x6
      exact PY c pv hp vb' a kk l p h6 t6 es (fun A s P x => hw A s P (xg_nil (s_again PG w A _ _ P s (cH L it) rfl x))) (after x26 F6) ⟨tc, tv, (T2.ext x26 sL).tag⟩ (Z.ks (X2.trans (x26.mono (by simp))))
    · obtain ⟨h7, h8, e, t', args, l', rfl, rfl, x7, F7, hm⟩ := H
      have x27 := x5.trans x7
      have O7 : Loc h7 Lw lw := loc_ext O2 x27 (by simp [Z.LO.symm])
      have B7 : Grow b h7 := x27.keepBase (fun n m => Z.hb n (sL n m)) B2
      refine xg_HF (note_made (base := b) hfr rfl (fun _ _ q => B7 _ _ q) (ff2h F7 O7 (Z.hb _ Z.LW) (Z.hb _ Z.OW)) hm fun h9 a0 hh u9 => ?_)
      refine s_pop PG w A _ _ P _ (.error (.ref e)) _ rfl _ _ _ _ _ _ _ ?_
      refine kfH_err hh fun h10 hf u10 => PE c pv hp C e h10 _ a0 er ?_ hf
      exact (Z.ks (X2.trans (x27.mono (by simp)))).trans (ks_slots ((Heap.UpToSlots.of_keeps hm.keeps).trans (u9.trans u10)))
end
end Mine
namespace Mine
structure YoungH (w : World) (b : Heap) (W : List Addr) (L Lw told lst : Addr) (pl : List (Int × PV)) (h : Heap) : Prop where
  G : Glo w b
  hb : ∀ x ∈ W, b.get? x = none
  B : Grow b h
  F : Loc h L [("tagger", .ref lst)]
  T : TagsAt W h lst pl
  LW : L ∈ W
  OW : Lw ∈ W
  LO : L ≠ Lw
  O : ∃ lw, Loc h Lw lw
  TW : told ∈ W
  TL : told ≠ L
  TO : told ≠ Lw
  Ti : ∃ items, h.IsList told items
def SleepH (w : World) (b : Heap) (W : List Addr) (L Lw told lst : Addr) (pl : List (Int × PV)) (i : Nat) (vb : Bool) (h : Heap) (gs : GenState) : Prop :=
  (i = 0 ∧ vb = true ∧ gs = .fresh (cH1 L) ∧ YoungH w b W L Lw told lst pl h) ∨
  (∃ it k l p pf, gs = .suspended k l (cH L it) p (fsH L (kfH L) pf) false ∧ Awake w (cH L it) (fsH L (kfH L) pf) k ∧ HP w b (it :: W) L it Lw told lst pl i vb h ∧ Lw ∈ W ∧ told ∈ W)
theorem SleepH.ext {w : World} {b h h' : Heap} {W : List Addr} {L Lw told lst : Addr} {pl : List (Int × PV)} {i : Nat} {vb : Bool} {gs : GenState} (S : SleepH w b W L Lw told lst pl i vb h gs)
    (k : Ext [Lw, told] h h') (O : ∃ lw, Loc h' Lw lw) (Ti : ∃ items, h'.IsList told items) : SleepH w b W L Lw told lst pl i vb h' gs := by
  rcases S with ⟨e1, e2, e3, Y⟩ | ⟨it, kk, l, p, pf, e1, e2, Z, oW, tW⟩
  · have s : ∀ n ∈ [Lw, told], n ∈ W := fun n m => by
      rcases List.mem_cons.mp m with e | m
      · exact e ▸ Y.OW
      · exact List.mem_singleton.mp m ▸ Y.TW
    exact .inl ⟨e1, e2, e3, { Y with B := k.keepBase (fun n m => Y.hb n (s n m)) Y.B, F := loc_ext Y.F k (by simp [Y.LO, Y.TL.symm]), T := Y.T.ext k s, O := O, Ti := Ti }⟩
  · have s : ∀ n ∈ [Lw, told], n ∈ it :: W := fun n m => by
      rcases List.mem_cons.mp m with e | m
      · exact e ▸ Z.OW
      · exact List.mem_singleton.mp m ▸ Z.TW
    exact .inr ⟨it, kk, l, p, pf, e1, e2, { Z with B := k.keepBase (fun n m => Z.hb n (s n m)) Z.B, F := loc_ext Z.F k (by simp [Z.LO, Z.TL.symm]), T := Z.T.ext k s, O := O, I := let ⟨o, ho, r⟩ := Z.I; ⟨o, k _ _ (by simp [Z.IO, Z.TI.symm]) ho, r⟩ }, oW, tW⟩
theorem SleepH.sub {w : World} {b h : Heap} {W : List Addr} {L Lw told lst : Addr} {pl : List (Int × PV)} {i : Nat} {vb : Bool} {gs : GenState} (S : SleepH w b W L Lw told lst pl i vb h gs) : b.get? Lw = none ∧ b.get? told = none ∧ told ≠ Lw := by
  rcases S with ⟨e1, e2, e3, Y⟩ | ⟨it, kk, l, p, pf, e1, e2, Z, oW, tW⟩
  · exact ⟨Y.hb _ Y.OW, Y.hb _ Y.TW, Y.TO⟩
  · exact ⟨Z.hb _ Z.OW, Z.hb _ Z.TW, Z.TO⟩
theorem done_run {g : Array GenState} {gi : Nat} {gs x : GenState} (hg : g[gi]? = some gs) (hd : DoneBut g gi) : (((g.setIfInBounds gi .running).push .finished).setIfInBounds gi x)[gi]? = some x ∧ DoneBut (((g.setIfInBounds gi .running).push .finished).setIfInBounds gi x) gi := by
  have hlt : gi < g.size := (Array.getElem?_eq_some_iff.mp hg).1
  have hz : gi < (((g.setIfInBounds gi .running).push .finished).setIfInBounds gi x).size := by simp only [Array.size_setIfInBounds, Array.size_push]; omega
  refine ⟨Array.getElem?_eq_some_iff.mpr ⟨hz, Array.getElem_setIfInBounds_self _⟩, fun j y hj e => ?_⟩
  rw [Array.getElem?_setIfInBounds_ne (Ne.symm hj), Array.getElem?_push] at e
  split at e
  · cases e; rfl
  · rw [Array.getElem?_setIfInBounds_ne (Ne.symm hj)] at e
    exact hd j y hj e
theorem done_set {g : Array GenState} {gi : Nat} {gs x : GenState} (hg : g[gi]? = some gs) (hd : DoneBut g gi) : ((g.setIfInBounds gi .running).setIfInBounds gi x)[gi]? = some x ∧ DoneBut ((g.setIfInBounds gi .running).setIfInBounds gi x) gi := by
  have hlt : gi < g.size := (Array.getElem?_eq_some_iff.mp hg).1
  refine ⟨by simp [hlt], fun j y hj e => ?_⟩
  rw [Array.getElem?_setIfInBounds_ne (Ne.symm hj), Array.getElem?_setIfInBounds_ne (Ne.symm hj)] at e
  exact hd j y hj e
section
variable {w : World} {A : Around} {b h h' : Heap} {W : List Addr} {g : Array GenState} {d : Drawn} {t : Nat} {os : OsState} {L it Lw told lst ga : Addr} {vb : Bool} {pl : List (Int × PV)} {i gi : Nat} {gs : GenState} {pf : Pos}
theorem CalmL.h1 (c : CalmL A Lw) : Calm (A.in1.over (cH L it) (fsH L (kfH L) pf)) := ⟨c.handled, by have := c.depth; show A.depth + 1 + 0 ≤ 450; omega, by have := c.units; show A.units + 1 + 3 + 0 ≤ 90; omega⟩
theorem CalmL.h2 (c : CalmL A Lw) : Calm (A.in1.over (cH1 L) []) := ⟨c.handled, by have := c.depth; show A.depth + 0 + 1 ≤ 450; omega, by have := c.units; show A.units + 1 + 0 + 3 ≤ 90; omega⟩
theorem CalmL.hf (c : CalmL A Lw) : (A.in1.over (cH L it) (fsH L (kfH L) pf)).frames = some [hdrEnv L, lawEnv Lw] := by
  show pushEnvs [] (pushEnvs [hdrEnv L] A.frames) = _
  rw [c.frames]; rfl
theorem hStep_cls {c pv C} (K : KindH c pv) (e : hStep vb c pv = .error C) : C = 44 ∨ C = 80 := by
  unfold hStep at e
  repeat' split at e
  all_goals first | (cases e; done) | (cases e; exact .inl rfl) | (cases e; exact .inr rfl)
def bmH (C : Addr) : List Value := if C = 44 then .ref 31 :: excMro else .ref 31 :: .type "ValueError" :: excMro
theorem clsH (G : Glo w h) {C : Addr} (hC : C = 44 ∨ C = 80) : IsCls h C (bmH C) := by
  rcases hC with rfl | rfl
  · exact isc44 G.K
  · exact isc80 G.K
theorem hdr_start {P : End → Shared → Prop} (G : Glo w b) (hb : ∀ x ∈ W, b.get? x = none) (B : Grow b h) (LW : L ∈ W) (F : Loc h L [("tagger", .ref lst)]) (T : TagsAt W h lst pl)
    (go : ∀ it h1 h' t' pf, Ext [L] h h1 → h1.get? it = none → Grow h1 h' → Loc h' L (hl0 lst true) → h'.IsListIter it lst 0 →
      SegX (model PG w) A (cH L it) (denote table (cH L it)) (fsH L (kfH L) pf) ⟨h', g, d, t', os⟩ P) :
    SegX (model PG w) A (cH1 L) (denote table (cH1 L)) [] ⟨h, g, d, t, os⟩ P := by
  have s : ∀ n ∈ [L], n ∈ W := fun n m => List.mem_singleton.mp m ▸ LW
  refine xg_func ?_
  show SegX _ _ _ (Sem.wrap _ _ _ _ (execs [.Assign [.Name _ _] (.Constant _ _ _) _, .For hdrTgt (.Name _ _) hdrLoop [] _] _)) _ _ _
  obtain ⟨hlw, items, hil, hsz, hit⟩ := id T
  refine xg_stmt (wpAny_Assign_Name (ev_bool (st_loc F fun h1 t1 F1 s1 => ?_)))
  have e1 : Ext [L] h h1 := extOf s1
  refine xg_cons (xg_for (ev_loc F1 rfl (wpAny_pyIter_list (isList_ext hil e1 (fun m => hlw (s _ m))) fun p => ?_)))
  refine go _ h1 _ _ p e1 (Heap.get?_none_of_le (Nat.le_refl _)) (push_grow _ _) (Loc.grow (F1.weak ?_) (push_grow _ _)) ⟨_, Heap.get?_push_size _ rfl, rfl, rfl⟩
  exact ⟨rfl, rfl, trivial⟩
theorem hdr_next {Q : Option Value → Shared → Prop} {E : Value → Shared → Prop} (c : CalmL A Lw) (G : Glo w b) (Bh : Grow b h) (Ga : b.IsGen ga gi) (hgs : g[gi]? = some gs) (hdn : DoneBut g gi) (S : SleepH w b W L Lw told lst pl i vb h gs)
    (hK : ∀ (i : Nat) c pv, pl[i]? = some (c, pv) → KindH c pv)
    (hY : ∀ c pv, pl[i]? = some (c, pv) → ∀ vb' gs' g' a h' t', hStep vb c pv = .ok vb' → SleepH w b W L Lw told lst pl (i + 1) vb' h' gs' → g'[gi]? = some gs' → DoneBut g' gi → Grow b h' → (∃ tc tv, IsTag h' a (.int c tc) (pv.val tv)) → KS Lw h h' →
      Q (some (.ref a)) ⟨h', g', d, t', os⟩)
    (hN : pl[i]? = none → ∀ g' h' t', g'[gi]? = some .finished → DoneBut g' gi → KS Lw h h' → Grow b h' → Q none ⟨h', g', d, t', os⟩)
    (hE : ∀ c pv, pl[i]? = some (c, pv) → ∀ C e g' h' t' a0, hStep vb c pv = .error C → g'[gi]? = some .finished → DoneBut g' gi → KS Lw h h' → Heap.FlyingW b [lawEnv Lw] e (.ref C) a0 h' → E (.ref e) ⟨h', g', d, t', os⟩) :
    wpAny (model PG w) A (pyNext (.ref ga)) Q E ⟨h, g, d, t, os⟩ := by
  have keep : ∀ {h' : Heap}, b.StaysIn h' → Grow b h' := fun k b o e => k b o e
  have seg : ∀ {it pf i vb h₁ t₁}, HP w b (it :: W) L it Lw told lst pl i vb h₁ → Lw ∈ W → told ∈ W → KS Lw h h₁ →
      (∀ c pv, pl[i]? = some (c, pv) → ∀ vb' gs' g' a h' t', hStep vb c pv = .ok vb' → SleepH w b W L Lw told lst pl (i + 1) vb' h' gs' → g'[gi]? = some gs' → DoneBut g' gi → Grow b h' → (∃ tc tv, IsTag h' a (.int c tc) (pv.val tv)) → KS Lw h h' →
        Q (some (.ref a)) ⟨h', g', d, t', os⟩) →
      (pl[i]? = none → ∀ g' h' t', g'[gi]? = some .finished → DoneBut g' gi → KS Lw h h' → Grow b h' → Q none ⟨h', g', d, t', os⟩) →
      (∀ c pv, pl[i]? = some (c, pv) → ∀ C e g' h' t' a0, hStep vb c pv = .error C → g'[gi]? = some .finished → DoneBut g' gi → KS Lw h h' → Heap.FlyingW b [lawEnv Lw] e (.ref C) a0 h' → E (.ref e) ⟨h', g', d, t', os⟩) →
      SegX (model PG w) A.in1 (cH L it) (denote table (cH L it)) (fsH L (kfH L) pf) ⟨h₁, g.setIfInBounds gi .running, d, t₁, os⟩ (fun e s₁ => match e with
      | .ret (.ok f) => f = .ret .none ∧ ∀ h', Grow s₁.heap h' → Q none { s₁.setGen gi .finished with heap := h' }
      | .ret (.error v) => ∃ e C oe bm, v = .ref e ∧ s₁.heap.IsGen ga gi ∧ IsCls s₁.heap C bm ∧ s₁.heap.get? e = some oe ∧ oe.cls = .ref C ∧ (Value.ref C :: bm).contains (.type "StopIteration") = false ∧ E v (s₁.setGen gi .finished)
      | .susp v g l k c p fs => Q (some v) (s₁.setGen gi (End.susp v g l k c p fs).genState)) := by
    intro it pf i vb h₁ t₁ Z oW tW k1 hY hN hE
    refine hdr_seg c.h1 (by have := c.depth; show A.depth + 1 + 0 ≤ 445; omega) (by have := c.units; show A.units + 1 + 3 + 0 ≤ 80; omega) c.hf Z hK (fun c pv hp vb' a kk l p h' t' e aw S T k => ?_) (fun hp h' t' k B => ?_) fun c pv hp C e h' t' a0 er k f => ?_
    · obtain ⟨q1, q2⟩ := done_run (x := .suspended kk l (cH L it) p (fsH L (kfH L) pf) false) hgs hdn
      exact hY c pv hp vb' _ _ a h' t' e (.inr ⟨it, kk, l, p, pf, rfl, aw, S, oW, tW⟩) q1 q2 S.B T (k1.trans k)
    · refine ⟨rfl, fun h2 k2 => ?_⟩
      obtain ⟨q1, q2⟩ := done_set (x := .finished) hgs hdn
      exact hN hp _ h2 t' q1 q2 (k1.trans (k.trans (ks_grow k2))) (B.trans k2)
    · obtain ⟨oe, hoe, hcl⟩ := f.there
      have B' := keep f.1
      have hC := hStep_cls (hK i c pv hp) er
      obtain ⟨q1, q2⟩ := done_run (x := .finished) hgs hdn
      refine ⟨e, C, oe, _, rfl, Ga.keeps B', clsH (G.grow B') hC, hoe, hcl, ?_, hE c pv hp C e _ h' t' a0 er q1 q2 (k1.trans k) f⟩
      rcases hC with rfl | rfl <;> decide
  rcases S with ⟨rfl, rfl, rfl, Y⟩ | ⟨it, kk, l, p, pf, rfl, aw, Z, oW, tW⟩
  · refine next_gen c.handled (G.grow Bh).lim c.calm.room (Ga.keeps Bh) hgs (.inl ⟨rfl, rfl, rfl⟩) ?_
    refine hdr_start Y.G Y.hb Y.B Y.LW Y.F Y.T fun it h1 h2 t' pf x1 hn k2 F2 I2 => ?_
    have s : ∀ n ∈ [L], n ∈ W := fun n m => List.mem_singleton.mp m ▸ Y.LW
    have B1 : Grow b h1 := x1.keepBase (fun n m => Y.hb n (s n m)) Y.B
    obtain ⟨lw, O⟩ := Y.O
    have O1 : Loc h1 Lw lw := loc_ext O x1 (by simp [Y.LO.symm])
    have ks1 : KS Lw h h1 := ks_ext x1 (fun n m => List.mem_singleton.mp m ▸ noSeq_loc Y.F) (by simp [Y.LO.symm])
    obtain ⟨items, Ti⟩ := Y.Ti
    have Ti1 : h1.IsList told items := isList_ext Ti x1 (by simp [Y.TL])
    have ne : ∀ {a : Addr} {o : Obj}, h1.get? a = some o → a ≠ it := fun e q => by rw [q, hn] at e; cases e
    have LI : L ≠ it := by
      intro q
      obtain ⟨m, ⟨o, es, ep, ho, r⟩, hl⟩ := F2
      obtain ⟨o', ho', _, hd'⟩ := I2
      rw [q] at ho; rw [ho'] at ho; cases ho; rw [hd'] at r; exact nomatch r.1
    obtain ⟨oo, hoo, _⟩ := loc_obj O1
    obtain ⟨ot, hot, r2⟩ := Ti1
    have T1 := (Y.T.ext x1 s).fresh hn
    refine seg (i := 0) (vb := true) { G := Y.G, hb := fun x m => ?_, B := B1.trans k2, F := F2, T := T1.ext (V := []) k2.ext (fun _ m => nomatch m), I := I2, LW := List.mem_cons_of_mem _ Y.LW, IW := .head _, OW := List.mem_cons_of_mem _ Y.OW, TW := List.mem_cons_of_mem _ Y.TW, LI := LI, LO := Y.LO, IO := (ne hoo).symm, TL := Y.TL, TO := Y.TO, TI := ne hot, O := ⟨lw, O1.grow k2⟩ } Y.OW Y.TW (ks1.trans (ks_grow k2)) hY hN hE
    rcases List.mem_cons.mp m with e | e
    · subst e
      cases q : b.get? x with
      | none => rfl
      | some o => have := B1 x o q; rw [hn] at this; cases this
    · exact Y.hb x e
  · refine next_gen c.handled (G.grow Bh).lim c.calm.room (Ga.keeps Bh) hgs (.inr ⟨kk, l, p, false, rfl, rfl⟩) ?_
    exact aw _ _ _ (seg Z oW tW (ks_grow (Grow.refl _)) hY hN hE)
end
end Mine
namespace Mine
def hRun (vb : Bool) : List (Int × PV) → List (Int × PV) × Option Addr
  | [] => ([], none)
  | p :: r => match hStep vb p.1 p.2 with
    | .error C => ([], some C)
    | .ok vb' => (p :: (hRun vb' r).1, (hRun vb' r).2)
def wordH : Option Addr → Str
  | none => ""
  | some C => if C = 44 then "code" else "name"
def lw2 (gv wv : Value) (pa told : Addr) (wd : Value) : List (Str × Value) := [("good", gv), ("wrong", wv), ("rows", .ref pa), ("told", .ref told), ("word", wd)]
structure LH (b : Heap) (Lw pa told : Addr) (gv wv wd : Value) (pvs vs : List Value) (pl tl : List (Int × PV)) (h : Heap) : Prop where
  B : Grow b h
  F : Loc h Lw (lw2 gv wv pa told wd)
  T : ToldAt h told vs
  U : Tups h vs tl
  P : h.IsList pa pvs.toArray
  V : Tups h pvs pl
theorem fn_hdr (w : World) : ∃ o fd, (hd.heap_39 w.params).lookup 191 = some o ∧ o.data = .func fd ∧ fd.scope.isCoroutine = false ∧ fd.scope.isGenerator = true ∧ fd.body = .stmts (bodyOf hdrDef) ∧ (∀ v, bindArgs fd ⟨[v], []⟩ = (pure [(("tagger" : Str), v)] : Sem (List (Str × Value)))) ∧ fd.scope = scopeOf hdrDef ∧
    (∀ L, newEnv fd.scope L fd.globals fd.closure (fd.qualname ++ ".<locals>.") (some 191) fd.code none fd.builtins = hdrEnv L) ∧ (∀ h, (hd.heap_39 w.params).In h → h.CodeRec fd.code fd.qualname) :=
  ⟨_, _, rfl, rfl, rfl, rfl, rfl, fun v => by rfl, rfl, fun L => by rfl, fun h K => ⟨_, _, _, _, rfl, K _ _ rfl, rfl, rfl⟩⟩
section
variable {w : World} {A : Around} {E Q : Value → Shared → Prop} {h : Heap} {g : Array GenState} {d : Drawn} {t : Nat} {os : OsState} {v : Value}
theorem call_hdr (hroom : A.depth < recursionLimit) (G : Glo w h) (hQ : ∀ L ga h' t', h.get? L = none → h.get? ga = none → L ≠ ga → Grow h h' → Loc h' L [("tagger", v)] → h'.IsGen ga g.size → Q (.ref ga) ⟨h', g.push (.fresh (cH1 L)), d, t', os⟩) :
    wpAny (model PG w) A (call (.ref 191) [v]) Q E ⟨h, g, d, t, os⟩ := by
  obtain ⟨o, fd, ho, hd, hco, hgen, hbody, hbind, hsc, henv, hcr⟩ := fn_hdr w
  refine wpAny_call (codeAny_call_generator hroom (G.K _ _ ho) hd hco hgen hbody (hcr _ G.K) ?_)
  rw [hbind]
  refine wpAny_pure (wpAny_newFunctionEnv (by rw [hsc]; decide) (by intro x m; rw [List.mem_singleton.mp m, hsc]; rfl) (fun h1 hns hsb => ?_) (by rw [hsc]; rfl))
  rw [henv]
  dsimp only at hns hsb ⊢
  have n1 := get_size h
  have gr : Grow h h1 := fun b o e => hsb.extBut b o (fun q => by rw [q, n1] at e; cases e) (Heap.get?_push_of_some _ e)
  obtain ⟨oL, es, ep, hoL, rL⟩ := id hns
  have n2 := get_size h1
  refine ⟨(G.grow gr).lim, hQ h.objs.size h1.objs.size _ _ n1 ?_ (fun q => by rw [← q, hoL] at n2; cases n2) (gr.trans (push_grow _ _)) ?_ ?_⟩
  · cases q : h.get? h1.objs.size with
    | none => rfl
    | some o => rw [gr _ _ q] at n2; cases n2
  · exact Loc.grow ⟨_, hns, fun x u e => by simpa using e⟩ (push_grow _ _)
  · exact ⟨_, _, _, Heap.get?_push_size _ rfl, rfl, rfl, rfl⟩
end
section
variable {w : World} {A : Around} {b0 h : Heap} {g : Array GenState} {d : Drawn} {t : Nat} {os : OsState} {Lw told pa : Addr} {pl : List (Int × PV)} {pvs vs : List Value}
theorem tags_step9 {h0 : Heap} {two : Nat → Value × Value} {k : Nat} (hk : k = 9) (cA : Calm A) (G : Glo w h0) (oW : ∃ o, h0.get? Lw = some o) (oT : ∃ o, h0.get? told = some o)
    (htwo : ∀ i, TwoOk h0 pvs pl i (two i)) :
    JStep w A (lawEnv Lw) (compScope (lcOf k)) g d os (TagsJ Lw told pl) h0 pvs (fun i _ => [("value", (two i).2), ("code", (two i).1)]) (compElt (lcOf k)) := by
  subst hk
  intro C I D i h1 t1 ys v E Q hv J G1 F1 oI oD hq
  obtain ⟨_, c, pv, tc, tv, hp, htw⟩ := htwo i v hv
  dsimp only at F1
  rw [htw] at F1
  dsimp only at F1
  have Gh := G.grow G1
  show wpAny _ _ (eval (.Call (.Name _ _) [.Name _ _, .Name _ _] [] _) _) _ _ _
  refine wpAny_Call_ofName (ev_globE Gh (v := .ref 173) (by kernel_rfl!) (callWith_K (f := .ref 173) (h₀ := h1) Gh.K (by kernel_rfl!) (Calls.spliced_cons (ev_locE (env := cenvOf _ (lawEnv Lw) C) F1 rfl (Calls.spliced_cons (ev_locE (env := cenvOf _ (lawEnv Lw) C) F1 rfl (Calls.spliced_nil ⟨Gh.K, ?_⟩)))))))
  refine call_tag cA Gh fun a h2 t2 dx o k2 p q n1 n2 => hq (.ref a) h2 t2 k2 ⟨by simp [J.1], fun k c' pv' hk hp' => ?_⟩
  obtain ⟨oW, hoW⟩ := oW
  obtain ⟨oT, hoT⟩ := oT
  obtain ⟨oC, hoC, _⟩ := loc_obj F1
  obtain ⟨oI, hoI⟩ := oI
  obtain ⟨oD, hoD⟩ := oD
  have ne : ∀ {x : Addr}, h1.get? x = none → x ∉ [C, I, D, Lw, told] := fun {x} n m => by
    simp only [List.mem_cons, List.not_mem_nil, or_false] at m
    rcases m with m | m | m | m | m <;> rw [m] at n
    · rw [hoC] at n; cases n
    · rw [hoI] at n; cases n
    · rw [hoD] at n; cases n
    · rw [G1 _ _ hoW] at n; cases n
    · rw [G1 _ _ hoT] at n; cases n
  by_cases hki : k < i
  · obtain ⟨a', tc', tv', q', T'⟩ := J.2 k c' pv' hki hp'
    exact ⟨a', tc', tv', by rw [List.getElem?_append_left (by rw [J.1]; exact hki)]; exact q', T'.grow k2⟩
  · have : k = i := by omega
    subst this
    rw [hp] at hp'; cases hp'
    exact ⟨a, tc, tv, by rw [List.getElem?_append_right (by rw [J.1]; exact Nat.le_refl _), J.1, Nat.sub_self]; rfl, dx, o, p, q, ne n1, ne n2⟩
end
section
variable {w : World} {A : Around} {b h : Heap} {W : List Addr} {g g0 : Array GenState} {d : Drawn} {t : Nat} {os : OsState} {L Lw told lst pa ga : Addr} {pl : List (Int × PV)} {gi : Nat} {gs : GenState} {gv wv wd : Value} {pvs vs : List Value} {R : Result → Shared → Prop}
theorem LH.weak {wd' : Value} {tl tl' vs'} (x : LH b Lw pa told gv wv wd pvs vs pl tl h) (h' : Heap) (k : SeqK h h') (B : Grow b h') (F : Loc h' Lw (lw2 gv wv pa told wd')) (T : ToldAt h' told vs') (U : Tups h' vs' tl') : LH b Lw pa told gv wv wd' pvs vs' pl tl' h' :=
  { B := B, F := F, T := T, U := U, P := let ⟨o, ho, hc, n, hd⟩ := x.P; let ⟨sl, q⟩ := k _ o ho ⟨_, _, hd⟩; ⟨_, q, hc, n, hd⟩, V := x.V.seq k }
theorem LH.keep {h' : Heap} {tl} (x : LH b Lw pa told gv wv wd pvs vs pl tl h) (k : KS Lw h h') (B : Grow b h') : LH b Lw pa told gv wv wd pvs vs pl tl h' :=
  { B := B, F := k.o _ x.F, T := x.T.seq k.q, U := x.U.seq k.q, P := k.l _ _ x.P, V := x.V.seq k.q }
theorem hlaw_loop (hA : CalmL A Lw) (G : Glo w b) (Ga : b.IsGen ga gi) (hgs : g0[gi]? = some gs) (hdn : DoneBut g0 gi) (S : SleepH w b W L Lw told lst pl 0 true h gs) (hK : ∀ (i : Nat) c pv, pl[i]? = some (c, pv) → KindH c pv) (hpl : pl.length ≤ 900) (hpt : pa ≠ told)
    (Z : LH b Lw pa told gv wv wd pvs [] pl [] h)
    (hN : ∀ h' g' t' vs, (hRun true pl).2 = none → g'[gi]? = some .finished → DoneBut g' gi → LH b Lw pa told gv wv wd pvs vs pl (hRun true pl).1 h' → R (.ok .next) ⟨h', g', d, t', os⟩)
    (hE : ∀ h' g' t' vs e C a0, (hRun true pl).2 = some C → (C = 44 ∨ C = 80) → g'[gi]? = some .finished → DoneBut g' gi → LH b Lw pa told gv wv wd pvs vs pl (hRun true pl).1 h' → Heap.FlyingW b [lawEnv Lw] e (.ref C) a0 h' →
      notedBy (model PG w) A (lawEnv Lw) (fun e s' => R (.error e) s') (.ref e) ⟨h', g', d, t', os⟩) :
    codeAny (model PG w) A (.forLoop (forTgt (lawFor 9)) (.ref ga) (bodyOf (lawFor 9)) [] (lawEnv Lw)) R ⟨h, g0, d, t, os⟩ := by
  refine codeAny_forLoop (fun n s => ∃ h g t i vb gs vs, s = ⟨h, g, d, t, os⟩ ∧ n = pl.length + 1 - i ∧ i ≤ pl.length ∧ SleepH w b W L Lw told lst pl i vb h gs ∧ g[gi]? = some gs ∧ DoneBut g gi ∧ vs.length = i ∧
    LH b Lw pa told gv wv wd pvs vs pl (pl.take i) h ∧ hRun true pl = (pl.take i ++ (hRun vb (pl.drop i)).1, (hRun vb (pl.drop i)).2)) ?_ (pl.length + 1) ⟨h, g0, t, 0, true, gs, [], rfl, rfl, Nat.zero_le _, S, hgs, hdn, rfl, Z, by simp⟩
  rintro n s ⟨h, g, t, i, vb, gs, vs, rfl, hn, hi, S, hgs, hdn, hvl, Z, hv⟩
  refine hdr_next hA G Z.B Ga hgs hdn S hK (fun c pv hp vb' gs' g' a h1 t1 e S1 q1 q2 B1 T1 k1 => ?_) (fun hp g' h1 t1 q1 q2 k1 B1 => ?_) fun c pv hp C e g' h1 t1 a0 er q1 q2 k1 f1 => ?_
  · show wpAny _ _ (assign (.Name _ _) _ _) _ _ _
    have Z1 := Z.keep k1 B1
    obtain ⟨nb1, nb2, nTo⟩ := S1.sub
    refine wpAny_assign_Name (st_loc Z1.F fun h2 t2 F2 s2 => ?_)
    obtain ⟨tc, tv, T1⟩ := T1
    have e2 : Ext [Lw] h1 h2 := extOf s2
    have k2 : SeqK h1 h2 := seqK_ext e2 fun n m => List.mem_singleton.mp m ▸ noSeq_loc Z1.F
    have B2 : Grow b h2 := e2.keepBase (fun n m => List.mem_singleton.mp m ▸ nb1) B1
    have T2 : IsTag h2 a (.int c tc) (pv.val tv) := by
      obtain ⟨dx', o', p1, p2⟩ := T1
      obtain ⟨ol, hol, hdl⟩ := loc_obj F2
      by_cases hd' : dx' = Lw
      · refine ⟨dx', ol, (s2.2 a fun z => ?_).trans p1, hd' ▸ hol⟩
        obtain ⟨m, ⟨oo, es, ep, hoo, hdd, _⟩, _⟩ := Z1.F
        rw [z, hoo] at p1; cases p1; cases hdd
      · refine ⟨dx', o', (s2.2 a fun z => ?_).trans p1, (s2.2 dx' hd').trans p2⟩
        obtain ⟨m, ⟨oo, es, ep, hoo, hdd, _⟩, _⟩ := Z1.F
        rw [z, hoo] at p1; cases p1; cases hdd
    have G2 := G.grow B2
    show wpAny _ _ (execs [.Expr (.Call (.Attribute (.Name _ _) _ _) [.Tuple [.Attribute (.Name _ _) _ _, .Attribute (.Name _ _) _ _] _ _] [] _) _] _) _ _ _
    refine wpAny_execs_cons (told_pair (l0 := ("tag", .ref a) :: lw2 gv wv pa told wd) F2 rfl (Z1.T.seq k2) (by rw [hvl]; omega) (fun Q E hq => Attribute_name (ev_loc F2 rfl (attr_code hA.calm G2 T2 fun h3 t3 k3 => hq h3 t3 tc k3)))
      (fun h3 t3 Q E k3 hq => Attribute_name (ev_loc (F2.grow k3) rfl (attr_value hA.calm (G2.grow k3) (T2.grow k3) fun h4 t4 k4 => hq h4 t4 tv k4))) fun h3 h4 t4 v k3 s4 T4 V4 => ?_)
    have hlt : i < pl.length := (List.getElem?_eq_some_iff.mp hp).1
    have hpi : pl[i] = (c, pv) := (List.getElem?_eq_some_iff.mp hp).2
    have hdrop : pl.drop i = (c, pv) :: pl.drop (i + 1) := by rw [← hpi]; exact List.drop_eq_getElem_cons hlt
    have htake : pl.take (i + 1) = pl.take i ++ [(c, pv)] := by rw [← hpi]; exact (List.take_append_getElem hlt).symm
    have T3 : h3.IsList told vs.toArray := listK_grow k3 _ _ (ToldAt.list (Z1.T.seq k2))
    have e4 : Ext [told] h3 h4 := extOf s4
    have F4 : Loc h4 Lw (("tag", .ref a) :: lw2 gv wv pa told wd) := loc_ext (F2.grow k3) e4 (by simp [nTo.symm])
    have pa3 : h3.IsList pa pvs.toArray := by
      obtain ⟨o, ho, hc, n, hd⟩ := Z1.P
      obtain ⟨sl, q⟩ := k2 _ o ho ⟨_, _, hd⟩
      exact ⟨_, k3 _ _ q, hc, n, hd⟩
    have ee : Ext [Lw, told] h1 h4 := ((e2.mono (by simp)).trans (k3.ext)).trans (e4.mono (by simp))
    refine wpAny_execs_nil ⟨_, by show pl.length + 1 - (i + 1) < n; omega, h4, g', t4, i + 1, vb', gs', vs ++ [v], rfl, rfl, hlt, S1.ext ee ⟨_, F4⟩ ⟨_, T4.list⟩, q1, q2, by simp [hvl], ?_, ?_⟩
    · refine { B := e4.keepBase (fun n m => List.mem_singleton.mp m ▸ nb2) (B2.trans k3), F := F4.weak ⟨rfl, rfl, rfl, rfl, rfl, trivial⟩, T := T4, U := ?_, P := isList_ext pa3 e4 (by simp [hpt]), V := tups_but ((Z1.V.seq k2).seq (seqK_grow k3)) s4 T3 }
      rw [htake]
      exact (tups_but ((Z1.U.seq k2).seq (seqK_grow k3)) s4 T3).snoc (tupIs_but V4 s4 T3)
    · rw [hv, hdrop, htake]
      simp only [hRun, e, List.append_assoc, List.singleton_append]
  · have hlen : pl.length ≤ i := List.getElem?_eq_none_iff.mp hp
    have hd : pl.drop i = [] := List.drop_eq_nil_of_le hlen
    have ht : pl.take i = pl := List.take_of_length_le hlen
    rw [hd, ht] at hv
    rw [ht] at Z
    simp only [hRun, List.append_nil] at hv
    refine wpAny_execs_nil ?_
    have Z1 := Z.keep k1 B1
    have := hN h1 g' t1 vs (by rw [hv]) q1 q2
    rw [hv] at this
    exact this Z1
  · have hvv : hRun true pl = (pl.take i, some C) := by
      have hlt : i < pl.length := (List.getElem?_eq_some_iff.mp hp).1
      have hpi : pl[i] = (c, pv) := (List.getElem?_eq_some_iff.mp hp).2
      have hdrop : pl.drop i = (c, pv) :: pl.drop (i + 1) := by rw [← hpi]; exact List.drop_eq_getElem_cons hlt
      rw [hv, hdrop]; simp [hRun, er]
    have := hE h1 g' t1 vs e C a0 (by rw [hvv]) (hStep_cls (hK i c pv hp) er) q1 q2
    rw [hvv] at this
    exact this (Z.keep k1 (fun b o e => f1.1 b o e)) f1
end
end Mine
namespace Mine
section
variable {w : World} {A : Around} {b0 h : Heap} {g : Array GenState} {d : Drawn} {t : Nat} {os : OsState} {Lw told pa : Addr} {gv wv : Value} {pl : List (Int × PV)} {pvs vs : List Value}

/-- a run over made tags: what the generator starts from -/
theorem law_try9 {tw : Tok} {Q : Flow → Shared → Prop} {E : Value → Shared → Prop} (hA : CalmL A Lw) (G : Glo w b0) (n0 : b0.get? Lw = none) (n1 : b0.get? told = none) (hpt : pa ≠ told) (hK : ∀ (i : Nat) c pv, pl[i]? = some (c, pv) → KindH c pv) (hpl : pl.length ≤ 900) (hdn : ∀ (i : Nat) x, g[i]? = some x → x = .finished)
    (Z : LH b0 Lw pa told gv wv (.str "" tw) pvs [] pl [] h)
    (hQ : ∀ h' g' t' vs tk, (∀ (i : Nat) x, g'[i]? = some x → x = .finished) → LH b0 Lw pa told gv wv (.str (wordH (hRun true pl).2) tk) pvs vs pl (hRun true pl).1 h' → Q .next ⟨h', g', d, t', os⟩) :
    wpAny (model PG w) A (exec (lawStmt 9) (lawEnv Lw)) Q E ⟨h, g, d, t, os⟩ := by
  show wpAny _ _ (exec (.Try [.For _ (.Call (.Name _ _) [.ListComp _ [⟨.Tuple [.Name _ _, .Name _ _] _ _, .Name _ _, [], 0⟩] _ _] [] _) _ [] _] [.ExceptHandler (some (.Name _ _)) none [.Assign [.Name _ _] (.Constant _ _ _) _] _, .ExceptHandler (some (.Name _ _)) none [.Assign [.Name _ _] (.Constant _ _ _) _] _] [] [] _) _) _ _ _
  obtain ⟨two, htwo⟩ := two_of Z.V
  obtain ⟨oW, hoW, hdW⟩ := loc_obj Z.F
  obtain ⟨nT, slT, hoT⟩ := id Z.T
  obtain ⟨o191, fd191, ho191, hd191, _⟩ := fn_hdr w
  refine wpAny_Try_except (wpAny_execs_cons (wpAny_For (wpAny_Call_ofName (ev_glob (G.grow Z.B) (v := .ref 191) (by kernel_rfl!) (Calls.callWith_function (o := o191) (fd := fd191) (Calls.evalArgs_plain (Calls.spliced_cons
    (lc_pair (TagsJ Lw told pl) (l := pa) (items := pvs) (h0 := h) (two := two) hA.handled (by decide) rfl (by decide) (by decide) rfl rfl (by decide) (by rw [Z.V.1, sizeLine_eq]; omega) Z.P (fun i v e => (htwo i v e).1)
      (fun C I D h' T k _ _ _ => ⟨rfl, fun k c pv hk => absurd hk (Nat.not_lt_zero _)⟩) tagsJ_stable (tags_step9 rfl hA.calm (G.grow Z.B) ⟨_, hoW⟩ ⟨_, hoT⟩ htwo) (fun C I D h1 t1 ys T J k1 D1 => ?_) (fun Q E hq => ev_loc Z.F rfl (hq _))))))))))
  have Z1 := Z.keep (ks_grow k1) (Z.B.trans k1)
  have G1 := G.grow Z1.B
  refine Calls.spliced_nil ⟨⟨G1.K _ _ ho191, hd191⟩, call_hdr hA.calm.room G1 fun L ga h2 t2 nL nG hLG k2 F2 Ga2 => ?_⟩
  have Z2 := Z1.keep (ks_grow k2) (Z1.B.trans k2)
  have hoW2 := k2 _ _ (k1 _ _ hoW)
  have hoT2 := k2 _ _ (k1 _ _ hoT)
  have hLW : L ≠ Lw := fun q => by rw [q, k1 _ _ hoW] at nL; cases nL
  have hLT : told ≠ L := fun q => by rw [← q, k1 _ _ hoT] at nL; cases nL
  have hTW : told ≠ Lw := fun q => by
    have := hoT.symm.trans (q ▸ hoW)
    obtain ⟨m, ⟨oo, es, ep, hoo, hdd, _⟩, _⟩ := Z.F
    rw [← q, hoT] at hoo; cases hoo; cases hdd
  have hGW : ga ≠ Lw := fun q => by rw [q, k1 _ _ hoW] at nG; cases nG
  have hGT : ga ≠ told := fun q => by rw [q, k1 _ _ hoT] at nG; cases nG
  obtain ⟨b, be, bs⟩ := erase3 h2 L Lw told
  have Bb : Grow b h2 := fun x o e => by
    by_cases m : x ∈ [L, Lw, told]
    · rw [be x m] at e; cases e
    · rw [← bs x m]; exact e
  have hL0 : b0.get? L = none := by
    cases q : b0.get? L with
    | none => rfl
    | some o => rw [Z1.B _ _ q] at nL; cases nL
  have B0 : Grow b0 b := fun x o e => by
    rw [bs x (fun m => ?_)]
    · exact Z2.B _ _ e
    · simp only [List.mem_cons, List.not_mem_nil, or_false] at m
      rcases m with m | m | m <;> rw [m] at e
      · rw [hL0] at e; cases e
      · rw [n0] at e; cases e
      · rw [n1] at e; cases e
  have Gab : b.IsGen ga g.size := by
    obtain ⟨o, nm, qn, ho, r⟩ := Ga2
    exact ⟨o, nm, qn, by rw [bs ga (by simp [hLG.symm, hGW, hGT])]; exact ho, r⟩
  have T2 : TagsAt [L, Lw, told] h2 D pl := by
    obtain ⟨oD, hoD, rD⟩ := id D1
    refine ⟨?_, ys.toArray, listK_grow k2 _ _ D1, by simp [J.1, Z.V.1], fun i c pv e => ?_⟩
    · simp only [List.mem_cons, List.not_mem_nil, or_false, not_or]
      exact ⟨fun q => (by rw [← q, hoD] at nL; cases nL), fun q => (by have := T.d; rw [q, hoW] at this; cases this), fun q => (by have := T.d; rw [q, hoT] at this; cases this)⟩
    · have hi : i < pvs.length := by rw [Z.V.1]; exact (List.getElem?_eq_some_iff.mp e).1
      obtain ⟨a, tc, tv, q, dx', o', p1, p2, r1, r2⟩ := J.2 i c pv hi e
      refine ⟨a, tc, tv, by simpa using q, dx', o', k2 _ _ p1, k2 _ _ p2, ?_, ?_⟩
      · simp only [List.mem_cons, List.not_mem_nil, or_false, not_or] at r1 ⊢
        exact ⟨fun q => (by rw [← q, p1] at nL; cases nL), r1.2.2.2.1, r1.2.2.2.2⟩
      · simp only [List.mem_cons, List.not_mem_nil, or_false, not_or] at r2 ⊢
        exact ⟨fun q => (by rw [← q, p2] at nL; cases nL), r2.2.2.2.1, r2.2.2.2.2⟩
  have Y : YoungH w b [L, Lw, told] L Lw told D pl h2 := { G := G.grow B0, hb := be, B := Bb, F := F2, T := T2, LW := by simp, OW := by simp, LO := hLW, O := ⟨_, Z2.F⟩, TW := by simp, TL := hLT, TO := hTW, Ti := ⟨_, Z2.T.list⟩ }
  refine wpAny_pyIter_gen Ga2 ?_
  have dn : DoneBut (g.push (.fresh (cH1 L))) g.size := fun i x hi e => by
    rw [Array.getElem?_push, if_neg hi] at e
    exact hdn i x e
  have all : ∀ {g' : Array GenState}, g'[g.size]? = some .finished → DoneBut g' g.size → ∀ (i : Nat) x, g'[i]? = some x → x = .finished := fun {g'} q1 q2 i x e => by
    by_cases hi : i = g.size
    · subst hi; rw [q1] at e; cases e; rfl
    · exact q2 i x hi e
  have up : ∀ {h' : Heap} {wd : Value} {vs tl}, LH b Lw pa told gv wv wd pvs vs pl tl h' → LH b0 Lw pa told gv wv wd pvs vs pl tl h' := fun z => { z with B := B0.trans z.B }
  refine hlaw_loop (w := w) (b := b) (L := L) (lst := D) (pl := pl) (gi := g.size) (gs := .fresh (cH1 L)) (gv := gv) (wv := wv) (wd := .str "" tw) (pvs := pvs) (told := told) (pa := pa) hA (G.grow B0) Gab (by simp) dn (.inl ⟨rfl, rfl, rfl, Y⟩) hK hpl hpt { Z2 with B := Bb }
    (fun h3 g3 t3 vs3 e3 q1 q2 Z3 => ?_) fun h3 g3 t3 vs3 e C a0 e3 hC q1 q2 Z3 f3 => ?_
  · refine wpAny_execs_nil (wpAny_execs_nil ?_)
    have := hQ h3 g3 t3 vs3 tw (all q1 q2)
    rw [e3] at this
    exact this (up Z3)
  · refine catch2 (w := w) (D1 := 44) (D2 := 80) (x := "word") hA (G.grow B0) f3 Z3.F (fun _ G => isc44 G.K) (fun _ G => isc80 G.K) (fun _ G => clsH G hC) (by decide) (by decide) (by rcases hC with rfl | rfl <;> decide) (by kernel_rfl!) (by kernel_rfl!) ?_ (fun h4 t4 tk q4 B4 F4 => ?_) rfl rfl rfl (by decide) (by decide)
    · rcases hC with rfl | rfl
      · exact .inl rfl
      · exact .inr ⟨rfl, by decide⟩
    · refine hQ h4 g3 t4 vs3 tk (all q1 q2) ?_
      have F4' : Loc h4 Lw (lw2 gv wv pa told (.str (wordH (hRun true pl).2) tk)) := by
        rw [e3]
        exact F4.weak ⟨rfl, rfl, rfl, rfl, rfl, trivial⟩
      exact up (Z3.weak h4 q4 B4 F4' (Z3.T.seq q4) (Z3.U.seq q4))
end
end Mine
namespace Mine
def pv0 : Int × PV := (0, .n 0)
def kinds : List (Int × PV) := [(1, .s "a"), (102, .s "{A"), (102, .s "{B"), (102, .s "}"), (102, .s "A}"), (102, .s "x"), (1001, .s "P"), (1000, .s "t"), (1002, .s "{"), (1002, .s "}"), (1002, .s "y"), (101, .s "Embedded Object"), (101, .s "other"), (8, .s "0"), (1070, .n 3), (102, .s "B}")]
theorem kd_all : ∀ p ∈ kinds, KindDue p.1 p.2 := by
  unfold kinds
  repeat' (first | exact List.forall_mem_nil _ | (refine List.forall_mem_cons.mpr ⟨?_, ?_⟩))
  all_goals
    refine ⟨⟨by decide, ?_, ?_, ?_⟩, ?_, ?_, ?_⟩
  all_goals intro y
  all_goals first
    | exact .inl rfl
    | exact .inr rfl
    | exact ⟨_, rfl, by decide +kernel⟩
    | exact ⟨_, rfl, by decide +kernel, by decide +kernel, by decide +kernel⟩
    | exact absurd y (by decide)
    | (intro e; cases e; decide +kernel)
    | (intro e; cases e)
def dxOf (n : Int) : Str := if n.fmod 3 = 1 then "XRECORD" else "LINE"
theorem kd_head (n : Int) : KindDue 0 (.s (dxOf n)) := by
  have e : dxOf n = "XRECORD" ∨ dxOf n = "LINE" := by unfold dxOf; split; exact .inl rfl; exact .inr rfl
  refine ⟨⟨by decide, fun y => absurd y (by decide), fun y => absurd y (by decide), fun y => absurd y (by decide)⟩, fun x y => ?_, fun x y => ?_, fun y => absurd y (by decide)⟩
  · cases y; rcases e with e | e <;> rw [e] <;> decide +kernel
  · cases y; rcases e with e | e <;> rw [e] <;> decide +kernel
theorem dx_len (n : Int) : (dxOf n).length ≤ 200 := by unfold dxOf; split <;> decide +kernel
def kidx (n : Int) : Nat := (n.fmod 16).toNat
theorem kidx_lt (n : Int) : kidx n < 16 := by
  have h0 : n.fmod 16 = n % 16 := Int.fmod_eq_emod_of_nonneg n (by decide)
  have h1 := Int.emod_nonneg n (b := 16) (by decide)
  have h2 := Int.emod_lt_of_pos n (b := 16) (by decide)
  unfold kidx; omega
def kind (n : Int) : Int × PV := kinds.getD (kidx n) pv0
def plOf : List Int → List (Int × PV)
  | [] => []
  | n :: r => (0, .s (dxOf n)) :: r.map kind
theorem kind_mem (n : Int) : kind n ∈ kinds := by
  have h := kidx_lt n
  unfold kind
  have hl : kinds.length = 16 := rfl
  rw [List.getD_eq_getElem?_getD, List.getElem?_eq_getElem (by rw [hl]; exact h)]
  exact List.getElem_mem _
theorem pl_due (ns : List Int) : ∀ p ∈ plOf ns, KindDue p.1 p.2 := by
  cases ns with
  | nil => exact List.forall_mem_nil _
  | cons n r =>
    refine List.forall_mem_cons.mpr ⟨kd_head n, fun p m => ?_⟩
    obtain ⟨k, _, rfl⟩ := List.mem_map.mp m
    exact kd_all _ (kind_mem k)
theorem kinds_at {w : World} {h : Heap} (K : (hd.heap_39 w.params).In h) (k : Nat) (hk : k < 16) : TupIs h (.ref (199 + k)) (kinds.getD k pv0) := by
  have go : ∀ {a : Addr} {o : Obj} {p : Int × PV} {n tc tv}, (hd.heap_39 w.params).lookup a = some o → o.cls = .type "tuple" → o.data = .seq #[.int p.1 tc, p.2.val tv] n → TupIs h (.ref a) p := fun e c d => ⟨_, _, _, _, _, rfl, K _ _ e, c, d⟩
  match k, hk with
  | 0, _ => exact go (p := (1, .s "a")) rfl rfl rfl
  | 1, _ => exact go (p := (102, .s "{A")) rfl rfl rfl
  | 2, _ => exact go (p := (102, .s "{B")) rfl rfl rfl
  | 3, _ => exact go (p := (102, .s "}")) rfl rfl rfl
  | 4, _ => exact go (p := (102, .s "A}")) rfl rfl rfl
  | 5, _ => exact go (p := (102, .s "x")) rfl rfl rfl
  | 6, _ => exact go (p := (1001, .s "P")) rfl rfl rfl
  | 7, _ => exact go (p := (1000, .s "t")) rfl rfl rfl
  | 8, _ => exact go (p := (1002, .s "{")) rfl rfl rfl
  | 9, _ => exact go (p := (1002, .s "}")) rfl rfl rfl
  | 10, _ => exact go (p := (1002, .s "y")) rfl rfl rfl
  | 11, _ => exact go (p := (101, .s "Embedded Object")) rfl rfl rfl
  | 12, _ => exact go (p := (101, .s "other")) rfl rfl rfl
  | 13, _ => exact go (p := (8, .s "0")) rfl rfl rfl
  | 14, _ => exact go (p := (1070, .n 3)) rfl rfl rfl
  | 15, _ => exact go (p := (102, .s "B}")) rfl rfl rfl
  | k + 16, h => exact absurd h (by omega)
theorem kinds_list {w : World} {h : Heap} (K : (hd.heap_39 w.params).In h) : ∃ items, h.IsList 215 items ∧ ∀ k, k < 16 → items[k]? = some (.ref (199 + k)) := by
  refine ⟨_, ⟨_, K 215 _ rfl, rfl, _, rfl⟩, fun k hk => ?_⟩
  match k, hk with
  | 0, _ => rfl
  | 1, _ => rfl
  | 2, _ => rfl
  | 3, _ => rfl
  | 4, _ => rfl
  | 5, _ => rfl
  | 6, _ => rfl
  | 7, _ => rfl
  | 8, _ => rfl
  | 9, _ => rfl
  | 10, _ => rfl
  | 11, _ => rfl
  | 12, _ => rfl
  | 13, _ => rfl
  | 14, _ => rfl
  | 15, _ => rfl
  | k + 16, h => exact absurd h (by omega)
end Mine
namespace Mine
theorem ints_take : ∀ {vs : List Value} {ns : List Int}, IntsAre vs ns → ∀ k, IntsAre (vs.take k) (ns.take k)
  | _, _, .nil, k => by simp; exact .nil
  | _, _, .cons n t r, 0 => .nil
  | _, _, .cons n t r, k + 1 => .cons n t (ints_take r k)
theorem ints_drop : ∀ {vs : List Value} {ns : List Int}, IntsAre vs ns → ∀ k, IntsAre (vs.drop k) (ns.drop k)
  | _, _, .nil, k => by simp; exact .nil
  | _, _, .cons n t r, 0 => .cons n t r
  | _, _, .cons n t r, k + 1 => ints_drop r k
theorem ints_len : ∀ {vs : List Value} {ns : List Int}, IntsAre vs ns → vs.length = ns.length
  | _, _, .nil => rfl
  | _, _, .cons n t r => congrArg (· + 1) (ints_len r)
theorem ints_get : ∀ {vs : List Value} {ns : List Int}, IntsAre vs ns → ∀ {i : Nat} {v : Value}, vs[i]? = some v → ∃ n t, ns[i]? = some n ∧ v = .int n t
  | _, _, .nil, i, v, e => by simp at e
  | _, _, .cons n t r, 0, v, e => by cases e; exact ⟨n, t, rfl, rfl⟩
  | _, _, .cons n t r, i + 1, v, e => ints_get r (i := i) e
def numsOf (ns : List Int) : List Int := if ns = [] then [0] else ns.take 13
section
variable {w : World} {A : Around} {E : Value → Shared → Prop} {b h : Heap} {g : Array GenState} {d : Drawn} {t : Nat} {os : OsState} {Lw sa na : Addr} {vs : List Value} {ns : List Int}
abbrev sliceHeap (h : Heap) (vl vu : Value) (xs : List Value) : Heap := (h.push { cls := .type "slice", data := .fields #[vl, vu, .none] }).push { cls := .type "list", data := .seq xs.toArray }
theorem sliceHeap_ok (h : Heap) (vl vu : Value) (xs : List Value) : Grow h (sliceHeap h vl vu xs) ∧ h.get? (h.objs.size + 1) = none ∧ (sliceHeap h vl vu xs).get? (h.objs.size + 1) = some { cls := .type "list", data := .seq xs.toArray } := by
  have z := Heap.size_push h { cls := .type "slice", data := .fields #[vl, vu, .none] }
  have e := Heap.get?_push_size (h.push { cls := .type "slice", data := .fields #[vl, vu, .none] }) (o := { cls := .type "list", data := .seq xs.toArray }) rfl
  rw [z] at e
  exact ⟨(push_grow _ _).trans (push_grow _ _), Heap.get?_none_of_le (Nat.le_succ _), e⟩
theorem slice_upto {Q : Value → Shared → Prop} {l : List (Str × Value)} {x : Str} {la : Addr} {k kk : Nat} {p1 p2 p3 p4 : Pos} (F : Loc h Lw l) (hv : l.lookup x = some (.ref la)) (hl : h.IsList la vs.toArray) (hsz : vs.length ≤ 1000)
    (hQ : ∀ tk t', Q (.ref (h.objs.size + 1)) ⟨sliceHeap h .none (.int k tk) (vs.take k), g, d, t', os⟩) (hlk : (lawEnv Lw).kindOf x = some .local := by rfl) (hd : (x == ("__debug__" : Str)) = false := by decide) :
    wpAny (model PG w) A (eval (.Subscript (.Name x p1) (.Slice none (some (.Constant (.int k) kk p2)) none p3) p4) (lawEnv Lw)) Q E ⟨h, g, d, t, os⟩ := by
  refine wpAny_Subscript_list_slice (ev_loc F hv (partNone (partSome (ev_int ⟨la, vs.toArray, none, some (k : Int), rfl, hl, by simp only [List.size_toArray]; rw [sizeLine_eq]; omega, .none, .int _ _, ?_⟩))) rfl hlk hd)
  rw [slicePick_upto']
  exact hQ t (t + 1)
theorem law_s0 {Q : Flow → Shared → Prop} (G : Glo w h) (F : Loc h Lw [("script", .ref sa)]) (hl : h.IsList sa vs.toArray) (hi : IntsAre vs ns) (hn : ns.length ≤ 63)
    (hQ : ∀ h' t' na us, Ext [Lw] h h' → Loc h' Lw [("numbers", .ref na)] → h'.IsList na us.toArray → IntsAre us (numsOf ns) → Q .next ⟨h', g, d, t', os⟩) :
    wpAny (model PG w) A (exec (lawStmt 0) (lawEnv Lw)) Q E ⟨h, g, d, t, os⟩ := by
  show wpAny _ _ (exec (.Assign [.Name _ _] (.IfExp (.Compare (.Call (.Name _ _) [.Name _ _] [] _) [.Gt] [.Constant _ _ _] _) (.Subscript (.Name _ _) (.Slice none (some (.Constant _ _ _)) none _) _) (.List [.Constant _ _ _] _) _) _) _) _ _ _
  have hlen := ints_len hi
  refine wpAny_Assign_Name (wpAny_IfExp (wpAny_isTrue_Compare1 (wpAny_Call_ofName (ev_bi G (v := .builtin "len") (by kernel_rfl!) (by kernel_rfl!) (PySem.callWith_builtin1 (ev_loc F rfl (PySem.Calls.call_len_list hl (by simp; omega) (ev_int (gt_int (wpAny_truthy_bool ?_))))))))))
  cases ns with
  | nil =>
    cases hi
    refine List_ (Calls.spliced_cons (ev_int (i := 0) (kk := 0) (pos := default) (Calls.spliced_nil (wpAny_newList ?_ (by show 1 ≤ sizeLine; decide)))))
    refine st_loc (F.grow (push_grow _ _)) fun h2 t2 F2 s2 => ?_
    refine hQ h2 t2 h.objs.size [.int 0 (t + 1 + 1 + 1)] ((push_grow _ _).ext.trans (extOf s2)) (F2.weak ⟨rfl, trivial⟩) ?_ (.cons 0 _ .nil)
    refine isList_ext (V := [Lw]) ⟨_, Heap.get?_push_size _ rfl, rfl, 0, rfl⟩ (extOf s2) ?_
    intro m
    obtain ⟨o, ho, _⟩ := loc_obj F
    have n1 := get_size h
    rw [List.mem_singleton.mp m, ho] at n1; cases n1
  | cons n r =>
    rw [show (decide ((vs.toArray.size : Int) > 0)) = true by
      have : vs.toArray.size = r.length + 1 := by simpa using hlen
      rw [this]; simp]
    refine slice_upto (k := 13) F rfl hl (by omega) fun tk t' => ?_
    obtain ⟨k1, n1, e1⟩ := sliceHeap_ok h .none (.int 13 tk) ((vs.take 13))
    refine st_loc (F.grow k1) fun h2 t2 F2 s2 => ?_
    have hu := ints_take hi 13
    refine hQ h2 t2 _ (vs.take 13) (k1.ext.trans (extOf s2)) (F2.weak ⟨rfl, trivial⟩) ?_ (by unfold numsOf; rw [if_neg (by simp)]; exact hu)
    refine isList_ext (V := [Lw]) ⟨_, e1, rfl, 0, rfl⟩ (extOf s2) ?_
    intro m
    obtain ⟨o, ho, _⟩ := loc_obj F
    rw [List.mem_singleton.mp m, ho] at n1; cases n1
end
end Mine
namespace Mine
section
variable {w : World} {A : Around} {E : Value → Shared → Prop} {s : Shared} {env : Env} {pos : Pos} {Q : Value → Shared → Prop}
theorem List1 {M : Model} {e1 : Expr} (h : wpAny M A (eval e1 env) (fun v1 s1 => wpAny M A (newList [v1]) Q E s1) E s) (h1 : isStarred e1 = false := by rfl) : wpAny M A (eval (.List [e1] pos) env) Q E s := by
  refine List_ ?_
  rw [starEach_one h1]
  exact Calls.spliced_cons (wpAny_mono h (fun v1 s1 h1 => Calls.spliced_nil h1) fun _ _ q => q)
theorem star3 {e1 e2 e3 : Expr} (h1 : isStarred e1 = false) (h2 : isStarred e2 = false) (h3 : isStarred e3 = false) : starEach [e1, e2, e3] env = [(false, eval e1 env), (false, eval e2 env), (false, eval e3 env)] := by
  have a1 : starEach (e1 :: [e2, e3]) env = (false, eval e1 env) :: starEach [e2, e3] env := by cases e1 <;> first | rfl | cases h1
  rw [a1, star2 h2 h3]
theorem List3 {M : Model} {e1 e2 e3 : Expr} (h : wpAny M A (eval e1 env) (fun v1 s1 => wpAny M A (eval e2 env) (fun v2 s2 => wpAny M A (eval e3 env) (fun v3 s3 => wpAny M A (newList [v1, v2, v3]) Q E s3) E s2) E s1) E s)
    (h1 : isStarred e1 = false := by rfl) (h2 : isStarred e2 = false := by rfl) (h3 : isStarred e3 = false := by rfl) : wpAny M A (eval (.List [e1, e2, e3] pos) env) Q E s := by
  refine List_ ?_
  rw [star3 h1 h2 h3]
  exact Calls.spliced_cons (wpAny_mono h (fun v1 s1 h1 => Calls.spliced_cons (wpAny_mono h1 (fun v2 s2 h2 => Calls.spliced_cons (wpAny_mono h2 (fun v3 s3 h3 => Calls.spliced_nil h3) fun _ _ q => q)) fun _ _ q => q)) fun _ _ q => q)
theorem add_lists' {l b : Addr} {vs ws : List Value} (hl : s.heap.IsList l vs.toArray) (hb : s.heap.IsList b ws.toArray)
    (h : Q (.ref s.heap.objs.size) { s with heap := s.heap.push { cls := .type "list", data := .seq (vs ++ ws).toArray } }) (hsz : vs.length + ws.length ≤ sizeLine) :
    wpAny (model PG w) A (binaryOp .Add (.ref l) (.ref b)) Q E s := by
  obtain ⟨⟨cls, dd, data, sl⟩, ho, hc, n, hd⟩ := id hl
  obtain ⟨⟨cls2, dd2, data2, sl2⟩, ho2, hc2, n2, hd2⟩ := id hb
  simp only at hc hd hc2 hd2
  subst hc hd hc2 hd2
  have e : vs.toArray ++ ws.toArray = (vs ++ ws).toArray := by simp
  refine concat_meets ⟨_, ho, rfl⟩ ⟨_, ho2, rfl⟩ noFill_list_add seq_list_add PySem.F.slot_list_add PySem.F.entry_list_add (PySem.F.args_list_add_2 _ _) (list_addW l b vs.toArray ws.toArray n n2 dd dd2 sl sl2 (by simpa using hsz)) ⟨ho, ho2, ?_⟩
  rw [e]
  exact h
end
section
variable {w : World} {A : Around} {E : Value → Shared → Prop} {b h : Heap} {g : Array GenState} {d : Drawn} {t : Nat} {os : OsState} {Lw na : Addr} {us : List Value} {ms : List Int}
abbrev lcOf1 : Expr := match lawStmt 1 with | .Assign _ (.BinOp _ _ r _) _ => r | _ => default
def refsOf (ms : List Int) : List Value := ms.map fun n => .ref (199 + kidx n)
theorem kinds_step {h0 : Heap} {xs : List Value} {js : List Int} (G : Glo w h0) (hx : IntsAre xs js) :
    JStep w A (lawEnv Lw) (compScope lcOf1) g d os (fun _ _ _ i _ ys => ys = refsOf (js.take i)) h0 xs (fun _ v => [("number", v)]) (compElt lcOf1) := by
  intro C I D i h1 t1 ys v E Q hv J G1 F1 _ _ hq
  obtain ⟨n, tn, hn, rfl⟩ := ints_get hx hv
  have Gh := G.grow G1
  obtain ⟨items, hil, hit⟩ := kinds_list Gh.K
  have h0' : n.fmod 16 = n % 16 := Int.fmod_eq_emod_of_nonneg n (by decide)
  have h1' := Int.emod_nonneg n (b := 16) (by decide)
  have h2' := Int.emod_lt_of_pos n (b := 16) (by decide)
  show wpAny _ _ (eval (.Subscript (.Name _ _) (.BinOp (.Name _ _) .Mod (.Constant _ _ _) _) _) _) _ _ _
  refine Subscript_BinOp (ev_globE Gh (v := .ref 215) (by kernel_rfl!) (wpAny_BinOp (ev_locE (env := cenvOf _ (lawEnv Lw) C) F1 rfl (ev_int (PyProof.Rows.mod_int (by decide) ⟨"list", "list.__getitem__", slot_list_getitem.lookup, hil.typeIs, wpAny_getItem_list hil (by omega) (by omega) (hit (kidx n) (kidx_lt n)) ?_⟩)))))
  refine hq _ h1 _ (Grow.refl _) ?_
  rw [J]
  have hlt : i < js.length := (List.getElem?_eq_some_iff.mp hn).1
  have hni : js[i] = n := (List.getElem?_eq_some_iff.mp hn).2
  show refsOf (js.take i) ++ [.ref (199 + kidx n)] = refsOf (js.take (i + 1))
  rw [show js.take (i + 1) = js.take i ++ [n] by rw [← hni]; exact (List.take_append_getElem hlt).symm]
  simp [refsOf]
theorem law_s1 {Q : Flow → Shared → Prop} (hh : A.handled = none) (G : Glo w h) (F : Loc h Lw [("numbers", .ref na)]) (hl : h.IsList na us.toArray) (hi : IntsAre us ms) (hne : ms ≠ []) (hn : ms.length ≤ 13)
    (hQ : ∀ h' t' pa pvs, Ext [Lw] h h' → Loc h' Lw [("pairs", .ref pa), ("numbers", .ref na)] → h'.get? pa = some { cls := .type "list", data := .seq pvs.toArray } → h.get? pa = none → Tups h' pvs (plOf ms) → Q .next ⟨h', g, d, t', os⟩) :
    wpAny (model PG w) A (exec (lawStmt 1) (lawEnv Lw)) Q E ⟨h, g, d, t, os⟩ := by
  show wpAny _ _ (exec (.Assign [.Name _ _] (.BinOp (.List [.Tuple [.Constant _ _ _, .Subscript (.List [.Constant _ _ _, .Constant _ _ _, .Constant _ _ _] _) (.BinOp (.Subscript (.Name _ _) (.Constant _ _ _) _) .Mod (.Constant _ _ _) _) _] _ _] _) .Add (.ListComp _ [⟨.Name _ _, .Subscript (.Name _ _) (.Slice (some (.Constant _ _ _)) none none _) _, [], 0⟩] _ _) _) _) _) _ _ _
  obtain ⟨n0, r, rfl⟩ : ∃ n0 r, ms = n0 :: r := by cases ms with
    | nil => exact absurd rfl hne
    | cons n r => exact ⟨n, r, rfl⟩
  obtain ⟨v0, us', rfl, t0, rfl, hi'⟩ : ∃ v0 us', us = v0 :: us' ∧ ∃ t0, v0 = Value.int n0 t0 ∧ IntsAre us' r := by
    cases hi with
    | cons n tt r => exact ⟨_, _, rfl, tt, rfl, r⟩
  have hlen := ints_len hi'
  have h0' : n0.fmod 3 = n0 % 3 := Int.fmod_eq_emod_of_nonneg n0 (by decide)
  have h1' := Int.emod_nonneg n0 (b := 3) (by decide)
  have h2' := Int.emod_lt_of_pos n0 (b := 3) (by decide)
  refine wpAny_Assign_Name ?_
  refine wpAny_BinOp ?_
  refine List1 ?_
  refine Tuple2 (ev_int ?_)
  refine Sub_B ?_
  refine List3 (ev_str (ev_str (ev_str ?_)))
  refine wpAny_newList ?_ (by rw [sizeLine_eq]; show 3 ≤ 16777216; decide)
  have kA := push_grow h { cls := .type "list", data := .seq [Value.str (Str.ofString "LINE") (t + 1), Value.str (Str.ofString "XRECORD") (t + 1 + 1), Value.str (Str.ofString "LINE") (t + 1 + 1 + 1)].toArray }
  have eA := Heap.get?_push_size h (o := { cls := .type "list", data := .seq [Value.str (Str.ofString "LINE") (t + 1), Value.str (Str.ofString "XRECORD") (t + 1 + 1), Value.str (Str.ofString "LINE") (t + 1 + 1 + 1)].toArray }) rfl
  dsimp only
  generalize h.push { cls := .type "list", data := .seq [Value.str (Str.ofString "LINE") (t + 1), Value.str (Str.ofString "XRECORD") (t + 1 + 1), Value.str (Str.ofString "LINE") (t + 1 + 1 + 1)].toArray } = hA at *
  generalize h.objs.size = la at *
  have lA : hA.IsList la #[Value.str (Str.ofString "LINE") (t + 1), Value.str (Str.ofString "XRECORD") (t + 1 + 1), Value.str (Str.ofString "LINE") (t + 1 + 1 + 1)] := ⟨_, eA, rfl, 0, rfl⟩
  have FA := F.grow kA
  have nA : hA.IsList na (Value.int n0 t0 :: us').toArray := listK_grow kA _ _ hl
  have item : ∃ tk, (#[Value.str (Str.ofString "LINE") (t + 1), Value.str (Str.ofString "XRECORD") (t + 1 + 1), Value.str (Str.ofString "LINE") (t + 1 + 1 + 1)] : Array Value)[(n0.fmod 3).toNat]? = some (.str (dxOf n0) tk) := by
    have : n0 % 3 = 0 ∨ n0 % 3 = 1 ∨ n0 % 3 = 2 := by omega
    unfold dxOf
    rw [h0']
    rcases this with e | e | e
    · rw [e]; exact ⟨t + 1, rfl⟩
    · rw [e]; exact ⟨t + 1 + 1, rfl⟩
    · rw [e]; exact ⟨t + 1 + 1 + 1, rfl⟩
  obtain ⟨tk, item⟩ := item
  refine wpAny_BinOp ?_
  refine Subscript_Constant (ev_loc FA rfl (ev_int ?_))
  refine ⟨"list", "list.__getitem__", slot_list_getitem.lookup, nA.typeIs, ?_⟩
  refine wpAny_getItem_list (x := .int n0 t0) nA (by decide) (by decide) (by simp) ?_
  refine ev_int (PyProof.Rows.mod_int (by decide) ?_)
  refine ⟨"list", "list.__getitem__", slot_list_getitem.lookup, lA.typeIs, ?_⟩
  refine wpAny_getItem_list lA (by omega) (by omega) item ?_
  refine wpAny_newTuple ?_ (by rw [sizeLine_eq]; show 2 ≤ 16777216; decide)
  refine wpAny_newList ?_ (by rw [sizeLine_eq]; show 1 ≤ 16777216; decide)
  dsimp only
  generalize t + 1 + 1 + 1 + 1 + 1 + 1 + 1 = t6
  have kB := push_grow hA { cls := .type "tuple", data := .seq [Value.int 0 t, Value.str (dxOf n0) tk].toArray }
  have eB := Heap.get?_push_size hA (o := { cls := .type "tuple", data := .seq [Value.int 0 t, Value.str (dxOf n0) tk].toArray }) rfl
  have fB := get_size hA
  generalize hA.push { cls := .type "tuple", data := .seq [Value.int 0 t, Value.str (dxOf n0) tk].toArray } = hB at *
  generalize hA.objs.size = tp at *
  have kC := push_grow hB { cls := .type "list", data := .seq [Value.ref tp].toArray }
  have eC := Heap.get?_push_size hB (o := { cls := .type "list", data := .seq [Value.ref tp].toArray }) rfl
  generalize hB.push { cls := .type "list", data := .seq [Value.ref tp].toArray } = hC at *
  generalize hB.objs.size = lc at *
  have k0C : Grow h hC := (kA.trans kB).trans kC
  have FC := F.grow k0C
  have nC : hC.IsList na (Value.int n0 t0 :: us').toArray := listK_grow k0C _ _ hl
  have GC' := G.grow k0C
  obtain ⟨k1, n1, e1⟩ := sliceHeap_ok hC (.int 1 t6) .none us'
  have hsz : us'.length ≤ 1000 := by simp at hn; omega
  have inner : ∀ (Q E : Value → Shared → Prop), (∀ t, Q (.ref (hC.objs.size + 1)) ⟨sliceHeap hC (.int 1 t6) .none us', g, d, t, os⟩) → wpAny (model PG w) A (eval (match lcOf1 with | .ListComp _ [⟨_, it, _, _⟩] _ _ => it | _ => default) (lawEnv Lw)) Q E ⟨hC, g, d, t6, os⟩ := by
    intro Q E hq
    show wpAny _ _ (eval (.Subscript (.Name _ _) (.Slice (some (.Constant _ _ _)) none none _) _) _) _ _ _
    refine wpAny_Subscript_list_slice (ev_loc FC rfl (partSome (ev_int (partNone ⟨na, (Value.int n0 t0 :: us').toArray, some ((1 : Nat) : Int), none, rfl, nC, by simp only [List.size_toArray, List.length_cons]; rw [sizeLine_eq]; omega, .int _ _, .none, ?_⟩))))
    rw [slicePick_from']
    exact hq (t6 + 1)
  refine lc_name (l := hC.objs.size + 1) (items := us') (h0 := sliceHeap hC (.int 1 t6) .none us') (fun _ _ _ i _ ys => ys = refsOf (r.take i)) hh (by decide) rfl (by decide) (by decide) rfl (by rw [sizeLine_eq]; omega) ⟨_, e1, rfl, 0, rfl⟩
    (fun C I D h' T k _ _ _ => by simp [refsOf]) (fun C I D i h1 h2 ys x e => x) (kinds_step (GC'.grow k1) hi') (fun C I D h' t' ys T J kD eD => ?_) inner
  -- the two lists together
  have J' : ys = refsOf r := by rw [J, ints_len hi', List.take_length]
  subst J'
  have lL : h'.IsList lc [Value.ref tp].toArray := ⟨_, kD _ _ (k1 _ _ eC), rfl, 0, rfl⟩
  have kCD : Grow hC h' := k1.trans kD
  have k0D : Grow h h' := k0C.trans kCD
  refine add_lists' lL eD ?_ (by rw [sizeLine_eq]; simp [refsOf]; simp at hn; omega)
  have kE := push_grow h' { cls := .type "list", data := .seq ([Value.ref tp] ++ refsOf r).toArray }
  have eE := Heap.get?_push_size h' (o := { cls := .type "list", data := .seq ([Value.ref tp] ++ refsOf r).toArray }) rfl
  have nE := get_size h'
  dsimp only
  generalize h'.push { cls := .type "list", data := .seq ([Value.ref tp] ++ refsOf r).toArray } = hE at *
  generalize h'.objs.size = pa at *
  have k0E := k0D.trans kE
  refine st_loc (F.grow k0E) fun h2 t2 F2 s2 => ?_
  have x2 : Ext [Lw] h h2 := k0E.ext.trans (extOf s2)
  have n0E : h.get? pa = none := by
    cases q : h.get? pa with
    | none => rfl
    | some o => rw [k0D _ _ q] at nE; cases nE
  have nPL : pa ≠ Lw := fun q => by
    obtain ⟨oW, hoW, _⟩ := loc_obj F
    rw [q, hoW] at n0E; cases n0E
  refine hQ h2 t2 pa ([Value.ref tp] ++ refsOf r) x2 F2 (extOf s2 _ _ (by simp [nPL]) eE) n0E ⟨by simp [plOf, refsOf], fun i p e => ?_⟩
  have G2 : Glo w hE := G.grow k0E
  have q2 : SeqK hE h2 := seqK_ext (extOf s2) fun n m => List.mem_singleton.mp m ▸ noSeq_loc (F.grow k0E)
  cases i with
  | zero =>
    cases e
    exact ⟨_, rfl, tupIs_seq ⟨tp, _, 0, t, tk, rfl, kE _ _ (kCD _ _ (kC _ _ eB)), rfl, rfl⟩ q2⟩
  | succ j =>
    have e' : (r.map kind)[j]? = some p := e
    rw [List.getElem?_map] at e'
    obtain ⟨n, hn', rfl⟩ := Option.map_eq_some_iff.mp e'
    refine ⟨.ref (199 + kidx n), ?_, tupIs_seq (kinds_at G2.K (kidx n) (kidx_lt n)) q2⟩
    show (refsOf r)[j]? = _
    unfold refsOf
    rw [List.getElem?_map, hn']; rfl
end
end Mine
namespace Mine
theorem vRun_sub : ∀ {pl : List (Int × PV)} {st : GS} {p}, p ∈ (vRun st pl).1 → p ∈ pl
  | [], st, p, m => by simp [vRun] at m
  | q :: r, st, p, m => by
    unfold vRun at m
    split at m
    · simp at m
    · rcases List.mem_cons.mp m with e | m
      · exact e ▸ .head _
      · exact .tail _ (vRun_sub m)
theorem eqvAll_pairs : ∀ tl : List (Int × PV), PyData.eqvAll (tl.map pairD) (tl.map pairD) = true
  | [] => by simp [PyData.eqvAll]
  | (c, pv) :: tl => by
    have ih := eqvAll_pairs tl
    cases pv <;> simp [PyData.eqvAll, PyData.eqv, pairD, PV.dat, ih]
theorem depth_pairs : ∀ tl : List (Int × PV), PyData.depthAll (tl.map pairD) ≤ 1
  | [] => by simp [PyData.depthAll]
  | (c, pv) :: tl => by
    have ih := depth_pairs tl
    have h1 : (pairD (c, pv)).depth = 1 := by cases pv <;> simp [pairD, PV.dat, PyData.depth, PyData.depthAll]
    simp only [List.map_cons, PyData.depthAll, h1]
    omega
section
variable {w : World} {A : Around} {E : Value → Shared → Prop} {b h : Heap} {g : Array GenState} {d : Drawn} {t : Nat} {os : OsState} {Lw : Addr} {l : List (Str × Value)}
theorem law_new {Q : Flow → Shared → Prop} {p1 p2 p3 p4 p5 p6 p7 : Pos} {k1 k2 k3 : Nat} (hh : A.handled = none) (F : Loc h Lw l)
    (hs : swapsWithSole [.Tuple [.Name "told" p1, .Name "word" p2] k1 p3] (.Tuple [.List [] p4, .Constant (.str "") k2 p5] k3 p6) p7.line (lawEnv Lw) = pure false)
    (hw : swappedStores [.Tuple [.Name "told" p1, .Name "word" p2] k1 p3] (.Tuple [.List [] p4, .Constant (.str "") k2 p5] k3 p6) (lawEnv Lw) = pure (some [("told" : Str), "word"]))
    (hQ : ∀ h' t' told tw, Ext [Lw] h h' → h.get? told = none → Loc h' Lw (("told", .ref told) :: ("word", .str "" tw) :: l) → ToldAt h' told [] → Q .next ⟨h', g, d, t', os⟩) :
    wpAny (model PG w) A (exec (.Assign [.Tuple [.Name "told" p1, .Name "word" p2] k1 p3] (.Tuple [.List [] p4, .Constant (.str "") k2 p5] k3 p6) p7) (lawEnv Lw)) Q E ⟨h, g, d, t, os⟩ := by
  refine Assign_Tuple_swapped (names := [("told" : Str), "word"]) ?_ hs hw
  refine Tuple2 ?_
  refine List0 ?_
  refine ev_str ?_
  refine wpAny_newTuple ?_ (by rw [sizeLine_eq]; show 2 ≤ 16777216; decide)
  dsimp only
  have kA := push_grow h { cls := .type "list", data := .seq #[] }
  have eA := Heap.get?_push_size h (o := { cls := .type "list", data := .seq #[] }) rfl
  have nA := get_size h
  generalize h.push { cls := .type "list", data := .seq #[] } = hA at *
  generalize h.objs.size = told at *
  have kB := push_grow hA { cls := .type "tuple", data := .seq [Value.ref told, Value.str (Str.ofString "") t].toArray }
  have TB : IsTup (hA.push { cls := .type "tuple", data := .seq [Value.ref told, Value.str (Str.ofString "") t].toArray }) hA.objs.size #[.ref told, .str "" t] := ⟨_, Heap.get?_push_size _ rfl, rfl, 0, rfl⟩
  generalize hA.push { cls := .type "tuple", data := .seq [Value.ref told, Value.str (Str.ofString "") t].toArray } = hB at *
  show wpAny _ _ (unpackItems (.ref _) (#[Value.ref told, Value.str (Str.ofString "") t] : Array Value).size none) _ _ _
  refine unpackItems_tuple hh TB fun h3 e3 => ?_
  dsimp only at e3
  have k3 : Grow hB h3 := fun b o q => e3 b o (fun z => by have := get_size hB; rw [← z] at this; rw [this] at q; cases q) q
  have k03 := (kA.trans kB).trans k3
  show wpAny _ _ (assignInOrder [fun v => bindName (lawEnv Lw) "word" v, fun v => bindName (lawEnv Lw) "told" v] [Value.str (Str.ofString "") t, Value.ref told]) _ _ _
  refine assignInOrder_cons ?_
  refine bindName_ ?_
  refine st_loc (F.grow k03) fun h4 t4 F4 s4 => ?_
  refine assignInOrder_cons ?_
  refine bindName_ ?_
  refine st_loc F4 fun h5 t5 F5 s5 => ?_
  refine assignInOrder_nil ?_
  have x5 : Ext [Lw] h h5 := (k03.ext.trans (extOf s4)).trans (extOf s5)
  have nLT : told ≠ Lw := fun q => by
    obtain ⟨oW, hoW, _⟩ := loc_obj F
    rw [q, hoW] at nA; cases nA
  exact hQ h5 t5 told t x5 nA F5 ⟨0, #[], (extOf s5) _ _ (by simp [nLT]) ((extOf s4) _ _ (by simp [nLT]) (k3 _ _ (kB _ _ eA)))⟩
theorem law_s4 {nP : Nat} {nv : Value} {pa told : Addr} {tw : Tok} {pvs vs : List Value} {pl : List (Int × PV)} {dx : Str} {Q : Flow → Shared → Prop} (hA : CalmL A Lw) (G : Glo w b) (Z : LF b Lw pa told nv (.str (wordOf (vRun (st0 dx) pl).2) tw) pvs vs pl (vRun (st0 dx) pl).1 h)
    (P : b.get? pa = some { cls := .type "list", data := .seq pvs.toArray nP }) (K : ∀ (i : Nat) c pv, pl[i]? = some (c, pv) → KindDue c pv) (S : StrsOk pl) (n : pl.length ≤ 900) (hd0 : ∃ c, pl[0]? = some (c, .s dx))
    (hQ : ∀ h' t', Grow h h' → Q .next ⟨h', g, d, t', os⟩) :
    wpAny (model PG w) A (exec (lawStmt 4) (lawEnv Lw)) Q E ⟨h, g, d, t, os⟩ := by
  show wpAny _ _ (exec (.If (.Compare (.Tuple [.Name _ _, .Name _ _] _ _) [.NotEq] [.Call (.Name _ _) [.Name _ _] [] _] _) _ [] _) _) _ _ _
  obtain ⟨o222, fd222, ho222, hd222, _⟩ := fn_due w
  refine wpAny_If ?_
  refine wpAny_isTrue_Compare1 ?_
  refine Tuple2 (ev_loc Z.F rfl (ev_loc Z.F rfl ?_))
  refine wpAny_newTuple ?_ (by rw [sizeLine_eq]; show 2 ≤ 16777216; decide)
  dsimp only
  have kA := push_grow h { cls := .type "tuple", data := .seq [Value.ref told, Value.str (wordOf (vRun (st0 dx) pl).2) tw].toArray }
  have eA := Heap.get?_push_size h (o := { cls := .type "tuple", data := .seq [Value.ref told, Value.str (wordOf (vRun (st0 dx) pl).2) tw].toArray }) rfl
  generalize h.push { cls := .type "tuple", data := .seq [Value.ref told, Value.str (wordOf (vRun (st0 dx) pl).2) tw].toArray } = hA' at *
  generalize h.objs.size = tp at *
  have GA := G.grow (Grow.trans Z.B kA)
  refine wpAny_Call_ofName (ev_glob GA (v := .ref 222) (by kernel_rfl!) ?_)
  refine Calls.callWith_function (o := o222) (fd := fd222) (Calls.evalArgs_plain (Calls.spliced_cons (ev_loc (Z.F.grow kA) rfl (Calls.spliced_nil ⟨⟨GA.K _ _ ho222, hd222⟩, ?_⟩))))
  refine call_due hA.handled hA.depth (Nat.le_trans hA.units (by decide)) GA (kA _ _ (Z.B _ _ P)) (Z.V.seq (seqK_grow kA)) K S n hd0 fun v h' t' told' kB _ O => ?_
  obtain ⟨a2, n2, tk2, vs2, rfl, e2, T2, U2⟩ := O
  obtain ⟨as1, r1⟩ := reads_tups (Z.U.seq (seqK_grow (Grow.trans kA kB)))
  obtain ⟨as2, r2⟩ := reads_tups U2
  obtain ⟨m1, sl1, q1⟩ := Z.T.seq (seqK_grow (Grow.trans kA kB))
  obtain ⟨m2, sl2, q2⟩ := T2
  have hS : StrsOk (vRun (st0 dx) pl).1 := fun p m => S p (vRun_sub m)
  have hw : PyData.strOk (wordOf (vRun (st0 dx) pl).2) = true := by
    unfold wordOf
    split
    · decide +kernel
    · split <;> decide +kernel
  have sh : SeqAt.shaped (.tuple [.list ((vRun (st0 dx) pl).1.map pairD), .str (wordOf (vRun (st0 dx) pl).2)]) = true := by
    have := depth_pairs (vRun (st0 dx) pl).1
    unfold SeqAt.shaped
    rw [Bool.and_eq_true]
    refine ⟨by simp [PyData.canLay0, PyData.canLayAll0, lay_pairs hS, hw], ?_⟩
    rw [decide_eq_true_eq]
    simp only [PyData.depth, PyData.depthAll]
    omega
  refine ne_dataH (da := .tuple [.list ((vRun (st0 dx) pl).1.map pairD), .str (wordOf (vRun (st0 dx) pl).2)]) (db := .tuple [.list ((vRun (st0 dx) pl).1.map pairD), .str (wordOf (vRun (st0 dx) pl).2)])
    (.tuple (kB _ _ eA) rfl rfl (.cons (.list q1 rfl rfl (by simpa using r1)) (.cons (.str _ _) .nil))) (.tuple e2 rfl rfl (.cons (.list q2 rfl rfl (by simpa using r2)) (.cons (.str _ _) .nil))) sh sh (by have := hA.units; have : cLine = 9900 := rfl; omega) ?_
  have ee : PyData.eqv (.tuple [.list ((vRun (st0 dx) pl).1.map pairD), .str (wordOf (vRun (st0 dx) pl).2)]) (.tuple [.list ((vRun (st0 dx) pl).1.map pairD), .str (wordOf (vRun (st0 dx) pl).2)]) = true := by
    simp [PyData.eqv, PyData.eqvAll, eqvAll_pairs]
  rw [ee]
  refine wpAny_truthy_bool ?_
  exact wpAny_execs_nil (hQ h' t' (Grow.trans kA kB))
end
end Mine
namespace Mine
def PV.con : PV → Const
  | .s x => .str x
  | .n i => .int i
inductive PairsE : List Expr → List (Int × PV) → Prop
  | nil : PairsE [] []
  | cons {c pv k1 p1 k2 p2 k3 p3 es pl} : PairsE es pl → PairsE (.Tuple [.Constant (.int c) k1 p1, .Constant (PV.con pv) k2 p2] k3 p3 :: es) ((c, pv) :: pl)
def NewTups (h h' : Heap) (vs : List Value) (pl : List (Int × PV)) : Prop := vs.length = pl.length ∧ ∀ (i : Nat) p, pl[i]? = some p → ∃ a o n tc tv, vs[i]? = some (.ref a) ∧ h'.get? a = some o ∧ o.cls = .type "tuple" ∧ o.data = .seq #[.int p.1 tc, p.2.val tv] n ∧ h.get? a = none
section
variable {w : World} {A : Around} {E : Value → Shared → Prop} {g : Array GenState} {d : Drawn} {os : OsState} {env : Env} {pos : Pos}
theorem ev_con {h : Heap} {t : Nat} {pv : PV} {k p} {Q : Value → Shared → Prop} (hQ : ∀ tv t', Q (pv.val tv) ⟨h, g, d, t', os⟩) : wpAny (model PG w) A (eval (.Constant (PV.con pv) k p) env) Q E ⟨h, g, d, t, os⟩ := by
  cases pv with
  | s x => exact ev_str (hQ t _)
  | n i => exact ev_int (hQ t _)
theorem ev_pairs : ∀ {es : List Expr} {pl : List (Int × PV)}, PairsE es pl → ∀ {h : Heap} {t : Nat} {Q : List Value → Shared → Prop}, (∀ h' t' vs, Grow h h' → NewTups h h' vs pl → Q vs ⟨h', g, d, t', os⟩) →
    wpAny (model PG w) A (spliced (backTo pos (starEach es env))) Q E ⟨h, g, d, t, os⟩
  | _, _, .nil, h, t, Q, hQ => Calls.spliced_nil (hQ h t [] (Grow.refl _) ⟨rfl, fun i p e => by simp at e⟩)
  | _, _, .cons (c := c) (pv := pv) (k1 := k1) (p1 := p1) (k2 := k2) (p2 := p2) (k3 := k3) (p3 := p3) (es := es) (pl := pl) r, h, t, Q, hQ => by
    show wpAny _ _ (spliced ((false, eval (.Tuple [.Constant (.int c) k1 p1, .Constant (PV.con pv) k2 p2] k3 p3) env) :: backTo pos (starEach es env))) _ _ _
    refine Calls.spliced_cons ?_
    refine Tuple2 (ev_int ?_)
    refine ev_con fun tv t' => ?_
    refine wpAny_newTuple ?_ (by rw [sizeLine_eq]; show 2 ≤ 16777216; decide)
    dsimp only
    have kA := push_grow h { cls := .type "tuple", data := .seq [Value.int c t, pv.val tv].toArray }
    have eA := Heap.get?_push_size h (o := { cls := .type "tuple", data := .seq [Value.int c t, pv.val tv].toArray }) rfl
    have nA := get_size h
    generalize h.push { cls := .type "tuple", data := .seq [Value.int c t, pv.val tv].toArray } = h2 at *
    generalize h.objs.size = a at *
    refine ev_pairs r fun h' t' vs k N => ?_
    refine hQ h' t' (.ref a :: vs) (kA.trans k) ⟨by simp [N.1], fun i p e => ?_⟩
    cases i with
    | zero => cases e; exact ⟨a, _, 0, t, tv, rfl, k _ _ eA, rfl, rfl, nA⟩
    | succ j =>
      obtain ⟨a', o, n, tc, tv', q1, q2, q3, q4, q5⟩ := N.2 j p e
      refine ⟨a', o, n, tc, tv', q1, q2, q3, q4, ?_⟩
      cases q : h.get? a' with
      | none => rfl
      | some o => rw [kA _ _ q] at q5; cases q5
end
abbrev lcOf5 : Expr := match lawStmt 5 with | .Assign _ r _ => r | _ => default
def rowKinds : List (Int × PV) := [(9, .s "$A"), (70, .n 1), (9, .s "B"), (1, .s "$C"), (9, .s "$D"), (10, .s "x")]
def ridx (n : Int) : Nat := (n.fmod 6).toNat
def row (n : Int) : Int × PV := rowKinds.getD (ridx n) pv0
theorem ridx_lt (n : Int) : ridx n < 6 := by
  have h0 : n.fmod 6 = n % 6 := Int.fmod_eq_emod_of_nonneg n (by decide)
  have h1 := Int.emod_nonneg n (b := 6) (by decide)
  have h2 := Int.emod_lt_of_pos n (b := 6) (by decide)
  unfold ridx; omega
theorem row_mem (n : Int) : row n ∈ rowKinds := by
  have h := ridx_lt n
  have hl : rowKinds.length = 6 := rfl
  unfold row
  rw [List.getD_eq_getElem?_getD, List.getElem?_eq_getElem (by rw [hl]; exact h)]
  exact List.getElem_mem _
theorem row_get (n : Int) : rowKinds[ridx n]? = some (row n) := by
  have h := ridx_lt n
  have hl : rowKinds.length = 6 := rfl
  unfold row
  rw [List.getD_eq_getElem?_getD, List.getElem?_eq_getElem (by rw [hl]; exact h)]; rfl
abbrev rowEs : List Expr := match compElt lcOf5 with | .Subscript (.List es _) _ _ => es | _ => []
theorem rowsE : PairsE rowEs rowKinds := by
  show PairsE [.Tuple [.Constant _ _ _, .Constant _ _ _] _ _, .Tuple [.Constant _ _ _, .Constant _ _ _] _ _, .Tuple [.Constant _ _ _, .Constant _ _ _] _ _, .Tuple [.Constant _ _ _, .Constant _ _ _] _ _, .Tuple [.Constant _ _ _, .Constant _ _ _] _ _, .Tuple [.Constant _ _ _, .Constant _ _ _] _ _] [(9, .s "$A"), (70, .n 1), (9, .s "B"), (1, .s "$C"), (9, .s "$D"), (10, .s "x")]
  refine PairsE.cons (pv := .s "$A") ?_
  refine PairsE.cons (pv := .n 1) ?_
  refine PairsE.cons (pv := .s "B") ?_
  refine PairsE.cons (pv := .s "$C") ?_
  refine PairsE.cons (pv := .s "$D") ?_
  refine PairsE.cons (pv := .s "x") ?_
  exact .nil
def RowsJ (Lw : Addr) (js : List Int) : Addr → Addr → Addr → Nat → Heap → List Value → Prop := fun C I D i h ys =>
  ys.length = i ∧ ∀ (k : Nat) n, k < i → js[k]? = some n → ∃ a o m tc tv, ys[k]? = some (.ref a) ∧ h.get? a = some o ∧ o.cls = .type "tuple" ∧ o.data = .seq #[.int (row n).1 tc, (row n).2.val tv] m ∧ a ∉ [C, I, D, Lw]
section
variable {w : World} {A : Around} {E : Value → Shared → Prop} {b h : Heap} {g : Array GenState} {d : Drawn} {t : Nat} {os : OsState} {Lw : Addr}
theorem rowsJ_ext {js : List Int} {C I D i h1 h2 ys} (x : RowsJ Lw js C I D i h1 ys) (e : Ext [C, I, D, Lw] h1 h2) : RowsJ Lw js C I D i h2 ys := ⟨x.1, fun k n hk hn => by
  obtain ⟨a, o, m, tc, tv, q1, q2, q3, q4, q5⟩ := x.2 k n hk hn
  exact ⟨a, o, m, tc, tv, q1, e _ _ q5 q2, q3, q4, q5⟩⟩
theorem ev_rowlist {env : Env} {pos : Pos} {E Q : Value → Shared → Prop} {es : List Expr} (PE : PairsE es rowKinds) (hQ : ∀ h' h2 t' la vs, Grow h h2 → NewTups h h2 vs rowKinds → Grow h2 h' → h'.IsList la vs.toArray → Q (.ref la) ⟨h', g, d, t', os⟩) :
    wpAny (model PG w) A (eval (.List es pos) env) Q E ⟨h, g, d, t, os⟩ := by
  refine List_ ?_
  refine ev_pairs PE fun h2 t2 vs k2 N => ?_
  have hvl : vs.length = 6 := N.1
  refine wpAny_newList ?_ (by rw [sizeLine_eq, hvl]; decide)
  exact hQ _ h2 t2 _ vs k2 N (push_grow _ _) ⟨_, Heap.get?_push_size _ rfl, rfl, 0, rfl⟩
theorem rows_step {h0 : Heap} {xs : List Value} {js : List Int} {es : List Expr} {p1 p2 p3 p4 p5 : Pos} {kk : Nat} (PE : PairsE es rowKinds) (hx : IntsAre xs js) (oW : ∃ o, h0.get? Lw = some o) :
    JStep w A (lawEnv Lw) (compScope lcOf5) g d os (RowsJ Lw js) h0 xs (fun _ v => [("number", v)]) (.Subscript (.List es p1) (.BinOp (.Name "number" p2) .Mod (.Constant (.int 6) kk p3) p4) p5) := by
  intro C I D i h1 t1 ys v E Q hv J G1 F1 oI oD hq
  obtain ⟨n, tn, hn, rfl⟩ := ints_get hx hv
  have h0' : n.fmod 6 = n % 6 := Int.fmod_eq_emod_of_nonneg n (by decide)
  have h1' := Int.emod_nonneg n (b := 6) (by decide)
  have h2' := Int.emod_lt_of_pos n (b := 6) (by decide)
  refine Sub_B ?_
  refine ev_rowlist PE fun h3 h2 t2 la vs k2 N kA lA => ?_
  obtain ⟨a, o, m, tc, tv, q1, q2, q3, q4, q5⟩ := N.2 (ridx n) (row n) (row_get n)
  refine wpAny_BinOp ?_
  refine ev_locE (env := cenvOf _ (lawEnv Lw) C) (F1.grow (k2.trans kA)) rfl ?_
  refine ev_int (PyProof.Rows.mod_int (by decide) ?_)
  refine ⟨"list", "list.__getitem__", slot_list_getitem.lookup, lA.typeIs, ?_⟩
  refine wpAny_getItem_list (x := .ref a) lA (by omega) (by omega) (by have := q1; unfold ridx at this; simpa using this) ?_
  refine hq _ h3 _ (k2.trans kA) ⟨by simp [J.1], fun k n' hk hn' => ?_⟩
  by_cases hki : k < i
  · obtain ⟨a', o', m', tc', tv', r1, r2, r3, r4, r5⟩ := J.2 k n' hki hn'
    exact ⟨a', o', m', tc', tv', by rw [List.getElem?_append_left (by rw [J.1]; exact hki)]; exact r1, kA _ _ (k2 _ _ r2), r3, r4, r5⟩
  · have : k = i := by omega
    subst this
    rw [hn] at hn'; cases hn'
    refine ⟨a, o, m, tc, tv, by rw [List.getElem?_append_right (by rw [J.1]; exact Nat.le_refl _), J.1, Nat.sub_self]; rfl, kA _ _ q2, q3, q4, fun mm => ?_⟩
    obtain ⟨oC, hoC, _⟩ := loc_obj F1
    obtain ⟨oI, hoI⟩ := oI
    obtain ⟨oD, hoD⟩ := oD
    obtain ⟨oW, hoW⟩ := oW
    simp only [List.mem_cons, List.not_mem_nil, or_false] at mm
    rcases mm with z | z | z | z <;> rw [z] at q5
    · rw [hoC] at q5; cases q5
    · rw [hoI] at q5; cases q5
    · rw [hoD] at q5; cases q5
    · rw [G1 _ _ hoW] at q5; cases q5
end
end Mine
namespace Mine
section
variable {w : World} {A : Around} {E : Value → Shared → Prop} {b h : Heap} {g : Array GenState} {d : Drawn} {t : Nat} {os : OsState} {Lw na : Addr} {us : List Value} {ms : List Int}
theorem rows_assign {Q : Flow → Shared → Prop} {es : List Expr} {iter : Expr} {h0 : Heap} {xs : List Value} {js : List Int} {l : Addr} {l0 : List (Str × Value)} {p1 p2 p3 p4 p5 px pos py spos : Pos} {kk : Nat} (PE : PairsE es rowKinds) (hx : IntsAre xs js)
    (hsw : swapsWith (.ListComp (.Subscript (.List es p1) (.BinOp (.Name "number" p2) .Mod (.Constant (.int 6) kk p3) p4) p5) [⟨.Name "number" px, iter, [], 0⟩] (compScope lcOf5) pos) (some (.Name "rows" py)) spos.line (lawEnv Lw) = pure true)
    (hh : A.handled = none) (hsz : xs.length ≤ sizeLine) (hl : h0.IsList l xs.toArray) (F : Loc h0 Lw l0)
    (hit : ∀ (Q E : Value → Shared → Prop), (∀ t, Q (.ref l) ⟨h0, g, d, t, os⟩) → wpAny (model PG w) A (eval iter (lawEnv Lw)) Q E ⟨h, g, d, t, os⟩)
    (hQ : ∀ h' t' ra ys, Ext [Lw] h0 h' → Loc h' Lw (("rows", .ref ra) :: l0) → h'.IsList ra ys.toArray → h0.get? ra = none → Tups h' ys (js.map row) → Q .next ⟨h', g, d, t', os⟩)
    (hs : ∀ x, foldedSetIterable iter (lawEnv Lw) x = pure x := by intro _; rfl) :
    wpAny (model PG w) A (exec (.Assign [.Name "rows" py] (.ListComp (.Subscript (.List es p1) (.BinOp (.Name "number" p2) .Mod (.Constant (.int 6) kk p3) p4) p5) [⟨.Name "number" px, iter, [], 0⟩] (compScope lcOf5) pos) spos) (lawEnv Lw)) Q E ⟨h, g, d, t, os⟩ := by
  rw [exec_Assign_Name_used _ _ _ _ hsw]
  refine wpAny_bind (wpAny_standAt (wpAny_bind ?_))
  show wpAny _ A (do let _ ← comprehension (.ListComp (.Subscript (.List es p1) (.BinOp (.Name "number" p2) .Mod (.Constant (.int 6) kk p3) p4) p5) [⟨.Name "number" px, iter, [], 0⟩] (compScope lcOf5) pos) (compScope lcOf5) (lawEnv Lw) _ (newList []) false (eval iter (lawEnv Lw)) (some (assign (.Name "rows" py) (lawEnv Lw)))) _ _ _
  refine wpAny_bind (wpAny_mono (wpAny_comprehension_use (Q := fun _ s' => Q .next s') rfl hs (by decide) rfl (by decide) (hit _ _ fun t0 => ?_)) (fun _ s' hq => wpAny_pure (wpAny_pure hq)) fun _ _ e => e)
  refine wpAny_pyIter_list hl ?_
  refine wpAny_newObj_type (wpAny_newFunctionEnv (by decide) (by intro y hy; simp at hy) (fun h1 hns1 hsb1 => ?_) rfl)
  obtain ⟨T, Z⟩ := lc_first (l := l) (J := RowsJ Lw js) hl (fun C I D h' T k _ _ _ => ⟨rfl, fun k n hk => absurd hk (Nat.not_lt_zero _)⟩) rfl rfl hns1 hsb1
  obtain ⟨oW, hoW, _⟩ := loc_obj F
  have jst : JStable (RowsJ Lw js) := fun C I D i h1 h2 ys x e => rowsJ_ext x (e.mono fun n m => by
    simp only [List.mem_cons, List.not_mem_nil, or_false] at m ⊢
    rcases m with m | m | m
    · exact .inl m
    · exact .inr (.inl m)
    · exact .inr (.inr (.inl m)))
  refine lc_loop_name hh rfl rfl hsz hl jst (rows_step PE hx ⟨oW, hoW⟩) T Z fun s' m hm hk => ?_
  obtain ⟨t', h2, ys, rfl, Jf, Gf, Df⟩ := hk s'.heap (.refl _ _)
  dsimp only at hm Jf Gf Df ⊢
  generalize ((h0.push _).push _).objs.size = C at *
  generalize (h0.push _).objs.size = D at *
  generalize h0.objs.size = I at *
  have nCW : C ≠ Lw := fun q => by have := T.c; rw [q, hoW] at this; cases this
  have nDW : D ≠ Lw := fun q => by have := T.d; rw [q, hoW] at this; cases this
  refine wpAny_assign_Name (st_loc (F.grow Gf) fun h3 t3 F3 s3 => ?_)
  refine ⟨m, hm.sameBut s3 nCW, fun h4 s4 => ?_⟩
  have e3 : Ext [Lw] h2 h3 := extOf s3
  have e4 : Ext [C] h3 h4 := extOf s4
  have J4 := rowsJ_ext (rowsJ_ext Jf (e3.mono fun n m => .tail _ (.tail _ (.tail _ m)))) (e4.mono fun n m => List.mem_singleton.mp m ▸ .head _)
  have x4 : Ext [Lw] h0 h4 := fun n o q e => e4 n o (fun z => by rw [List.mem_singleton.mp z, T.c] at e; cases e) (e3 n o q (Gf n o e))
  refine hQ h4 t3 D ys x4 (loc_ext F3 e4 (by simp [nCW.symm])) (isList_ext (isList_ext Df e3 (by simp [nDW])) e4 (by simp [T.cd.symm])) T.d ⟨by rw [J4.1]; simp [ints_len hx], fun i p e => ?_⟩
  rw [List.getElem?_map] at e
  obtain ⟨n, hn, rfl⟩ := Option.map_eq_some_iff.mp e
  have hi : i < xs.length := by rw [ints_len hx]; exact (List.getElem?_eq_some_iff.mp hn).1
  obtain ⟨a, o, mm, tc, tv, q1, q2, q3, q4, q5⟩ := J4.2 i n hi hn
  exact ⟨_, q1, a, o, mm, tc, tv, rfl, q2, q3, q4⟩
theorem law_s5 {Q : Flow → Shared → Prop} {l0 : List (Str × Value)} (hh : A.handled = none) (F : Loc h Lw l0) (hv : l0.lookup ("numbers" : Str) = some (.ref na)) (hl : h.IsList na us.toArray) (hi : IntsAre us ms) (hn : ms.length ≤ 13)
    (hQ : ∀ h' t' ra ys, Ext [Lw] h h' → Loc h' Lw (("rows", .ref ra) :: l0) → h'.IsList ra ys.toArray → h.get? ra = none → Tups h' ys ((ms.take 6).map row) → Q .next ⟨h', g, d, t', os⟩) :
    wpAny (model PG w) A (exec (lawStmt 5) (lawEnv Lw)) Q E ⟨h, g, d, t, os⟩ := by
  have hlen := ints_len hi
  obtain ⟨k1, n1, e1⟩ := sliceHeap_ok h .none (.int 6 t) (us.take 6)
  refine rows_assign (l := h.objs.size + 1) (h0 := sliceHeap h .none (.int 6 t) (us.take 6)) rowsE (ints_take hi 6) rfl hh (by rw [sizeLine_eq]; simp; omega) ⟨_, e1, rfl, 0, rfl⟩ (F.grow k1) (fun Q E hq => ?_) fun h' t' ra ys x F' L' n' T' => hQ h' t' ra ys (k1.ext.trans x) F' L' ?_ T'
  · show wpAny _ _ (eval (.Subscript (.Name _ _) (.Slice none (some (.Constant _ _ _)) none _) _) _) _ _ _
    refine wpAny_Subscript_list_slice (ev_loc F hv (partNone (partSome (ev_int ⟨na, us.toArray, none, some ((6 : Nat) : Int), rfl, hl, by simp only [List.size_toArray]; rw [sizeLine_eq]; omega, .none, .int _ _, ?_⟩))))
    rw [slicePick_upto']
    exact hq (t + 1)
  · cases q : h.get? ra with
    | none => rfl
    | some o => rw [k1 _ _ q] at n'; cases n'
end
end Mine
namespace Mine
structure RowK (p : Int × PV) : Prop where
  h : KindH p.1 p.2
  s9 : p.1 = 9 → ∃ x, p.2 = .s x ∧ (Txt.charAt x 0).isSome = true ∧ (Txt.item x 0 == ("$" : Str)) = Txt.startswith x "$"
  ok : ∀ x, p.2 = .s x → PyData.strOk x = true
theorem rowK_all : ∀ p ∈ rowKinds, RowK p := by
  unfold rowKinds
  repeat' (first | exact List.forall_mem_nil _ | (refine List.forall_mem_cons.mpr ⟨?_, ?_⟩))
  all_goals refine ⟨⟨⟨by decide +kernel, by decide +kernel⟩, ?_, ?_, ?_⟩, ?_, ?_⟩
  all_goals intro y
  all_goals first
    | exact ⟨_, rfl⟩
    | exact ⟨_, rfl, by decide +kernel, by decide +kernel⟩
    | exact absurd y (by decide)
    | (intro e; cases e; exact ⟨by decide +kernel, by decide +kernel⟩)
    | (intro e; cases e; decide +kernel)
    | (intro e; cases e)
theorem rowK (n : Int) : RowK (row n) := rowK_all _ (row_mem n)
theorem wordH_ne (C : Addr) : (wordH (some C) == ("" : Str)) = false := by
  show ((if C = 44 then ("code" : Str) else "name") == _) = false
  split <;> decide +kernel
theorem even_int (k : Nat) : (((k : Int).fmod 2) == 0) = (k % 2 == 0) := by
  rw [Int.fmod_eq_emod_of_nonneg _ (by decide)]
  have : k % 2 = 0 ∨ k % 2 = 1 := by omega
  rcases this with e | e
  · rw [e, show (k : Int) % 2 = 0 by omega]; rfl
  · rw [e, show (k : Int) % 2 = 1 by omega]; rfl
abbrev evenB (k : Nat) : Bool := k % 2 == 0
theorem evenB_succ (k : Nat) : evenB (k + 1) = !evenB k := by
  unfold evenB
  have : k % 2 = 0 ∨ k % 2 = 1 := by omega
  rcases this with e | e
  · rw [show (k + 1) % 2 = 1 by omega, e]; rfl
  · rw [show (k + 1) % 2 = 0 by omega, e]; rfl
section
variable {w : World} {A : Around} {E : Value → Shared → Prop} {b h : Heap} {g : Array GenState} {d : Drawn} {t : Nat} {os : OsState} {Lw ra : Addr} {ys : List Value} {rl : List (Int × PV)}
theorem law_s6 {Q : Flow → Shared → Prop} {l0 : List (Str × Value)} (hh : A.handled = none) (F : Loc h Lw l0)
    (hQ : ∀ h' t' tk tw, Ext [Lw] h h' → Loc h' Lw (("wrong", .str "" tw) :: ("good", .int 0 tk) :: l0) → Q .next ⟨h', g, d, t', os⟩) :
    wpAny (model PG w) A (exec (lawStmt 6) (lawEnv Lw)) Q E ⟨h, g, d, t, os⟩ := by
  show wpAny _ _ (exec (.Assign [.Tuple [.Name _ _, .Name _ _] _ _] (.Tuple [.Constant _ _ _, .Constant _ _ _] _ _) _) _) _ _ _
  refine Assign_Tuple ?_
  refine Tuple2 ?_
  refine ev_int ?_
  refine ev_str ?_
  refine wpAny_newTuple ?_ (by rw [sizeLine_eq]; show 2 ≤ 16777216; decide)
  dsimp only
  have kB := push_grow h { cls := .type "tuple", data := .seq [Value.int 0 t, Value.str (Str.ofString "") (t + 1)].toArray }
  have TB : Heap.IsTuple (h.push { cls := .type "tuple", data := .seq [Value.int 0 t, Value.str (Str.ofString "") (t + 1)].toArray }) h.objs.size #[.int 0 t, .str "" (t + 1)] := ⟨_, Heap.get?_push_size _ rfl, rfl, 0, rfl⟩
  generalize h.push { cls := .type "tuple", data := .seq [Value.int 0 t, Value.str (Str.ofString "") (t + 1)].toArray } = hB at *
  refine wpAny_assign_Tuple hh TB rfl rfl fun h3 e3 => ?_
  dsimp only at e3
  have k3 : Grow hB h3 := fun b o q => e3 b o (fun z => by have := get_size hB; rw [← z] at this; rw [this] at q; cases q) q
  refine assignInOrder_cons ?_
  refine wpAny_assign_Name (st_loc (F.grow (kB.trans k3)) fun h4 t4 F4 s4 => ?_)
  refine assignInOrder_cons ?_
  refine wpAny_assign_Name (st_loc F4 fun h5 t5 F5 s5 => ?_)
  refine assignInOrder_nil ?_
  exact hQ h5 t5 t (t + 1) (((kB.trans k3).ext.trans (extOf s4)).trans (extOf s5)) F5
def lq (gd : Nat) (wr : Str) (ra : Addr) (tk tw : Tok) : List (Str × Value) := [("good", .int gd tk), ("wrong", .str wr tw), ("rows", .ref ra)]
structure WI (b : Heap) (Lw ra : Addr) (rl : List (Int × PV)) (ys : List Value) (k : Nat) (wr : Str) (h : Heap) : Prop where
  B : Ext [Lw] b h
  F : ∃ tk tw, Loc h Lw (lq k wr ra tk tw)
abbrev whTest : Expr := match lawStmt 7 with | .While t _ _ _ => t | _ => default
abbrev whBody : List Stmt := match lawStmt 7 with | .While _ b _ _ => b | _ => []
theorem law_s7 {Q : Flow → Shared → Prop} (G : Glo w b) (hA : Calm A) (nL : b.get? Lw ≠ none) (P : b.IsList ra ys.toArray) (V : Tups b ys rl) (hK : ∀ p ∈ rl, RowK p) (hn : rl.length ≤ 100) (NL : NoSeq b Lw) (NG : ∀ {h}, Ext [Lw] b h → Glo w h)
    (Z : WI b Lw ra rl ys 0 "" h)
    (hQ : ∀ h' t' k C, hRun true rl = (rl.take k, C) → k ≤ rl.length → WI b Lw ra rl ys k (wordH C) h' → Q .next ⟨h', g, d, t', os⟩) :
    wpAny (model PG w) A (exec (lawStmt 7) (lawEnv Lw)) Q E ⟨h, g, d, t, os⟩ := by
  show wpAny _ _ (exec (.While (.BoolOp .And [.Compare (.Name _ _) [.Lt] [.Call (.Name _ _) [.Name _ _] [] _] _, .Compare (.Name _ _) [.Eq] [.Constant _ _ _] _] _) [.If (.BoolOp .And [.Compare (.BinOp (.Name _ _) .Mod (.Constant _ _ _) _) [.Eq] [.Constant _ _ _] _, .Compare (.Subscript (.Subscript (.Name _ _) (.Name _ _) _) (.Constant _ _ _) _) [.NotEq] [.Constant _ _ _] _] _) [.Assign [.Name _ _] (.Constant _ _ _) _]
    [.If (.BoolOp .And [.Compare (.BinOp (.Name _ _) .Mod (.Constant _ _ _) _) [.Eq] [.Constant _ _ _] _, .Compare (.Subscript (.Subscript (.Subscript (.Name _ _) (.Name _ _) _) (.Constant _ _ _) _) (.Constant _ _ _) _) [.NotEq] [.Constant _ _ _] _] _) [.Assign [.Name _ _] (.Constant _ _ _) _] [.AugAssign (.Name _ _) .Add (.Constant _ _ _) _] _] _] [] _) _) _ _ _
  refine wpAny_While ?_
  refine codeAny_whileLoop (fun n s => ∃ h t k C, s = ⟨h, g, d, t, os⟩ ∧ WI b Lw ra rl ys k (wordH C) h ∧ k ≤ rl.length ∧ ((C = none ∧ n = rl.length + 1 - k ∧ hRun true rl = (rl.take k ++ (hRun (evenB k) (rl.drop k)).1, (hRun (evenB k) (rl.drop k)).2)) ∨ (∃ C', C = some C' ∧ n = 0 ∧ hRun true rl = (rl.take k, some C')))) ?_ (rl.length + 1)
    ⟨h, t, 0, none, rfl, Z, Nat.zero_le _, .inl ⟨rfl, rfl, by simp [evenB]⟩⟩
  rintro n s ⟨h, t, k, C, rfl, Z, hk, hC⟩
  obtain ⟨tk, tw, F⟩ := Z.F
  have Gh := NG Z.B
  have lR : h.IsList ra ys.toArray := by
    obtain ⟨o, ho, hc, m, hd⟩ := P
    exact ⟨o, Z.B _ _ (fun mm => NL o (List.mem_singleton.mp mm ▸ ho) _ _ hd) ho, hc, m, hd⟩
  have hyl := V.1
  refine wpAny_isTrue_BoolOp (wpAny_allTrue_And_cons (wpAny_isTrue_Compare1 (ev_loc F rfl ?_)))
  refine wpAny_Call_ofName (ev_bi Gh (v := .builtin "len") (by kernel_rfl!) (by kernel_rfl!) ?_)
  refine PySem.callWith_builtin1 (ev_loc F rfl (PySem.Calls.call_len_list lR (by simp; omega) (lt_int (wpAny_truthy_bool ?_))))
  have endN : ∀ {t'}, hRun true rl = (rl.take k, C) → wpAny (model PG w) A (execs [] (lawEnv Lw)) (fun f s₃ => match (.ok f : Result) with | .ok f => Q f s₃ | .error e => cameBackBy (model PG w) A (lawEnv Lw) E e s₃)
      (notedBy (model PG w) A (lawEnv Lw) fun e s' => match (.error e : Result) with | .ok f => Q f s' | .error e => cameBackBy (model PG w) A (lawEnv Lw) E e s') ⟨h, g, d, t', os⟩ := fun e => wpAny_execs_nil (hQ h _ k C e hk Z)
  by_cases hlt : k < rl.length
  · rw [decide_eq_true (by simp; omega)]
    refine wpAny_allTrue_And_cons (wpAny_isTrue_Compare1 (ev_loc F rfl (ev_str (eq_str (wpAny_truthy_bool ?_)))))
    rcases hC with ⟨rfl, hn', hv⟩ | ⟨C', rfl, hn', hv⟩
    · rw [show (wordH none == ("" : Str)) = true from rfl]
      refine wpAny_allTrue_And_nil ?_
      obtain ⟨c, pv, hp⟩ : ∃ c pv, rl[k]? = some (c, pv) := ⟨rl[k].1, rl[k].2, List.getElem?_eq_getElem hlt⟩
      have hpk : rl[k] = (c, pv) := (List.getElem?_eq_some_iff.mp hp).2
      have K := hK _ (List.mem_of_getElem? hp)
      have hdrop : rl.drop k = (c, pv) :: rl.drop (k + 1) := by rw [← hpk]; exact List.drop_eq_getElem_cons hlt
      have htake : rl.take (k + 1) = rl.take k ++ [(c, pv)] := by rw [← hpk]; exact (List.take_append_getElem hlt).symm
      obtain ⟨v, hv0, ta, to, tn, tc, tv, rfl, hto, htc, htd⟩ := V.2 k _ hp
      have hx : ys.toArray[k]? = some (.ref ta) := by simpa using hv0
      have hta : IsTup h ta #[.int c tc, pv.val tv] := ⟨to, Z.B _ _ (fun mm => NL to (List.mem_singleton.mp mm ▸ hto) _ _ htd) hto, htc, tn, htd⟩
      have htT : ∀ {t'}, Shared.TypeIs ⟨h, g, d, t', os⟩ (.ref ta) "tuple" := fun {t'} => let ⟨o, ho, hc, _⟩ := hta; ⟨o, ho, hc⟩
      have k2 : (k : Int) < 2 ^ 63 := by omega
      have more : ∀ {h2 : Heap} {tk' : Tok}, hStep (evenB k) c pv = .ok (evenB (k + 1)) → Ext [Lw] h h2 → Loc h2 Lw (("good", .int ((k : Int) + 1) tk') :: lq k (wordH none) ra tk tw) → ∀ {t2},
          ∃ m, m < n ∧ ∃ h t k C, (⟨h2, g, d, t2, os⟩ : Shared) = ⟨h, g, d, t, os⟩ ∧ WI b Lw ra rl ys k (wordH C) h ∧ k ≤ rl.length ∧ ((C = none ∧ m = rl.length + 1 - k ∧ hRun true rl = (rl.take k ++ (hRun (evenB k) (rl.drop k)).1, (hRun (evenB k) (rl.drop k)).2)) ∨ (∃ C', C = some C' ∧ m = 0 ∧ hRun true rl = (rl.take k, some C'))) := by
        intro h2 tk' es x F2 t2
        refine ⟨rl.length + 1 - (k + 1), by omega, h2, t2, k + 1, none, rfl, ⟨Z.B.trans x, tk', tw, F2.weak ⟨rfl, rfl, rfl, trivial⟩⟩, hlt, .inl ⟨rfl, rfl, ?_⟩⟩
        rw [hv, hdrop, htake]
        simp only [hRun, es, List.append_assoc, List.singleton_append]
      have fail : ∀ {h2 : Heap} {C' : Addr} {tw' : Tok}, hStep (evenB k) c pv = .error C' → Ext [Lw] h h2 → Loc h2 Lw (("wrong", .str (wordH (some C')) tw') :: lq k (wordH none) ra tk tw) → ∀ {t2},
          ∃ m, m < n ∧ ∃ h t k C, (⟨h2, g, d, t2, os⟩ : Shared) = ⟨h, g, d, t, os⟩ ∧ WI b Lw ra rl ys k (wordH C) h ∧ k ≤ rl.length ∧ ((C = none ∧ m = rl.length + 1 - k ∧ hRun true rl = (rl.take k ++ (hRun (evenB k) (rl.drop k)).1, (hRun (evenB k) (rl.drop k)).2)) ∨ (∃ C', C = some C' ∧ m = 0 ∧ hRun true rl = (rl.take k, some C'))) := by
        intro h2 C' tw' es x F2 t2
        refine ⟨0, by omega, h2, t2, k, some C', rfl, ⟨Z.B.trans x, tk, tw', F2.weak ⟨rfl, rfl, rfl, trivial⟩⟩, hk, .inr ⟨C', rfl, rfl, ?_⟩⟩
        rw [hv, hdrop]
        simp [hRun, es]
      refine wpAny_execs_cons (wpAny_If (wpAny_isTrue_BoolOp (wpAny_allTrue_And_cons (wpAny_isTrue_Compare1 ?_))))
      refine wpAny_BinOp (ev_loc F rfl (ev_int (PyProof.Rows.mod_int (by decide) (ev_int (eq_int (wpAny_truthy_bool ?_))))))
      rw [even_int]
      cases hev : (k % 2 == 0) with
      | false =>
        have hb : evenB k = false := hev
        refine wpAny_execs_cons (wpAny_If (wpAny_isTrue_BoolOp (wpAny_allTrue_And_cons (wpAny_isTrue_Compare1 ?_))))
        refine wpAny_BinOp (ev_loc F rfl (ev_int (PyProof.Rows.mod_int (by decide) (ev_int (eq_int (wpAny_truthy_bool ?_))))))
        rw [even_int, hev]
        refine wpAny_execs_cons (wpAny_AugAssign_Name (load_loc F rfl (ev_int (iaddI (st_loc F fun h2 t2 F2 s2 => ?_)))))
        refine wpAny_execs_nil (wpAny_execs_nil (wpAny_execs_nil (more ?_ (extOf s2) F2)))
        rw [evenB_succ, hb]; rfl
      | true =>
        have hb : evenB k = true := hev
        refine wpAny_allTrue_And_cons (wpAny_isTrue_Compare1 ?_)
        refine Sub_C ?_
        refine Subscript_Name (ev_loc F rfl (ev_loc F rfl ⟨"list", "list.__getitem__", slot_list_getitem.lookup, lR.typeIs, wpAny_getItem_list lR (by omega) k2 (by simpa using hx) ?_⟩))
        refine ev_int ⟨"tuple", "tuple.__getitem__", PySem.F.slot_tuple_getitem.lookup, htT, PyProof.Rows.getItem_tuple hta (by decide) (by decide) (j := 0) rfl rfl ?_⟩
        refine ev_int (ne_int (wpAny_truthy_bool ?_))
        by_cases hc : c = 9
        · subst hc
          obtain ⟨x, rfl, hch, hst⟩ := K.s9 rfl
          rw [show ((9 : Int) != 9) = false from rfl]
          refine wpAny_execs_cons (wpAny_If (wpAny_isTrue_BoolOp (wpAny_allTrue_And_cons (wpAny_isTrue_Compare1 ?_))))
          refine wpAny_BinOp (ev_loc F rfl (ev_int (PyProof.Rows.mod_int (by decide) (ev_int (eq_int (wpAny_truthy_bool ?_))))))
          rw [even_int, hev]
          refine wpAny_allTrue_And_cons (wpAny_isTrue_Compare1 ?_)
          refine Sub_C ?_
          refine Sub_C ?_
          refine Subscript_Name (ev_loc F rfl (ev_loc F rfl ⟨"list", "list.__getitem__", slot_list_getitem.lookup, lR.typeIs, wpAny_getItem_list lR (by omega) k2 (by simpa using hx) ?_⟩))
          refine ev_int ⟨"tuple", "tuple.__getitem__", PySem.F.slot_tuple_getitem.lookup, htT, PyProof.Rows.getItem_tuple hta (by decide) (by decide) (j := 1) rfl rfl ?_⟩
          refine ev_int ?_
          refine SB.item (x := x) (t := tv) rfl hch ?_
          refine ev_str (ne_str (wpAny_truthy_bool ?_))
          rw [show (Txt.item x 0 != ("$" : Str)) = !(Txt.item x 0 == ("$" : Str)) from rfl, hst]
          cases hs : Txt.startswith x "$" with
          | true =>
            refine wpAny_execs_cons (wpAny_AugAssign_Name (load_loc F rfl (ev_int (iaddI (st_loc F fun h2 t2 F2 s2 => ?_)))))
            refine wpAny_execs_nil (wpAny_execs_nil (wpAny_execs_nil (more ?_ (extOf s2) F2)))
            rw [evenB_succ, hb]; simp [hStep, hs]
          | false =>
            refine wpAny_allTrue_And_nil ?_
            refine wpAny_execs_cons (wpAny_Assign_Name (ev_str (st_loc F fun h2 t2 F2 s2 => ?_)))
            refine wpAny_execs_nil (wpAny_execs_nil (wpAny_execs_nil (fail (C' := 80) ?_ (extOf s2) F2)))
            rw [hb]; simp [hStep, hs]
        · rw [show (c != 9) = true by simp [hc]]
          refine wpAny_allTrue_And_nil ?_
          refine wpAny_execs_cons (wpAny_Assign_Name (ev_str (st_loc F fun h2 t2 F2 s2 => ?_)))
          refine wpAny_execs_nil (wpAny_execs_nil (fail (C' := 44) ?_ (extOf s2) F2))
          rw [hb]; simp [hStep, hc]
    · rw [show (wordH (some C') == ("" : Str)) = false from wordH_ne C']
      exact endN hv
  · rw [decide_eq_false (by simp; omega)]
    refine endN ?_
    obtain rfl : k = rl.length := by omega
    rcases hC with ⟨rfl, hn', hv⟩ | ⟨C', rfl, hn', hv⟩
    · rw [hv]; simp [hRun]
    · exact hv
end
end Mine
namespace Mine
section
variable {w : World} {A : Around} {E : Value → Shared → Prop} {b h : Heap} {g : Array GenState} {d : Drawn} {t : Nat} {os : OsState} {Lw ra told : Addr} {vs rvs : List Value} {rl : List (Int × PV)}
theorem law_s10 {Q : Flow → Shared → Prop} {k : Nat} {wd : Str} {tk tw1 tw2 : Tok} (cA : Calm A) (hk : k ≤ rl.length) (hS : StrsOk rl) (hn : rl.length ≤ 100)
    (Z : LH b Lw ra told (.int k tk) (.str wd tw1) (.str wd tw2) rvs vs rl (rl.take k) h) (hQ : ∀ h' t', Grow h h' → Q (.ret (.bool true)) ⟨h', g, d, t', os⟩) :
    wpAny (model PG w) A (exec (lawStmt 10) (lawEnv Lw)) Q E ⟨h, g, d, t, os⟩ := by
  show wpAny _ _ (exec (.Return (some (.BoolOp .And [.Compare (.Name _ _) [.Eq] [.Subscript (.Name _ _) (.Slice none (some (.Name _ _)) none _) _] _, .Compare (.Name _ _) [.Eq] [.Name _ _] _] _)) _) _) _ _ _
  refine wpAny_Return_some ?_
  refine wpAny_And2 ?_
  refine wpAny_Compare1 ?_
  refine ev_loc Z.F rfl ?_
  refine wpAny_Subscript_list_slice (ev_loc Z.F rfl (partNone (partSome (ev_loc Z.F rfl ?_))))
  refine ⟨ra, rvs.toArray, none, some (k : Int), rfl, Z.P, by simp only [List.size_toArray]; have := Z.V.1; rw [sizeLine_eq]; omega, .none, .int _ _, ?_⟩
  rw [slicePick_upto']
  obtain ⟨k1, n1, e1⟩ := sliceHeap_ok h .none (.int k tk) (rvs.take k)
  show wpAny _ _ (compareOp .Eq (.ref told) (.ref (h.objs.size + 1))) _ _ ⟨sliceHeap h .none (.int k tk) (rvs.take k), g, d, t, os⟩
  obtain ⟨as1, r1⟩ := reads_tups (Z.U.seq (seqK_grow k1))
  obtain ⟨as2, r2⟩ := reads_tups ((Z.V.seq (seqK_grow k1)).take k)
  obtain ⟨m1, sl1, q1⟩ := Z.T.seq (seqK_grow k1)
  have hS' : StrsOk (rl.take k) := fun p m => hS p (List.mem_of_mem_take m)
  have sh : SeqAt.shaped (.list ((rl.take k).map pairD)) = true := by
    have := depth_pairs (rl.take k)
    unfold SeqAt.shaped
    rw [Bool.and_eq_true]
    refine ⟨by simp only [PyData.canLay0]; exact lay_pairs hS', ?_⟩
    rw [decide_eq_true_eq]
    simp only [PyData.depth]
    omega
  refine eq_dataH (da := .list ((rl.take k).map pairD)) (db := .list ((rl.take k).map pairD)) (.list q1 rfl rfl (by simpa using r1)) (.list e1 rfl rfl (by simpa using r2)) sh sh (by have := cA.units; have : cLine = 9900 := rfl; omega) ?_
  have ee : PyData.eqv (.list ((rl.take k).map pairD)) (.list ((rl.take k).map pairD)) = true := by simp only [PyData.eqv]; exact eqvAll_pairs _
  rw [ee]
  refine wpAny_truthy_bool ?_
  rw [if_pos rfl]
  refine wpAny_Compare1 ?_
  refine ev_loc (Z.F.grow k1) rfl (ev_loc (Z.F.grow k1) rfl (eq_str ?_))
  rw [beq_self_eq_true]
  exact hQ _ t k1
end
end Mine
namespace Mine
theorem erase2 (h : Heap) (x y : Addr) : ∃ b : Heap, b.get? x = none ∧ b.get? y = none ∧ ∀ n, n ≠ x → n ≠ y → b.get? n = h.get? n := by
  obtain ⟨b, p, q⟩ := erase3 h x y y
  exact ⟨b, p x (by simp), p y (by simp), fun n h1 h2 => q n (by simp [h1, h2])⟩
theorem numsOf_ne (ns : List Int) : numsOf ns ≠ [] ∧ (numsOf ns).length ≤ 13 := by
  unfold numsOf
  split
  · exact ⟨by simp, by simp⟩
  · rename_i h
    refine ⟨fun e => ?_, by simp; omega⟩
    cases ns with
    | nil => exact h rfl
    | cons n r => simp at e
section
variable {w : World} {A : Around} {E : Value → Shared → Prop} {b h : Heap} {g : Array GenState} {d : Drawn} {t : Nat} {os : OsState} {Lw sa : Addr} {vs : List Value} {ns : List Int}
theorem law_s2 {Q : Flow → Shared → Prop} {l : List (Str × Value)} (hh : A.handled = none) (F : Loc h Lw l)
    (hQ : ∀ h' t' told tw, Ext [Lw] h h' → h.get? told = none → Loc h' Lw (("told", .ref told) :: ("word", .str "" tw) :: l) → ToldAt h' told [] → Q .next ⟨h', g, d, t', os⟩) : wpAny (model PG w) A (exec (lawStmt 2) (lawEnv Lw)) Q E ⟨h, g, d, t, os⟩ := by
  show wpAny _ _ (exec (.Assign [.Tuple [.Name "told" _, .Name "word" _] _ _] (.Tuple [.List [] _, .Constant (.str "") _ _] _ _) _) _) _ _ _
  exact law_new hh F (by rfl) (by rfl) hQ
theorem law_s8 {Q : Flow → Shared → Prop} {l : List (Str × Value)} (hh : A.handled = none) (F : Loc h Lw l)
    (hQ : ∀ h' t' told tw, Ext [Lw] h h' → h.get? told = none → Loc h' Lw (("told", .ref told) :: ("word", .str "" tw) :: l) → ToldAt h' told [] → Q .next ⟨h', g, d, t', os⟩) : wpAny (model PG w) A (exec (lawStmt 8) (lawEnv Lw)) Q E ⟨h, g, d, t, os⟩ := by
  show wpAny _ _ (exec (.Assign [.Tuple [.Name "told" _, .Name "word" _] _ _] (.Tuple [.List [] _, .Constant (.str "") _ _] _ _) _) _) _ _ _
  exact law_new hh F (by rfl) (by rfl) hQ
theorem lawBody_eq : bodyOf lawDef = [lawStmt 0, lawStmt 1, lawStmt 2, lawStmt 3, lawStmt 4, lawStmt 5, lawStmt 6, lawStmt 7, lawStmt 8, lawStmt 9, lawStmt 10] := by rfl
/-- the law's body, whole -/
theorem law_body {Q : Flow → Shared → Prop} (hA : CalmL A Lw) (G : Glo w b) (nL : b.get? Lw = none) (B : Grow b h) (F : Loc h Lw [("script", .ref sa)]) (hl : h.IsList sa vs.toArray) (hi : IntsAre vs ns) (hn : ns.length ≤ 63) (hg : ∀ (i : Nat) x, g[i]? = some x → x = .finished)
    (hQ : ∀ h' g' t', Grow b h' → (∀ (i : Nat) x, g'[i]? = some x → x = .finished) → Q (.ret (.bool true)) ⟨h', g', d, t', os⟩) :
    wpAny (model PG w) A (execs (bodyOf lawDef) (lawEnv Lw)) Q E ⟨h, g, d, t, os⟩ := by
  rw [lawBody_eq]
  have kb : ∀ {h'}, Ext [Lw] h h' → Grow b h' := fun e => e.keepBase (fun n m => List.mem_singleton.mp m ▸ nL) B
  refine wpAny_execs_cons ?_
  have st := fun Q => law_s0 (Q := Q) (A := A) (E := E) (g := g) (d := d) (t := t) (os := os) (G.grow B) F hl hi hn
  generalize lawStmt 0 = S0 at st ⊢
  refine st _ fun h1 t1 na us x1 F1 L1 I1 => ?_
  clear st
  obtain ⟨hne, hms⟩ := numsOf_ne ns
  dsimp only
  refine wpAny_execs_cons ?_
  have st := fun Q => @law_s1 w A E h1 g d t1 os Lw na us (numsOf ns) Q hA.handled (G.grow (kb x1)) F1 L1 I1 hne hms
  generalize lawStmt 1 = S1 at *
  refine st _ fun h2 t2 pa pvs x2 F2 P2 n2 V2 => ?_
  clear st
  dsimp only
  refine wpAny_execs_cons ?_
  have st := fun Q => law_s2 (w := w) (Q := Q) (A := A) (E := E) (g := g) (d := d) (t := t2) (os := os) hA.handled F2
  generalize lawStmt 2 = S2 at st ⊢
  refine st _ fun h3 t3 told tw x3 n3 F3 T3 => ?_
  clear st
  dsimp only
  -- the base of the first try
  obtain ⟨oW, hoW, hdW⟩ := loc_obj F3
  obtain ⟨nt, slt, hT⟩ := id T3
  have x13 := x1.trans x2
  have x03 := x13.trans x3
  have nPW : pa ≠ Lw := fun q => by
    obtain ⟨o, ho, _⟩ := loc_obj F1
    rw [q, ho] at n2; cases n2
  have nPT : pa ≠ told := fun q => by rw [← q, P2] at n3; cases n3
  have P3 := x3 _ _ (by simp [nPW]) P2
  have q23 : SeqK h2 h3 := seqK_ext x3 fun n m => List.mem_singleton.mp m ▸ noSeq_loc F2
  have V3 := V2.seq q23
  have TLw : told ≠ Lw := fun q => by
    obtain ⟨o, ho, _⟩ := loc_obj F2
    rw [q, ho] at n3; cases n3
  obtain ⟨b1, nW1, nT1, e1⟩ := erase2 h3 Lw told
  have nTb : b.get? told = none := by
    cases q : b.get? told with
    | none => rfl
    | some o => rw [kb x13 _ _ q] at n3; cases n3
  have B01 : Grow b b1 := fun x o e => by
    rw [e1 x (fun q => by rw [q, nL] at e; cases e) (fun q => by rw [q, nTb] at e; cases e)]
    exact kb x03 _ _ e
  have B1 : Grow b1 h3 := fun x o e => by
    by_cases q1 : x = Lw
    · rw [q1, nW1] at e; cases e
    · by_cases q2 : x = told
      · rw [q2, nT1] at e; cases e
      · rw [← e1 x q1 q2]; exact e
  have Pb1 : b1.get? pa = some { cls := .type "list", data := .seq pvs.toArray } := by rw [e1 pa nPW nPT]; exact P3
  obtain ⟨n0, r, hms'⟩ : ∃ n0 r, numsOf ns = n0 :: r := by
    cases hq : numsOf ns with
    | nil => exact absurd hq hne
    | cons n r => exact ⟨n, r, rfl⟩
  have hd0 : ∃ c, (plOf (numsOf ns))[0]? = some (c, .s (dxOf n0)) := by rw [hms']; exact ⟨0, rfl⟩
  have hKD : ∀ (i : Nat) c pv, (plOf (numsOf ns))[i]? = some (c, pv) → KindDue c pv := fun i c pv e => pl_due _ _ (List.mem_of_getElem? e)
  have hKO : ∀ (i : Nat) c pv, (plOf (numsOf ns))[i]? = some (c, pv) → KindOk c pv := fun i c pv e => (hKD i c pv e).ok
  have hSO : StrsOk (plOf (numsOf ns)) := fun p m x e => (pl_due _ _ m).str x e
  have hpl : (plOf (numsOf ns)).length ≤ 900 := by
    rw [hms'] at hms ⊢
    simp only [plOf, List.length_cons, List.length_map] at hms ⊢
    omega
  have Z3 : LF b1 Lw pa told (.ref na) (.str "" tw) pvs [] (plOf (numsOf ns)) [] h3 := { B := B1, F := F3.weak ⟨rfl, rfl, rfl, rfl, trivial⟩, T := T3, U := Tups.nil, P := ⟨_, P3, rfl, 0, rfl⟩, V := V3 }
  refine wpAny_execs_cons ?_
  have st := fun Q => @law_try3 w A b1 h3 g d t3 os Lw told pa (dxOf n0) (plOf (numsOf ns)) (.ref na) pvs tw Q E hA (G.grow B01) nW1 nT1 nPT hKO (dx_len n0) hpl hd0 Z3
  generalize lawStmt 3 = S3 at *
  refine st _ fun h4 t4 vs4 tk4 Z4 => ?_
  clear st
  dsimp only
  refine wpAny_execs_cons ?_
  have st := fun Q => law_s4 (w := w) (A := A) (E := E) (g := g.push .finished) (d := d) (t := t4) (os := os) (Q := Q) hA (G.grow B01) Z4 Pb1 hKD hSO hpl hd0
  generalize lawStmt 4 = S4 at st ⊢
  refine st _ fun h5 t5 k5 => ?_
  clear st
  dsimp only
  have Z5 := Z4.keep (ks_grow k5) (Grow.trans Z4.B k5)
  have nNW : na ≠ Lw := fun q => by
    obtain ⟨o, ho, _, m, hd⟩ := L1
    exact noSeq_loc F1 o (q ▸ ho) _ _ hd
  have L5 : h5.IsList na us.toArray := by
    obtain ⟨o, ho, r⟩ := L1
    have h3o := x3 _ _ (by simp [nNW]) (x2 _ _ (by simp [nNW]) ho)
    have nNT : na ≠ told := fun q => by rw [q] at ho; rw [x2 _ _ (by simp [TLw]) ho] at n3; cases n3
    exact ⟨o, Z5.B _ _ ((e1 na nNW nNT).trans h3o), r⟩
  refine wpAny_execs_cons ?_
  have st := fun Q => @law_s5 w A E h5 (g.push .finished) d t5 os Lw na us (numsOf ns) Q (lw0 (.ref na) pa told (.str (wordOf (vRun (st0 (dxOf n0)) (plOf (numsOf ns))).2) tk4)) hA.handled Z5.F rfl L5 I1 hms
  generalize lawStmt 5 = S5 at *
  refine st _ fun h6 t6 ra ys x6 F6 L6 n6 V6 => ?_
  clear st
  dsimp only
  refine wpAny_execs_cons ?_
  have st := fun Q => law_s6 (A := A) (E := E) (g := g.push .finished) (d := d) (t := t6) (os := os) (w := w) (Q := Q) hA.handled F6
  generalize lawStmt 6 = S6 at st ⊢
  refine st _ fun h7 t7 tk7 tw7 x7 F7 => ?_
  clear st
  dsimp only
  have x57 := x6.trans x7
  have G17 : Grow b1 h7 := x57.keepBase (fun n m => List.mem_singleton.mp m ▸ nW1) Z5.B
  have nRW : ra ≠ Lw := fun q => by
    obtain ⟨o, ho, _⟩ := loc_obj Z5.F
    rw [q, ho] at n6; cases n6
  have L7 : h7.IsList ra ys.toArray := isList_ext L6 x7 (by simp [nRW])
  have q67 : SeqK h6 h7 := seqK_ext x7 fun n m => List.mem_singleton.mp m ▸ noSeq_loc F6
  have V7 : Tups h7 ys (((numsOf ns).take 6).map row) := V6.seq q67
  generalize hrl : ((numsOf ns).take 6).map row = rl at *
  have hRK : ∀ p ∈ rl, RowK p := fun p m => by
    rw [← hrl] at m
    obtain ⟨n, _, rfl⟩ := List.mem_map.mp m
    exact rowK n
  have hrn : rl.length ≤ 100 := by
    rw [← hrl, List.length_map, List.length_take]; omega
  have NG : ∀ {h}, Ext [Lw] h7 h → Glo w h := fun e => G.grow (Grow.trans B01 (e.keepBase (fun n m => List.mem_singleton.mp m ▸ nW1) G17))
  have Z7 : WI h7 Lw ra rl ys 0 "" h7 := ⟨Ext.refl _ _, tk7, tw7, F7.weak ⟨rfl, rfl, rfl, trivial⟩⟩
  refine wpAny_execs_cons ?_
  have st := fun Q => @law_s7 w A E h7 h7 (g.push .finished) d t7 os Lw ra ys rl Q (NG (Ext.refl _ _)) hA.calm (by obtain ⟨o, ho, _⟩ := loc_obj F7; rw [ho]; intro q; cases q) L7 V7 hRK hrn (noSeq_loc F7) NG Z7
  generalize lawStmt 7 = S7 at *
  refine st _ fun h8 t8 k C hrun hk Z8 => ?_
  clear st
  dsimp only
  obtain ⟨tk8, tw8, F8⟩ := Z8.F
  refine wpAny_execs_cons ?_
  have st := fun Q => law_s8 (w := w) (A := A) (E := E) (g := g.push .finished) (d := d) (t := t8) (os := os) (Q := Q) hA.handled F8
  generalize lawStmt 8 = S8 at st ⊢
  refine st _ fun h9 t9 told2 tw9 x9 n9 F9 T9 => ?_
  clear st
  dsimp only
  obtain ⟨b2, nW2, nT2, e2⟩ := erase2 h9 Lw told2
  have G18 : Grow b1 h8 := Z8.B.keepBase (fun n m => List.mem_singleton.mp m ▸ nW1) G17
  have G19 : Grow b1 h9 := x9.keepBase (fun n m => List.mem_singleton.mp m ▸ nW1) G18
  have B12 : Grow b1 b2 := fun x o e => by
    rw [e2 x (fun q => by rw [q, nW1] at e; cases e) (fun q => by have := G18 _ _ e; rw [q, n9] at this; cases this)]
    exact G19 _ _ e
  have B2 : Grow b2 h9 := fun x o e => by
    by_cases q1 : x = Lw
    · rw [q1, nW2] at e; cases e
    · by_cases q2 : x = told2
      · rw [q2, nT2] at e; cases e
      · rw [← e2 x q1 q2]; exact e
  have x79 : Ext [Lw] h7 h9 := Z8.B.trans x9
  have q79 : SeqK h7 h9 := seqK_ext x79 fun n m => List.mem_singleton.mp m ▸ noSeq_loc F7
  have nRT : ra ≠ told2 := fun q => by
    obtain ⟨o, ho, _⟩ := isList_ext L7 Z8.B (by simp [nRW])
    rw [q, n9] at ho; cases ho
  have Z9 : LH b2 Lw ra told2 (.int k tk8) (.str (wordH C) tw8) (.str "" tw9) ys [] rl [] h9 := { B := B2, F := F9.weak ⟨rfl, rfl, rfl, rfl, rfl, trivial⟩, T := T9, U := Tups.nil, P := isList_ext L7 x79 (by simp [nRW]), V := V7.seq q79 }
  have hdn : ∀ (i : Nat) x, (g.push GenState.finished)[i]? = some x → x = .finished := fun i x e => by
    rw [Array.getElem?_push] at e
    split at e
    · cases e; rfl
    · exact hg i x e
  refine wpAny_execs_cons ?_
  have st := fun Q => law_try9 (w := w) (A := A) (E := E) (g := g.push .finished) (d := d) (t := t9) (os := os) (Q := Q) hA (G.grow (Grow.trans B01 B12)) nW2 nT2 nRT (fun i c pv e => (hRK _ (List.mem_of_getElem? e)).h) (by omega) hdn Z9
  generalize lawStmt 9 = S9 at st ⊢
  refine st _ fun h10 g10 t10 vs10 tk10 dn10 Z10 => ?_
  clear st
  dsimp only
  rw [hrun] at Z10
  refine wpAny_execs_cons ?_
  have st := fun Q => law_s10 (w := w) (A := A) (E := E) (g := g10) (d := d) (t := t10) (os := os) (Q := Q) hA.calm hk (fun p m x e => (hRK p m).ok x e) hrn Z10
  generalize lawStmt 10 = S10 at st ⊢
  exact st _ fun h11 t11 k11 => hQ h11 g10 t11 (Grow.trans B01 (Grow.trans B12 (Grow.trans Z10.B k11))) dn10
end
end Mine
namespace Mine
theorem fn_law (w : World) : ∃ o fd, (hd.heap_39 w.params).lookup 227 = some o ∧ o.data = .func fd ∧ fd.scope.isCoroutine = false ∧ fd.scope.isGenerator = false ∧ fd.body = .stmts (bodyOf lawDef) ∧ (∀ v, bindArgs fd ⟨[v], []⟩ = (pure [(("script" : Str), v)] : Sem (List (Str × Value)))) ∧ fd.scope = scopeOf lawDef ∧
    (∀ L, callEnv fd L 227 = lawEnv L) ∧ (∀ h, (hd.heap_39 w.params).In h → h.CodeRec fd.code fd.qualname) :=
  ⟨_, _, rfl, rfl, rfl, rfl, rfl, fun v => by rfl, rfl, fun L => by rfl, fun h K => ⟨_, _, _, _, rfl, K _ _ rfl, rfl, rfl⟩⟩
theorem call_law {w : World} {h : Heap} {d : Drawn} {t : Nat} {os : OsState} {sa : Addr} {vs : List Value} {ns : List Int} {Q E : Value → Shared → Prop} (G : Glo w h) (hl : h.IsList sa vs.toArray) (hi : IntsAre vs ns) (hn : ns.length ≤ 63)
    (hQ : ∀ h' g' t', Grow h h' → AllBare g' → Q (.bool true) ⟨h', g', d, t', os⟩) : wpAny (model PG w) callerA (call (.ref 227) [.ref sa]) Q E ⟨h, #[], d, t, os⟩ := by
  obtain ⟨o, fd, ho, hd, hco, hgen, hbody, hbind, hsc, henv, hcr⟩ := fn_law w
  refine wpAny_call (codeAny_call_def (by decide) (G.K _ _ ho) hd G.lim (hcr _ G.K) hbody (BindsTo.of_eq (hbind _)) (by rw [hsc]; decide) (by intro x m; rw [List.mem_singleton.mp m, hsc]; rfl) (fun h1 hns hk1 => ?_) hco hgen (by rw [hsc]; rfl))
  rw [henv]
  dsimp only at hns hk1 ⊢
  have nL := get_size h
  generalize h.objs.size = L at *
  have cA : CalmL (callerA.deeper (lawEnv L)) L := ⟨rfl, by show 302 ≤ 440; decide, by show 7 ≤ 70; decide, rfl⟩
  refine law_body cA G nL hk1 ⟨_, hns, fun x u e => by simpa using e⟩ (listK_grow hk1 _ _ hl) hi hn (fun i x e => by simp at e) fun h' g' t' B dn => ?_
  refine hQ h' g' t' B fun y hy => ?_
  obtain ⟨i, hi', e⟩ := Array.mem_iff_getElem.mp hy
  rw [dn i y (Array.getElem?_eq_some_iff.mpr ⟨hi', e⟩)]; rfl
theorem fin : PySem.Challenge.rw_fw0009_01.Holds := by
  refine hd ?_
  k_fill
  intro w s₀ s₁ mg mb G Y fa o pm cd doc dV kV ho hdd hcd hD hmg hg args vals as hpre hlay hrd hwl hlo
  have KX := kIn_of Y
  refine Ground.open G ?_
  intro T B D TE TW
  wrow_args hpre hlay hrd hwl hlo
  rename_i ns hs hlay0 hlL hr1 hl2 a4 a3 sa vs a0 hl hra hw1 hr0 hI hrW hc1 hc2
  have e1 : mg ("law" : Str) = some (.ref 227) := mg_of KX T.g (by kernel_rfl!)
  have e2 : mg ("law" : Str) = some (.ref fa) := hmg
  rw [e1] at e2
  cases e2
  have Gl : Glo w s₁.heap := ⟨KX, ⟨mg, T.g⟩, ⟨mb, T.b, T.builtins⟩, T.nolimit⟩
  clear hdd hcd hD hmg
  obtain ⟨h0, g0, d0, t0, os0⟩ := s₁
  have hg' : g0 = #[] := hg
  subst hg'
  refine call_law Gl hl hI (by omega) fun h' g' t' B' ab => ?_
  exact ⟨.inl ⟨_, _, [], rfl, fun _ => rfl, ReadsW.bool true, (by first | rfl | wrow_post), fun _ => ⟨List.nodup_nil, fun _ hm => (nomatch hm)⟩⟩, .of_keep B', rfl, ab⟩
end Mine

theorem PySem.Challenge.cw_fw0009_01_holds : PySem.Challenge.rw_fw0009_01.Holds :=
  Mine.fin
