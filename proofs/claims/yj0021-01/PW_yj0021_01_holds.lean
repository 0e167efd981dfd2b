import PyProof.Rows.All
import Wide.All
import OpenK.AllK
import Wide.FinOn
import Lean
import PySem.Challenge.RW_yj0021_01
set_option Elab.async false
set_option compiler.extract_closed false
set_option maxRecDepth 100000
set_option maxHeartbeats 8000000
namespace Mine
open PySem PySem.W PyProof.Rows
def VW : Program := { PySem.Challenge.rw_yj0021_01.row.prog with main := { PySem.Challenge.rw_yj0021_01.row.prog.main with body := [1, 3, 4, 5, 6, 7, 8, 10, 12, 13, 14, 16, 17, 18, 19, 20, 21, 22, 23, 24].filterMap fun i => PySem.Challenge.rw_yj0021_01.row.prog.main.body[i]? } }
theorem saidL : PySem.Challenge.rw_yj0021_01.wellSaid = true := (congrFun Fast.te9446332074065402090 _).trans (by kernel_rfl)
/-- the run of the top by the library's quick words -/
noncomputable def quickL (p q : Program) (loose : List Str) (Xt : Shared → Bool) {α : Type} (Yf : Shared → α) (Ya : World → α) (N : Nat) : { P : Prop // P → LeftO p q loose Xt Yf Ya N } := by
  refine' ⟨∀ w : World, (_ : World → Prop) w, fun h w => ?_⟩
  rotate_left
  unfold openEnds topFrom
  rw [Fast.te14082659384304107361, Fast.te14364793385576792824, Fast.te4187177175401517315, Fast.te5923862056798008813]
  exact h w
set_option hygiene false
local macro_rules | `(tactic| o_law) => `(tactic| refine holds_law saidL fun said => ?_)
local macro_rules | `(tactic| o_head $H) => `(tactic| refine holds_open (q := VW) (loose := []) (Xt := fun s => xlAt VW [] s && recOk (RowW.records (OpenRow.toRowW (OpenLaw.row PySem.Challenge.rw_yj0021_01))) s) (XP := XL VW []) (Yf := Hook.obs $H) (Ya := Hook.val $H) (YP := Hook.says $H) (N := 2296) ((quickL _ _ _ _ _ _ _).2 (fun w => by kernel_rfl)) (Hook.of $H) (Hook.keeps $H) (fun s e => xl_of s (Bool.and_eq_true_iff.mp e).1) XL.keeps (by rfl) (by rfl) (by rfl) (fun s e => recFacts_of (Bool.and_eq_true_iff.mp e).2) (by rfl) said (by kernel_rfl) ⟨rfl, rfl, rfl, rfl, rfl, by kernel_rfl⟩ ?hw ?hc)
set_option hygiene true
open_top hd for PySem.Challenge.rw_yj0021_01
end Mine
set_option maxHeartbeats 400000
set_option autoImplicit true
set_option relaxedAutoImplicit false
set_option linter.unusedVariables false
namespace Mine
open PySem PySem.Calls PyProof.Rows PySem.W
noncomputable abbrev prog : Program := PySem.Challenge.rw_yj0021_01.prog
noncomputable abbrev KF (w : World) : Frag := hd.heap_1 w.params
noncomputable def TAB : List Addr := [16, 37, 44, 58, 174]
inductive AV where
  | none | bool (b : Bool) | int (i : Int) | str (s : Str)
  | list (l : List AV) | tuple (l : List AV)
  | thing (t : AV) | raw (v : Value) | slc (l u : Option Int) | obj (P : Obj → Prop) | fn (q : Str) (params : Arguments) (body : List Stmt) (scope : Scope) (cl : List (Str × Addr)) | mu
noncomputable abbrev Part := Addr → Option Obj
noncomputable def slcO (l u : Value) : Obj := { cls := .type "slice", data := .fields #[l, u, .none] }
noncomputable def listO (xs : Array Value) (n : Nat) : Obj := { cls := .type "list", data := .seq xs n }
noncomputable def tupO (xs : Array Value) (n : Nat) : Obj := { cls := .type "tuple", data := .seq xs n }
noncomputable def CodeIn (F : Part) (v : Value) (q : Str) : Prop := ∃ c o vs t, v = .ref c ∧ F c = some o ∧ o.data = .fields vs ∧ vs[1]? = some (.str q t)
structure FdOk (F : Part) (fd : FuncData) (q : Str) (params : Arguments) (body : List Stmt) (scope : Scope) (cl : List (Str × Addr)) : Prop where
  qual : fd.qualname = q
  params : fd.params = params
  body : fd.body = .stmts body
  scope : fd.scope = scope
  glo : fd.globals = mainGlobals
  bui : fd.builtins = builtinsNs
  clos : fd.closure = cl
  dfl : fd.defaults = .none
  kwd : fd.kwdefaults = .none
  code : CodeIn F fd.code q
mutual
inductive Rd (F : Part) : Value → AV → Prop
  | none : Rd F .none .none
  | bool (b) : Rd F (.bool b) (.bool b)
  | int (i t) : Rd F (.int i t) (.int i)
  | str (s t) : Rd F (.str s t) (.str s)
  | raw (v) : Rd F v (.raw v)
  | slc {a vl vu l u} : F a = some (slcO vl vu) → IsPart vl l → IsPart vu u → Rd F (.ref a) (.slc l u)
  | obj {a o P} : 207 ≤ a → F a = some o → P o → Rd F (.ref a) (.obj P)
  | list {a xs n l} : F a = some (listO xs n) → RdL F xs.toList l → Rd F (.ref a) (.list l)
  | tuple {a xs n l} : F a = some (tupO xs n) → RdL F xs.toList l → Rd F (.ref a) (.tuple l)
  | fn {a fd q params body scope cl} : 207 ≤ a → F a = some { cls := .type "function", data := .func fd } → FdOk F fd q params body scope cl → Rd F (.ref a) (.fn q params body scope cl)
  | thing {a fd d sl od es n x t} : F a = some ⟨.type "function", some d, .func fd, sl⟩ → F d = some od → od.data = .dict es n →
      StrKeys es → nsFind es "tag" = some x → Rd F x t → Rd F (.ref a) (.thing t)
inductive RdL (F : Part) : List Value → List AV → Prop
  | nil : RdL F [] []
  | cons {v a vs l} : Rd F v a → RdL F vs l → RdL F (v :: vs) (a :: l)
end
@[elab_as_elim] theorem RdL.e1 {F : Part} {vs : List Value} {a : AV} {P : List Value → Prop} (r : RdL F vs [a]) (k : ∀ v, Rd F v a → P [v]) : P vs := by
  cases r with | cons r1 rs => cases rs; exact k _ r1
@[elab_as_elim] theorem RdL.e2 {F : Part} {vs : List Value} {a b : AV} {P : List Value → Prop} (r : RdL F vs [a, b]) (k : ∀ v u, Rd F v a → Rd F u b → P [v, u]) : P vs := by
  cases r with | cons r1 rs => exact RdL.e1 (P := fun us => P (_ :: us)) rs fun _ r2 => k _ _ r1 r2
@[elab_as_elim] theorem RdL.e3 {F : Part} {vs : List Value} {a b c : AV} {P : List Value → Prop} (r : RdL F vs [a, b, c]) (k : ∀ v u x, Rd F v a → Rd F u b → Rd F x c → P [v, u, x]) : P vs := by
  cases r with | cons r1 rs => exact RdL.e2 (P := fun us => P (_ :: us)) rs fun _ _ r2 r3 => k _ _ _ r1 r2 r3
@[elab_as_elim] theorem Rd.eInt {F : Part} {v : Value} {i : Int} {P : Value → Prop} (r : Rd F v (.int i)) (k : ∀ t, P (.int i t)) : P v := by
  cases r; exact k _
@[elab_as_elim] theorem Rd.eStr {F : Part} {v : Value} {i : Str} {P : Value → Prop} (r : Rd F v (.str i)) (k : ∀ t, P (.str i t)) : P v := by
  cases r; exact k _
@[elab_as_elim] theorem Rd.eNone {F : Part} {v : Value} {P : Value → Prop} (r : Rd F v .none) (k : P .none) : P v := by
  cases r; exact k
@[elab_as_elim] theorem Rd.eRaw {F : Part} {v u : Value} {P : Value → Prop} (r : Rd F v (.raw u)) (k : P u) : P v := by
  cases r; exact k
@[elab_as_elim] theorem Rd.eList {F : Part} {v : Value} {l : List AV} {P : Value → Prop} (r : Rd F v (.list l)) (k : ∀ a xs n, F a = some (listO xs n) → RdL F xs.toList l → P (.ref a)) : P v := by
  cases r with | list e rl => exact k _ _ _ e rl
@[elab_as_elim] theorem Rd.eObj {F : Part} {v : Value} {Q : Obj → Prop} {P : Value → Prop} (r : Rd F v (.obj Q)) (k : ∀ a o, 207 ≤ a → F a = some o → Q o → P (.ref a)) : P v := by
  cases r with | obj l e p => exact k _ _ l e p
@[elab_as_elim] theorem len1 {vs : List α} {P : List α → Prop} (h : vs.length = 1) (k : ∀ a, P [a]) : P vs := by
  match vs, h with | [a], _ => exact k a
@[elab_as_elim] theorem len2 {vs : List α} {P : List α → Prop} (h : vs.length = 2) (k : ∀ a b, P [a, b]) : P vs := by
  match vs, h with | [a, b], _ => exact k a b
@[elab_as_elim] theorem len3 {vs : List α} {P : List α → Prop} (h : vs.length = 3) (k : ∀ a b c, P [a, b, c]) : P vs := by
  match vs, h with | [a, b, c], _ => exact k a b c
@[elab_as_elim] theorem len5 {vs : List α} {P : List α → Prop} (h : vs.length = 5) (k : ∀ a b c d e, P [a, b, c, d, e]) : P vs := by
  match vs, h with | [a, b, c, d, e], _ => exact k a b c d e
noncomputable def Part.Le (F F' : Part) : Prop := ∀ a o, F a = some o → F' a = some o
theorem Part.Le.refl (F : Part) : F.Le F := fun _ _ e => e
theorem Part.Le.trans {F G H : Part} (x : F.Le G) (y : G.Le H) : F.Le H := fun a o e => y a o (x a o e)
theorem CodeIn.mono {F F' : Part} (h : F.Le F') {v : Value} {q : Str} (x : CodeIn F v q) : CodeIn F' v q :=
  let ⟨c, o, vs, t, e, g, r⟩ := x; ⟨c, o, vs, t, e, h _ _ g, r⟩
theorem FdOk.mono {F F' : Part} (h : F.Le F') {fd : FuncData} {q : Str} {params : Arguments} {body : List Stmt} {scope : Scope} {cl : List (Str × Addr)} (x : FdOk F fd q params body scope cl) : FdOk F' fd q params body scope cl := { x with code := x.code.mono h }
mutual
theorem Rd.mono {F F' : Part} (h : F.Le F') : ∀ {v a}, Rd F v a → Rd F' v a
  | _, _, .none => .none
  | _, _, .bool b => .bool b
  | _, _, .int i t => .int i t
  | _, _, .str s t => .str s t
  | _, _, .raw v => .raw v
  | _, _, .slc e p q => .slc (h _ _ e) p q
  | _, _, .obj l e p => .obj l (h _ _ e) p
  | _, _, .list e r => .list (h _ _ e) (RdL.mono h r)
  | _, _, .tuple e r => .tuple (h _ _ e) (RdL.mono h r)
  | _, _, .fn l e f => .fn l (h _ _ e) (f.mono h)
  | _, _, .thing e1 e2 e3 e4 e5 r => .thing (h _ _ e1) (h _ _ e2) e3 e4 e5 (Rd.mono h r)
theorem RdL.mono {F F' : Part} (h : F.Le F') : ∀ {v a}, RdL F v a → RdL F' v a
  | _, _, .nil => .nil
  | _, _, .cons r rs => .cons (Rd.mono h r) (RdL.mono h rs)
end
theorem RdL.length {F : Part} : ∀ {vs l}, RdL F vs l → vs.length = l.length
  | _, _, .nil => rfl
  | _, _, .cons _ r => by simp [RdL.length r]
theorem RdL.append {F : Part} : ∀ {vs l ws m}, RdL F vs l → RdL F ws m → RdL F (vs ++ ws) (l ++ m)
  | _, _, _, _, .nil, y => y
  | _, _, _, _, .cons r rs, y => .cons r (RdL.append rs y)
theorem RdL.get {F : Part} : ∀ {vs l}, RdL F vs l → ∀ {i : Nat} {a}, l[i]? = some a → ∃ v, vs[i]? = some v ∧ Rd F v a
  | _, _, .nil, i, a, e => by simp at e
  | _, _, .cons (v := v) r rs, 0, a, e => by simp at e; subst e; exact ⟨v, rfl, r⟩
  | _, _, .cons r rs, i + 1, a, e => by simp at e; exact RdL.get rs e
theorem RdL.get' {F : Part} : ∀ {vs l}, RdL F vs l → ∀ {i : Nat} {v}, vs[i]? = some v → ∃ a, l[i]? = some a ∧ Rd F v a
  | _, _, .nil, i, a, e => by simp at e
  | _, _, .cons (a := a) r rs, 0, v, e => by simp at e; subst e; exact ⟨a, rfl, r⟩
  | _, _, .cons r rs, i + 1, a, e => by simp at e; exact RdL.get' rs e
/-! the makers' tables -/
structure Maker where
  c : Addr
  P : Addr
  ql : List (Nat × Nat × Str)
noncomputable def makers : List Maker := [
  ⟨20, 16, [(3, 19, "_keep_original_ws.<locals>.<genexpr>")]⟩,
  ⟨41, 37, [(35, 4, "_int2digits.<locals>.inner")]⟩,
  ⟨48, 44, [(50, 4, "_digits2int.<locals>.inner")]⟩,
  ⟨62, 58, [(73, 8, "_prepare_tag.<locals>.select"), (79, 8, "_prepare_tag.<locals>.select"), (89, 8, "_prepare_tag.<locals>.select"), (98, 8, "_prepare_tag.<locals>.select")]⟩,
  ⟨178, 174, [(174, 4, "_law_thing.<locals>.thing")]⟩]
noncomputable def Maker.Ok (F : Part) (h : Heap) (m : Maker) : Prop :=
  ∃ ps, h.IsCode m.c m.P ps ∧ h.TableAt m.c m.P ps ∧ ∀ pq ∈ m.ql, ∀ pos : Pos, pos.line = pq.1 → pos.col = pq.2.1 → ∀ c', codeAmong pos ps.toList = some c' → CodeIn F c' pq.2.2
structure OK (w : World) (F : Part) (s : Shared) : Prop where
  sub : ∀ a o, F a = some o → a ∉ TAB ∧ s.heap.get? a = some o
  K : (KF w).In s.heap
  glo : ∃ mg, s.heap.Ns mainGlobals mg
  bm : ∃ ob, s.heap.get? 4 = some ob ∧ ob.cls = .type "module" ∧ ob.dict = some builtinsNs ∧ ob.data = .plain
  bui : ∃ mb, s.heap.Ns builtinsNs mb ∧ ∀ x : Str, x ≠ "__name__" → mb x = bootBuiltins x
  lim : s.heap.NoLimit
  mks : ∀ m ∈ makers, m.Ok F s.heap
  sz : 207 ≤ s.heap.objs.size
  bare : AllBare s.gens
/-- all old objects stay, but those at `T` and the tables; all generators' states, but those at `G` -/
structure FwG (w : World) (T : List Addr) (G : List Nat) (F : Part) (s : Shared) (F' : Part) (s' : Shared) : Prop where
  le : F.Le F'
  new : ∀ a o, F' a = some o → F a = some o ∨ s.heap.objs.size ≤ a ∨ a ∈ T
  heap : ∀ a, a ∉ TAB → a ∉ T → ∀ o, s.heap.get? a = some o → s'.heap.get? a = some o
  size : s.heap.objs.size ≤ s'.heap.objs.size
  gens : ∀ (i : Nat) x, i ∉ G → s.gens[i]? = some x → s'.gens[i]? = some x
  gsz : s.gens.size ≤ s'.gens.size
  os : s'.os = s.os
  ok : OK w F' s'
noncomputable abbrev Fw (w : World) (T : List Addr) (F : Part) (s : Shared) (F' : Part) (s' : Shared) : Prop := FwG w T [] F s F' s'
theorem Fw.refl {w : World} {F : Part} {s : Shared} (ok : OK w F s) : Fw w [] F s F s :=
  ⟨.refl F, fun _ _ e => .inl e, fun _ _ _ _ e => e, Nat.le_refl _, fun _ _ _ e => e, Nat.le_refl _, rfl, ok⟩
theorem FwG.trans' {w : World} {T T' : List Addr} {G G' : List Nat} {F F' F'' : Part} {s s' s'' : Shared} (x : FwG w T G F s F' s') (y : FwG w T' G' F' s' F'' s'')
    (hT : ∀ a ∈ T', a ∈ T ∨ s.heap.objs.size ≤ a) (hG : ∀ i ∈ G', i ∈ G ∨ s.gens.size ≤ i) : FwG w T G F s F'' s'' where
  le := x.le.trans y.le
  new := fun a o e => by
    rcases y.new a o e with h | h | h
    · exact x.new a o h
    · exact .inr (.inl (Nat.le_trans x.size h))
    · exact .inr (hT a h).symm
  heap := fun a h1 h2 o e => y.heap a h1 (fun m => (hT a m).elim h2 fun h => Nat.lt_irrefl _ (Nat.lt_of_lt_of_le (Heap.lt_size e) h)) o (x.heap a h1 h2 o e)
  size := Nat.le_trans x.size y.size
  gens := fun i z h e => y.gens i z (fun m => (hG i m).elim h fun h' => by
    rw [Array.getElem?_eq_none h'] at e; cases e) (x.gens i z h e)
  gsz := Nat.le_trans x.gsz y.gsz
  os := y.os.trans x.os
  ok := y.ok
theorem FwG.trans {w : World} {T : List Addr} {G : List Nat} {F F' F'' : Part} {s s' s'' : Shared} (x : FwG w T G F s F' s') (y : FwG w T G F' s' F'' s'') : FwG w T G F s F'' s'' :=
  x.trans' y (fun _ h => .inl h) (fun _ h => .inl h)
/-- what was made since `s` may be changed -/
theorem FwG.drop {w : World} {T T' : List Addr} {G G' : List Nat} {F F' : Part} {s s' : Shared} (x : FwG w T' G' F s F' s') (h : ∀ a ∈ T', a ∈ T ∨ s.heap.objs.size ≤ a)
    (hG : ∀ i ∈ G', i ∈ G ∨ s.gens.size ≤ i) : FwG w T G F s F' s' :=
  { x with
    new := fun a o e => by
      rcases x.new a o e with h' | h' | h'
      · exact .inl h'
      · exact .inr (.inl h')
      · exact .inr (h a h').symm
    heap := fun a h1 h2 o e => x.heap a h1 (fun m => (h a m).elim h2 fun h => Nat.lt_irrefl _ (Nat.lt_of_lt_of_le (Heap.lt_size e) h)) o e
    gens := fun i z h e => x.gens i z (fun m => (hG i m).elim h fun h' => by
      rw [Array.getElem?_eq_none h'] at e; cases e) e }
theorem FwG.mono {w : World} {T T' : List Addr} {G G' : List Nat} {F F' : Part} {s s' : Shared} (x : FwG w T G F s F' s') (h : ∀ a ∈ T, a ∈ T') (hG : ∀ i ∈ G, i ∈ G' := by exact fun _ h => nomatch h) : FwG w T' G' F s F' s' :=
  x.drop (fun a m => .inl (h a m)) (fun i m => .inl (hG i m))
theorem TAB_lt {a : Addr} (h : a ∈ TAB) : a < 207 := by
  simp only [TAB, List.mem_cons, List.not_mem_nil, or_false] at h
  rcases h with rfl | rfl | rfl | rfl | rfl <;> decide
end Mine
namespace Mine
open PySem PySem.Calls PyProof.Rows PySem.W
theorem lookup_mem {α : Type} : ∀ {l : List (Nat × α)} {a : Nat} {o : α}, l.lookup a = some o → (a, o) ∈ l
  | [], a, o, e => by simp at e
  | (b, p) :: l, a, o, e => by
    rw [List.lookup_cons] at e
    by_cases h : a = b
    · subst h; simp at e; subst e; exact .head _
    · have : (a == b) = false := by simpa using h
      rw [this] at e
      exact .tail _ (lookup_mem e)
theorem KF_all (w : World) : ((KF w).map (·.1)).all (fun a => decide (a < 207) && !(TAB.contains a)) = true := by
  with_unfolding_all rfl
theorem KF_lt {w : World} {a : Addr} {o : Obj} (e : (KF w).lookup a = some o) : a < 207 ∧ a ∉ TAB := by
  have h := List.all_eq_true.mp (KF_all w) a (List.mem_map_of_mem (lookup_mem e))
  simpa using h
noncomputable def Part.put (F : Part) (a : Addr) (o : Obj) : Part := fun b => if b = a then some o else F b
theorem Part.put_self (F : Part) (a : Addr) (o : Obj) : F.put a o a = some o := if_pos rfl
theorem Part.put_other (F : Part) {a b : Addr} (o : Obj) (h : b ≠ a) : F.put a o b = F b := if_neg h
theorem Part.le_put {F : Part} {a : Addr} {o : Obj} (h : F a = none) : F.Le (F.put a o) := fun b o' e => by
  by_cases hb : b = a
  · subst hb; rw [h] at e; cases e
  · rw [F.put_other o hb]; exact e
theorem Maker.Ok.mono {F F' : Part} (h : F.Le F') {hp : Heap} {m : Maker} (x : m.Ok F hp) : m.Ok F' hp :=
  let ⟨ps, a, b, c⟩ := x; ⟨ps, a, b, fun pq hq pos h1 h2 c' e => (c pq hq pos h1 h2 c' e).mono h⟩
theorem Maker.Ok.keep {F : Part} {h h' : Heap} {m : Maker} (x : m.Ok F h) (hk : ∀ a, a < 207 → ∀ o, h.get? a = some o → h'.get? a = some o) (hm : m.c < 207 ∧ m.P < 207) : m.Ok F h' := by
  obtain ⟨ps, hi, ht, hc⟩ := x
  obtain ⟨o, vs, file, tf, flags, tg, inF, text, tt, op, a1, r1, r2, r3, r4, r5, r6, a2, r⟩ := hi
  obtain ⟨⟨o', vs', b1, q⟩, t⟩ := ht
  exact ⟨ps, ⟨o, vs, file, tf, flags, tg, inF, text, tt, op, hk _ hm.1 _ a1, r1, r2, r3, r4, r5, r6, hk _ hm.2 _ a2, r⟩, ⟨⟨o', vs', hk _ hm.1 _ b1, q⟩, hk _ hm.2 _ t⟩, hc⟩
theorem makers_lt : ∀ m ∈ makers, m.c < 207 ∧ m.P < 207 ∧ m.c ∉ TAB ∧ m.P ∈ TAB := by
  intro m hm
  simp only [makers, List.mem_cons, List.not_mem_nil, or_false] at hm
  rcases hm with rfl | rfl | rfl | rfl | rfl <;> decide
theorem ns_at {h h' : Heap} {a : Addr} {m : Str → Option Value} (x : h.Ns a m) (k : ∀ o, h.get? a = some o → h'.get? a = some o) : h'.Ns a m :=
  let ⟨o, es, ep, e, r⟩ := x; ⟨o, es, ep, k o e, r⟩
theorem OK.lt {w : World} {F : Part} {s : Shared} (ok : OK w F s) {a : Addr} {o : Obj} (e : F a = some o) : a < s.heap.objs.size := Heap.lt_size (ok.sub a o e).2
theorem OK.old {w : World} {F : Part} {s : Shared} (ok : OK w F s) {a : Addr} (h : s.heap.objs.size ≤ a) : F a = none := by
  cases e : F a with
  | none => rfl
  | some o => exact absurd (ok.lt e) (Nat.not_lt.mpr h)
theorem OK.notTab {w : World} {F : Part} {s : Shared} (ok : OK w F s) {a : Addr} (h : s.heap.objs.size ≤ a) : a ∉ TAB := fun m =>
  Nat.lt_irrefl _ (Nat.lt_of_lt_of_le (TAB_lt m) (Nat.le_trans ok.sz h))
theorem OK.step {w : World} {F : Part} {s s' : Shared} (ok : OK w F s) {T : List Addr} (hT : ∀ a ∈ T, 207 ≤ a ∧ F a = none)
    (hk : ∀ a, a ∉ T → ∀ o, s.heap.get? a = some o → s'.heap.get? a = some o) (hsz : s.heap.objs.size ≤ s'.heap.objs.size) (hb : AllBare s'.gens) : OK w F s' := by
  have hlow : ∀ a, a < 207 → ∀ o, s.heap.get? a = some o → s'.heap.get? a = some o := fun a ha => hk a fun m => Nat.lt_irrefl _ (Nat.lt_of_lt_of_le ha (hT a m).1)
  refine ⟨fun a o e => ⟨(ok.sub a o e).1, hk a (fun m => by rw [(hT a m).2] at e; cases e) o (ok.sub a o e).2⟩, fun a o e => hlow a (KF_lt e).1 o (ok.K a o e), ?_, ?_, ?_, ?_, ?_, Nat.le_trans ok.sz hsz, hb⟩
  · obtain ⟨mg, h⟩ := ok.glo; exact ⟨mg, ns_at h (hlow _ (by decide))⟩
  · obtain ⟨ob, h, r⟩ := ok.bm; exact ⟨ob, hlow _ (by decide) _ h, r⟩
  · obtain ⟨mb, h, r⟩ := ok.bui; exact ⟨mb, ns_at h (hlow _ (by decide)), r⟩
  · exact ok.lim.at (hlow _ (by decide))
  · exact fun m hm => (ok.mks m hm).keep hlow ⟨(makers_lt m hm).1, (makers_lt m hm).2.1⟩
theorem OK.freeze {w : World} {F : Part} {s : Shared} (ok : OK w F s) {a : Addr} {o : Obj} (hn : F a = none) (ht : a ∉ TAB) (e : s.heap.get? a = some o) : OK w (F.put a o) s :=
  { ok with
    sub := fun b o' e' => by
      by_cases hb : b = a
      · subst hb; rw [F.put_self] at e'; cases e'; exact ⟨ht, e⟩
      · rw [F.put_other o hb] at e'; exact ok.sub b o' e'
    mks := fun m hm => (ok.mks m hm).mono (Part.le_put hn) }
/-- the heap grew, the tokens moved -/
theorem Fw.grow {w : World} {F : Part} {s s' : Shared} (ok : OK w F s) (hk : ∀ a o, s.heap.get? a = some o → s'.heap.get? a = some o) (hsz : s.heap.objs.size ≤ s'.heap.objs.size)
    (hg : s'.gens = s.gens) (ho : s'.os = s.os) : Fw w [] F s F s' :=
  ⟨.refl F, fun _ _ e => .inl e, fun a _ _ o e => hk a o e, hsz, fun i x _ e => by rw [hg]; exact e, by rw [hg]; exact Nat.le_refl _, ho,
    ok.step (T := []) (fun _ h => nomatch h) (fun a _ o e => hk a o e) hsz (by rw [hg]; exact ok.bare)⟩
theorem Fw.toks {w : World} {F : Part} {s : Shared} (ok : OK w F s) (tk : Nat) : Fw w [] F s F { s with toks := tk } :=
  .grow ok (fun _ _ e => e) (Nat.le_refl _) rfl rfl
/-- one change at `T` -/
theorem Fw.change {w : World} {F : Part} {s s' : Shared} {T : List Addr} (ok : OK w F s) (hT : ∀ a ∈ T, 207 ≤ a ∧ F a = none)
    (hk : ∀ a, a ∉ T → ∀ o, s.heap.get? a = some o → s'.heap.get? a = some o) (hsz : s.heap.objs.size ≤ s'.heap.objs.size)
    (hg : s'.gens = s.gens) (ho : s'.os = s.os) : Fw w T F s F s' :=
  ⟨.refl F, fun _ _ e => .inl e, fun a _ h o e => hk a h o e, hsz, fun i x _ e => by rw [hg]; exact e, by rw [hg]; exact Nat.le_refl _, ho,
    ok.step hT hk hsz (by rw [hg]; exact ok.bare)⟩
theorem FwG.wide {w : World} {T : List Addr} {G : List Nat} {F F' : Part} {s s' : Shared} (x : Fw w [] F s F' s') : FwG w T G F s F' s' := x.mono (fun _ m => nomatch m)
/-- an object of the heap joins the frozen ones -/
theorem FwG.freeze {w : World} {T : List Addr} {G : List Nat} {F F' : Part} {s s' : Shared} (x : FwG w T G F s F' s') {a : Addr} {o : Obj} (hn : F' a = none) (ht : a ∉ TAB) (hs : s.heap.objs.size ≤ a ∨ a ∈ T) (e : s'.heap.get? a = some o) : FwG w T G F s (F'.put a o) s' :=
  { x with
    le := x.le.trans (Part.le_put hn)
    new := fun b o' e' => by
      by_cases hb : b = a
      · subst hb; exact .inr hs
      · rw [F'.put_other o hb] at e'; exact x.new b o' e'
    ok := x.ok.freeze hn ht e }
/-- a new object, frozen at once -/
theorem Fw.make {w : World} {F : Part} {s : Shared} (ok : OK w F s) (o : Obj) (hf : o.isFreed = false) (tk : Nat) :
    Fw w [] F s (F.put s.heap.objs.size o) { s with heap := s.heap.push o, toks := tk } :=
  (Fw.grow (s' := { s with heap := s.heap.push o, toks := tk }) ok (fun _ _ e => Heap.get?_push_of_some _ e) (by rw [Heap.size_push]; exact Nat.le_succ _) rfl rfl).freeze
    (ok.old (Nat.le_refl _)) (ok.notTab (Nat.le_refl _)) (.inl (Nat.le_refl _)) (Heap.get?_push_size _ hf)
end Mine
namespace Mine
open PySem PySem.Calls PyProof.Rows PySem.W
noncomputable def Lim (n : Nat) (A : Around) : Prop := A.depth + n < 1000 ∧ A.units + 10 * n < 9900 ∧ A.handled = none
theorem Lim.mono {n m : Nat} {A : Around} (h : Lim n A) (hm : m ≤ n) : Lim m A := ⟨by have := h.1; omega, by have := h.2.1; omega, h.2.2⟩
theorem Lim.in1 {n : Nat} {A : Around} (h : Lim (n + 1) A) : Lim n A.in1 := ⟨by have := h.1; simp; omega, by have := h.2.1; simp; omega, h.2.2⟩
theorem Lim.deeper {n : Nat} {A : Around} (h : Lim (n + 1) A) (env : Env) : Lim n (A.deeper env) :=
  ⟨by have := h.1; show A.depth + 1 + n < 1000; omega, by have := h.2.1; show A.units + 3 + 10 * n < 9900; omega, h.2.2⟩
theorem Lim.room {n : Nat} {A : Around} (h : Lim n A) : A.depth < recursionLimit := by have := h.1; show A.depth < 1000; omega
theorem Lim.croom {n : Nat} {A : Around} (h : Lim n A) : A.units < cLine := by have := h.2.1; show A.units < 9900; omega
inductive MC where
  | list (l : List AV)
  | obj (P : Obj → Prop)
  | thing (t : AV)
noncomputable def MHas (F : Part) (h : Heap) (a : Addr) : MC → Prop
  | .list l => ∃ xs, h.PlainList a xs ∧ RdL F xs.toList l
  | .obj P => ∃ o, h.get? a = some o ∧ P o
  | .thing t => ∃ fd d od es n x, h.get? a = some ⟨.type "function", some d, .func fd, #[]⟩ ∧ F d = some od ∧ od.data = .dict es n ∧ StrKeys es ∧ nsFind es "tag" = some x ∧ Rd F x t
noncomputable abbrev Mu := Option Addr
noncomputable def RdM (F : Part) (mu : Mu) (v : Value) (a : AV) : Prop := Rd F v a ∨ (a = .mu ∧ ∃ b, mu = some b ∧ v = .ref b)
theorem RdM.mono {F F' : Part} {mu : Mu} {v : Value} {a : AV} (h : F.Le F') (x : RdM F mu v a) : RdM F' mu v a := x.imp (·.mono h) id
theorem RdM.rd {F : Part} {mu : Mu} {v : Value} {a : AV} (x : RdM F mu v a) (h : a ≠ .mu) : Rd F v a := x.elim id fun y => absurd y.1 h
theorem RdM.int {F : Part} {mu : Mu} {v : Value} {i : Int} (x : RdM F mu v (.int i)) : ∃ t, v = .int i t := by
  rcases x with x | ⟨x, _⟩
  · cases x with | int i t => exact ⟨t, rfl⟩
  · cases x
theorem RdM.str {F : Part} {mu : Mu} {v : Value} {i : Str} (x : RdM F mu v (.str i)) : ∃ t, v = .str i t := by
  rcases x with x | ⟨x, _⟩
  · cases x with | str i t => exact ⟨t, rfl⟩
  · cases x
theorem RdM.non {F : Part} {mu : Mu} {v : Value} (x : RdM F mu v .none) : v = .none := by
  rcases x with x | ⟨x, _⟩
  · cases x; rfl
  · cases x
theorem RdM.raw {F : Part} {mu : Mu} {v u : Value} (x : RdM F mu v (.raw u)) : v = u := by
  rcases x with x | ⟨x, _⟩
  · cases x; rfl
  · cases x
theorem RdM.list {F : Part} {mu : Mu} {v : Value} {l : List AV} (x : RdM F mu v (.list l)) : ∃ a xs n, v = .ref a ∧ F a = some (listO xs n) ∧ RdL F xs.toList l := by
  rcases x with x | ⟨x, _⟩
  · cases x with | list e r => exact ⟨_, _, _, rfl, e, r⟩
  · cases x
theorem RdM.tuple {F : Part} {mu : Mu} {v : Value} {l : List AV} (x : RdM F mu v (.tuple l)) : ∃ a xs n, v = .ref a ∧ F a = some (tupO xs n) ∧ RdL F xs.toList l := by
  rcases x with x | ⟨x, _⟩
  · cases x with | tuple e r => exact ⟨_, _, _, rfl, e, r⟩
  · cases x
theorem RdM.slc {F : Part} {mu : Mu} {v : Value} {l u : Option Int} (x : RdM F mu v (.slc l u)) : ∃ a vl vu, v = .ref a ∧ F a = some (slcO vl vu) ∧ IsPart vl l ∧ IsPart vu u := by
  rcases x with x | ⟨x, _⟩
  · cases x with | slc e p q => exact ⟨_, _, _, rfl, e, p, q⟩
  · cases x
theorem RdM.obj {F : Part} {mu : Mu} {v : Value} {P : Obj → Prop} (x : RdM F mu v (.obj P)) : ∃ a o, v = .ref a ∧ 207 ≤ a ∧ F a = some o ∧ P o := by
  rcases x with x | ⟨x, _⟩
  · cases x with | obj l e p => exact ⟨_, _, rfl, l, e, p⟩
  · cases x
theorem OK.isList {w : World} {F : Part} {s : Shared} (ok : OK w F s) {a : Addr} {xs : Array Value} {n : Nat} (e : F a = some (listO xs n)) : s.heap.IsList a xs :=
  ⟨_, (ok.sub a _ e).2, rfl, n, rfl⟩
theorem OK.isTuple {w : World} {F : Part} {s : Shared} (ok : OK w F s) {a : Addr} {xs : Array Value} {n : Nat} (e : F a = some (tupO xs n)) : s.heap.IsTuple a xs :=
  ⟨_, (ok.sub a _ e).2, rfl, n, rfl⟩
/-- the name x stands at the value v -/
noncomputable def VarAt (env : Env) (h : Heap) (x : Str) (v : Value) : Prop :=
  (env.kindOf x = some .local ∧ ∃ m, h.Ns env.locals m ∧ m x = some v) ∨
  ((env.kindOf x = some .cell ∨ env.kindOf x = some .free) ∧ ∃ c, env.cells.lookup x = some c ∧ h.IsCell c (some v))
noncomputable abbrev Sto := List (String × AV)
structure FrOK (env : Env) (fr : List Addr) : Prop where
  kind : env.scope.kind = .function
  glo : env.globals = mainGlobals
  bui : env.builtins = builtinsNs
  lfr : env.locals ∈ fr
  lc : ∀ x c, env.cells.lookup x = some c → c ≠ env.locals
  inj : ∀ x y c, env.cells.lookup x = some c → env.cells.lookup y = some c → x = y
noncomputable def MuAt (fr : List Addr) (F : Part) (s : Shared) : Option MC → Mu → Prop
  | some c, some a => 207 ≤ a ∧ F a = none ∧ a ∉ fr ∧ a < s.heap.objs.size ∧ MHas F s.heap a c
  | none, none => True
  | _, _ => False
structure Inv (w : World) (env : Env) (fr : List Addr) (mc : Option MC) (mu : Mu) (F : Part) (σ : Sto) (s : Shared) : Prop where
  ok : OK w F s
  fro : FrOK env fr
  fr0 : ∀ a ∈ fr, 207 ≤ a ∧ F a = none ∧ a < s.heap.objs.size
  mu0 : MuAt fr F s mc mu
  loc : ∃ m, s.heap.Ns env.locals m
  cel : ∀ x c, env.cells.lookup x = some c → 207 ≤ c ∧ (∀ l, mu = some l → c ≠ l) ∧ ∃ v, s.heap.IsCell c v
  vars : ∀ p ∈ σ, ∃ v, VarAt env s.heap (Str.ofString p.1) v ∧ RdM F mu v p.2
theorem ge_notTab {a : Addr} (h : 207 ≤ a) : a ∉ TAB := fun m => Nat.lt_irrefl _ (Nat.lt_of_lt_of_le (TAB_lt m) h)
theorem isCell_at {h h' : Heap} {c : Addr} {v : Option Value} (x : h.IsCell c v) (k : ∀ o, h.get? c = some o → h'.get? c = some o) : h'.IsCell c v :=
  let ⟨o, ho, hd⟩ := x; ⟨o, k o ho, hd⟩
theorem MHas.at {F F' : Part} {h h' : Heap} {a : Addr} {c : MC} (x : MHas F h a c) (hl : F.Le F') (k : ∀ o, h.get? a = some o → h'.get? a = some o) : MHas F' h' a c := by
  cases c with
  | list l => obtain ⟨xs, hp, r⟩ := x; exact ⟨xs, hp.at k, RdL.mono hl r⟩
  | obj P => obtain ⟨o, ho, hp⟩ := x; exact ⟨o, k o ho, hp⟩
  | thing t => obtain ⟨fd, d, od, es, n, x, h1, h2, h3, h4, h5, h6⟩ := x; exact ⟨fd, d, od, es, n, x, k _ h1, hl _ _ h2, h3, h4, h5, h6.mono hl⟩
section
variable {w : World} {env : Env} {fr : List Addr} {mc : Option MC} {mu : Mu} {F F' : Part} {σ : Sto} {s s' : Shared}
theorem Inv.nin (I : Inv w env fr mc mu F σ s) {T : List Addr} {G : List Nat} (x : FwG w T G F s F' s') {a : Addr} (hn : F a = none) (hlt : a < s.heap.objs.size) (hT : a ∉ T) : F' a = none := by
  cases e : F' a with
  | none => rfl
  | some o =>
    rcases x.new a o e with h | h | h
    · rw [hn] at h; cases h
    · exact absurd hlt (Nat.not_lt.mpr h)
    · exact absurd h hT
theorem Inv.stepT (I : Inv w env fr mc mu F σ s) {T : List Addr} {G : List Nat} (x : FwG w T G F s F' s') (hT : ∀ a ∈ T, a ∉ fr ∧ mu ≠ some a ∧ ∀ y, env.cells.lookup y ≠ some a) : Inv w env fr mc mu F' σ s' := by
  have hk : ∀ a, 207 ≤ a → a ∉ T → ∀ o, s.heap.get? a = some o → s'.heap.get? a = some o := fun a ha => x.heap a (ge_notTab ha)
  have hloc : 207 ≤ env.locals := (I.fr0 _ I.fro.lfr).1
  have hlT : env.locals ∉ T := fun m => (hT _ m).1 I.fro.lfr
  have hcT : ∀ y c, env.cells.lookup y = some c → c ∉ T := fun y c e m => (hT _ m).2.2 y e
  refine ⟨x.ok, I.fro, fun a ha => ?_, ?_, ?_, fun y c e => ?_, fun p hp => ?_⟩
  · obtain ⟨h1, h2, h3⟩ := I.fr0 a ha
    exact ⟨h1, I.nin x h2 h3 (fun m => (hT a m).1 ha), Nat.lt_of_lt_of_le h3 x.size⟩
  · have h := I.mu0
    cases mc <;> cases mu
    · trivial
    · exact h
    · exact h
    · obtain ⟨h1, h2, h3, h4, h5⟩ := h
      exact ⟨h1, I.nin x h2 h4 (fun m => (hT _ m).2.1 rfl), h3, Nat.lt_of_lt_of_le h4 x.size, h5.at x.le (hk _ h1 fun m => (hT _ m).2.1 rfl)⟩
  · obtain ⟨m, h⟩ := I.loc
    exact ⟨m, ns_at h (hk _ hloc hlT)⟩
  · obtain ⟨h1, h2, v, h3⟩ := I.cel y c e
    exact ⟨h1, h2, v, isCell_at h3 (hk c h1 (hcT y c e))⟩
  · obtain ⟨v, h1, h2⟩ := I.vars p hp
    refine ⟨v, ?_, h2.mono x.le⟩
    rcases h1 with ⟨hk1, m, hm, e⟩ | ⟨hk1, c, hc, hcell⟩
    · exact .inl ⟨hk1, m, ns_at hm (hk _ hloc hlT), e⟩
    · exact .inr ⟨hk1, c, hc, isCell_at hcell (hk c (I.cel _ c hc).1 (hcT _ c hc))⟩
theorem Inv.step (I : Inv w env fr mc mu F σ s) {G : List Nat} (x : FwG w [] G F s F' s') : Inv w env fr mc mu F' σ s' := I.stepT x fun _ m => nomatch m
end
noncomputable def Ev (w : World) (n : Nat) (env : Env) (fr : List Addr) (mc : Option MC) (σ : Sto) (e : Expr) (v : AV) : Prop :=
  ∀ A, Lim n A → ∀ F s E mu, Inv w env fr mc mu F σ s → wpAny (model prog w) A (eval e env) (fun x s' => ∃ F', Fw w [] F s F' s' ∧ RdM F' mu x v) E s
noncomputable def Et (w : World) (n : Nat) (env : Env) (fr : List Addr) (mc : Option MC) (σ : Sto) (e : Expr) (b : Bool) : Prop :=
  ∀ A, Lim n A → ∀ F s E mu, Inv w env fr mc mu F σ s → wpAny (model prog w) A (isTrue e env (eval e env)) (fun x s' => x = b ∧ ∃ F', Fw w [] F s F' s') E s
section
variable {w : World} {n : Nat} {env : Env} {fr : List Addr} {mc : Option MC} {σ : Sto}
theorem Ev.of {e : Expr} {v u : AV} (h : Ev w n env fr mc σ e v) (q : v = u) : Ev w n env fr mc σ e u := q ▸ h
theorem Et.of {e : Expr} {v u : Bool} (h : Et w n env fr mc σ e v) (q : v = u) : Et w n env fr mc σ e u := q ▸ h
/-- evaluate, then use -/
theorem Ev.use {e : Expr} {v : AV} (h : Ev w n env fr mc σ e v) {A : Around} (hA : Lim n A) {F₀ F : Part} {s₀ s : Shared} {E : Value → Shared → Prop} {Q : Value → Shared → Prop} {mu : Mu}
    (I : Inv w env fr mc mu F σ s) (x : Fw w [] F₀ s₀ F s) (hQ : ∀ v' s' F', Inv w env fr mc mu F' σ s' → Fw w [] F₀ s₀ F' s' → F.Le F' → RdM F' mu v' v → Q v' s') : wpAny (model prog w) A (eval e env) Q E s :=
  wpAny_mono (h A hA F s E mu I) (fun v' s' ⟨F', hw, hr⟩ => hQ v' s' F' (I.step hw) (x.trans hw) hw.le hr) fun _ _ y => y
theorem Ev.cint {i : Int} {k : Nat} {pos : Pos} : Ev w n env fr mc σ (.Constant (.int i) k pos) (.int i) := fun _ _ F s _ _ I =>
  wpAny_Constant_int ⟨F, Fw.toks I.ok _, .inl (.int ..)⟩
theorem Ev.cstr {i : Str} {k : Nat} {pos : Pos} : Ev w n env fr mc σ (.Constant (.str i) k pos) (.str i) := fun _ _ F s _ _ I =>
  wpAny_Constant_str ⟨F, Fw.toks I.ok _, .inl (.str ..)⟩
theorem Ev.cnone {k : Nat} {pos : Pos} : Ev w n env fr mc σ (.Constant .none k pos) .none := fun _ _ F s _ _ I =>
  wpAny_Constant_none ⟨F, Fw.refl I.ok, .inl .none⟩
theorem Ev.var {x : String} {v : AV} {pos : Pos} (hm : (x, v) ∈ σ) (hd : (Str.ofString x == ("__debug__" : Str)) = false := by decide) (hc : (Str.ofString x == ("__classdict__" : Str)) = false := by decide) :
    Ev w n env fr mc σ (.Name (Str.ofString x) pos) v := fun A _ F s E _ I => by
  obtain ⟨val, hv, hr⟩ := I.vars _ hm
  refine wpAny_Name ?_ hd
  rcases hv with ⟨hk, m, hm, e⟩ | ⟨hk | hk, c, hc', hcell⟩
  · exact wpAny_loadName_local I.fro.kind hk hm e ⟨F, Fw.refl I.ok, hr⟩
  · exact wpAny_loadName_cell I.fro.kind hk hc' hcell ⟨F, Fw.refl I.ok, hr⟩
  · exact wpAny_loadName_free I.fro.kind hk hc' hcell ⟨F, Fw.refl I.ok, hr⟩ hc
theorem Ev.glob {x : Str} {v : Value} {pos : Pos} (hk : env.kindOf x = some .globalImplicit) (hv : nsIn (KF w) mainGlobals x = some (some v)) (hd : (x == ("__debug__" : Str)) = false := by decide) :
    Ev w n env fr mc σ (.Name x pos) (.raw v) := fun A _ F s E _ I => by
  refine wpAny_Name ?_ hd
  rw [loadName_read I.fro.kind hk]
  obtain ⟨mg, hg⟩ := I.ok.glo
  exact loadGlobal_global (by rw [I.fro.glo]; exact hg) (mg_of I.ok.K hg hv) ⟨F, Fw.refl I.ok, .inl (.raw v)⟩
theorem Ev.boot {x : Str} {v : Value} {pos : Pos} (hk : env.kindOf x = some .globalImplicit) (hv : nsIn (KF w) mainGlobals x = some none) (hb : bootBuiltins x = some v) (hn : x ≠ "__name__" := by decide)
    (hd : (x == ("__debug__" : Str)) = false := by decide) : Ev w n env fr mc σ (.Name x pos) (.raw v) := fun A _ F s E _ I => by
  refine wpAny_Name ?_ hd
  rw [loadName_read I.fro.kind hk]
  obtain ⟨mg, hg⟩ := I.ok.glo
  obtain ⟨mb, hb', hbb⟩ := I.ok.bui
  exact loadGlobal_builtin (by rw [I.fro.glo]; exact hg) (mg_none_of I.ok.K hg hv) (by rw [I.fro.bui]; exact hb') ((hbb x hn).trans hb) ⟨F, Fw.refl I.ok, .inl (.raw v)⟩
end
end Mine
namespace Mine
open PySem PySem.Calls PyProof.Rows PySem.W
/-- an operation of two values: what it gives -/
noncomputable def Op2 (w : World) (n : Nat) (t : Value → Value → Sem Value) (a b c : AV) : Prop :=
  ∀ A, Lim n A → ∀ F s E mu x y, OK w F s → RdM F mu x a → RdM F mu y b → wpAny (model prog w) A (t x y) (fun z s' => ∃ F', Fw w [] F s F' s' ∧ Rd F' z c) E s
section
variable {w : World} {n : Nat} {env : Env} {fr : List Addr} {mc : Option MC} {σ : Sto} {i j : Int}
theorem Ev.bin {op : Operator} {l r : Expr} {pos : Pos} {a b c : AV} (hl : Ev w n env fr mc σ l a) (hr : Ev w n env fr mc σ r b) (ho : Op2 w n (binaryOp op) a b c) :
    Ev w n env fr mc σ (.BinOp l op r pos) c := fun A hA F s E mu I =>
  wpAny_BinOp (hl.use hA I (Fw.refl I.ok) fun x s₁ F₁ I₁ W₁ L₁ R₁ => hr.use hA I₁ W₁ fun y s₂ F₂ I₂ W₂ L₂ R₂ =>
    wpAny_mono (ho A hA F₂ s₂ E mu x y I₂.ok (R₁.mono L₂) R₂) (fun z s₃ ⟨F₃, W₃, R₃⟩ => ⟨F₃, W₂.trans W₃, .inl R₃⟩) fun _ _ h => h)
theorem Ev.cmp {op : CmpOp} {l r : Expr} {pos : Pos} {a b c : AV} (hl : Ev w n env fr mc σ l a) (hr : Ev w n env fr mc σ r b) (ho : Op2 w n (compareOp op) a b c) (hm : behindInMarks op r = false := by with_unfolding_all rfl) :
    Ev w n env fr mc σ (.Compare l [op] [r] pos) c := fun A hA F s E mu I =>
  wpAny_Compare1 (hl.use hA I (Fw.refl I.ok) fun x s₁ F₁ I₁ W₁ L₁ R₁ => hr.use hA I₁ W₁ fun y s₂ F₂ I₂ W₂ L₂ R₂ =>
    wpAny_mono (ho A hA F₂ s₂ E mu x y I₂.ok (R₁.mono L₂) R₂) (fun z s₃ ⟨F₃, W₃, R₃⟩ => ⟨F₃, W₂.trans W₃, .inl R₃⟩) fun _ _ h => h) hm
theorem Et.cmp {op : CmpOp} {l r : Expr} {pos : Pos} {a b : AV} {c : Bool} (hl : Ev w n env fr mc σ l a) (hr : Ev w n env fr mc σ r b) (ho : Op2 w n (compareOp op) a b (.bool c)) (hm : behindInMarks op r = false := by with_unfolding_all rfl) :
    Et w n env fr mc σ (.Compare l [op] [r] pos) c := fun A hA F s E mu I =>
  wpAny_isTrue_Compare1 (hl.use hA I (Fw.refl I.ok) fun x s₁ F₁ I₁ W₁ L₁ R₁ => hr.use hA I₁ W₁ fun y s₂ F₂ I₂ W₂ L₂ R₂ =>
    wpAny_mono (ho A hA F₂ s₂ E mu x y I₂.ok (R₁.mono L₂) R₂) (fun z s₃ ⟨F₃, W₃, R₃⟩ => by
      cases R₃; exact wpAny_truthy_bool ⟨rfl, F₃, W₂.trans W₃⟩) fun _ _ h => h) hm
/-! ints -/
theorem Op2.add : Op2 w n (binaryOp .Add) (.int i) (.int j) (.int (i + j)) := fun A hA F s E mu x y ok hx hy => by
  obtain ⟨_, rfl⟩ := hx.int; obtain ⟨_, rfl⟩ := hy.int
  exact PyProof.Rows.add_int ⟨F, Fw.toks ok _, .int ..⟩
theorem Op2.sub : Op2 w n (binaryOp .Sub) (.int i) (.int j) (.int (i - j)) := fun A hA F s E mu x y ok hx hy => by
  obtain ⟨_, rfl⟩ := hx.int; obtain ⟨_, rfl⟩ := hy.int
  exact PyProof.Rows.sub_int ⟨F, Fw.toks ok _, .int ..⟩
theorem Op2.mul (hm : IntMulOk i j) : Op2 w n (binaryOp .Mult) (.int i) (.int j) (.int (i * j)) := fun A hA F s E mu x y ok hx hy => by
  obtain ⟨_, rfl⟩ := hx.int; obtain ⟨_, rfl⟩ := hy.int
  exact PyProof.Rows.mul_int ⟨F, Fw.toks ok _, .int ..⟩ hm
theorem Op2.mod (hj : j ≠ 0) : Op2 w n (binaryOp .Mod) (.int i) (.int j) (.int (i.fmod j)) := fun A hA F s E mu x y ok hx hy => by
  obtain ⟨_, rfl⟩ := hx.int; obtain ⟨_, rfl⟩ := hy.int
  exact PyProof.Rows.mod_int hj ⟨F, Fw.toks ok _, .int ..⟩
theorem Op2.fdiv (hj : j ≠ 0) (hl : j.natAbs.log2 < 9000) : Op2 w n (binaryOp .FloorDiv) (.int i) (.int j) (.int (i.fdiv j)) := fun A hA F s E mu x y ok hx hy => by
  obtain ⟨_, rfl⟩ := hx.int; obtain ⟨_, rfl⟩ := hy.int
  exact PyProof.Rows.floordiv_int hj ⟨F, Fw.toks ok _, .int ..⟩ (.inl (PyProof.noPylong_of_log2 hl))
theorem Op2.shr (hj : 0 ≤ j) : Op2 w n (binaryOp .RShift) (.int i) (.int j) (.int (i.fdiv (2 ^ j.toNat))) := fun A hA F s E mu x y ok hx hy => by
  obtain ⟨_, rfl⟩ := hx.int; obtain ⟨_, rfl⟩ := hy.int
  exact PyProof.Rows.rshift_int hj ⟨F, Fw.toks ok _, .int ..⟩
theorem Op2.shl (hj : 0 ≤ j) (hs : (Builtin.Int.intBits i : Int) + j ≤ 2 ^ 27) : Op2 w n (binaryOp .LShift) (.int i) (.int j) (.int (i * 2 ^ j.toNat)) := fun A hA F s E mu x y ok hx hy => by
  obtain ⟨_, rfl⟩ := hx.int; obtain ⟨_, rfl⟩ := hy.int
  exact PyProof.Rows.lshift_int hj hs ⟨F, Fw.toks ok _, .int ..⟩
theorem Op2.pow (hj : 0 ≤ j) (hs : (Builtin.Int.intBits i : Int) * j ≤ 2 ^ 27) : Op2 w n (binaryOp .Pow) (.int i) (.int j) (.int (i ^ j.toNat)) := fun A hA F s E mu x y ok hx hy => by
  obtain ⟨_, rfl⟩ := hx.int; obtain ⟨_, rfl⟩ := hy.int
  exact PyProof.Rows.pow_int hj hs ⟨F, Fw.toks ok _, .int ..⟩
theorem Op2.band : Op2 w n (binaryOp .BitAnd) (.int i) (.int j) (.int (Builtin.bitAnd i j)) := fun A hA F s E mu x y ok hx hy => by
  obtain ⟨_, rfl⟩ := hx.int; obtain ⟨_, rfl⟩ := hy.int
  exact PyProof.Rows.and_int ⟨F, Fw.toks ok _, .int ..⟩
theorem Op2.bxor : Op2 w n (binaryOp .BitXor) (.int i) (.int j) (.int (Builtin.bitXor i j)) := fun A hA F s E mu x y ok hx hy => by
  obtain ⟨_, rfl⟩ := hx.int; obtain ⟨_, rfl⟩ := hy.int
  exact PyProof.Rows.xor_int ⟨F, Fw.toks ok _, .int ..⟩
theorem Op2.eq : Op2 w n (compareOp .Eq) (.int i) (.int j) (.bool (i == j)) := fun A hA F s E mu x y ok hx hy => by
  obtain ⟨_, rfl⟩ := hx.int; obtain ⟨_, rfl⟩ := hy.int
  exact PySem.P.eq_int ⟨F, Fw.refl ok, .bool _⟩
theorem Op2.ne : Op2 w n (compareOp .NotEq) (.int i) (.int j) (.bool (i != j)) := fun A hA F s E mu x y ok hx hy => by
  obtain ⟨_, rfl⟩ := hx.int; obtain ⟨_, rfl⟩ := hy.int
  exact PySem.P.ne_int ⟨F, Fw.refl ok, .bool _⟩
theorem Op2.lt : Op2 w n (compareOp .Lt) (.int i) (.int j) (.bool (decide (i < j))) := fun A hA F s E mu x y ok hx hy => by
  obtain ⟨_, rfl⟩ := hx.int; obtain ⟨_, rfl⟩ := hy.int
  exact PySem.P.lt_int ⟨F, Fw.refl ok, .bool _⟩
theorem Op2.le : Op2 w n (compareOp .LtE) (.int i) (.int j) (.bool (decide (i ≤ j))) := fun A hA F s E mu x y ok hx hy => by
  obtain ⟨_, rfl⟩ := hx.int; obtain ⟨_, rfl⟩ := hy.int
  exact PySem.P.le_int ⟨F, Fw.refl ok, .bool _⟩
end
end Mine
namespace Mine
open PySem PySem.Calls PyProof.Rows PySem.W
/-- arguments, or the items of a display, from left to right -/
noncomputable def EvL (w : World) (n : Nat) (env : Env) (fr : List Addr) (mc : Option MC) (σ : Sto) (es : List Expr) (vs : List AV) : Prop :=
  ∀ pos, (backTo pos (starEach es env)).any (·.1) = false ∧ ∀ A, Lim n A → ∀ F s E mu, Inv w env fr mc mu F σ s →
    wpAny (model prog w) A (spliced (backTo pos (starEach es env))) (fun xs s' => ∃ F', Fw w [] F s F' s' ∧ RdL F' xs vs) E s
/-- what a def gives, for these arguments -/
noncomputable def Fn (w : World) (n : Nat) (f : Addr) (args : List AV) (v : AV) : Prop :=
  ∀ A, Lim n A → ∀ F s vs R, OK w F s → RdL F vs args → (∀ x s' F', Fw w [] F s F' s' → Rd F' x v → R (.ok (.ret x)) s') →
    codeAny (model prog w) A (.call (.ref f) ⟨vs, []⟩) R s
/-- what a call of a value gives, for these arguments -/
noncomputable def Fc (w : World) (n : Nat) (f : Value) (args : List AV) (v : AV) : Prop :=
  ∀ A, Lim n A → ∀ F s vs E, OK w F s → RdL F vs args → wpAny (model prog w) A (call f vs) (fun x s' => ∃ F', Fw w [] F s F' s' ∧ Rd F' x v) E s
section
variable {w : World} {n : Nat} {env : Env} {fr : List Addr} {mc : Option MC} {σ : Sto}
theorem Fn.fc {f : Addr} {args : List AV} {v : AV} (h : Fn w n f args v) : Fc w n (.ref f) args v := fun A hA F s vs E ok r =>
  wpAny_call (h A hA F s vs _ ok r fun x s' F' W R => ⟨F', W, R⟩)
theorem EvL.nil : EvL w n env fr mc σ [] [] := fun pos => ⟨rfl, fun A hA F s E mu I => spliced_nil ⟨F, Fw.refl I.ok, .nil⟩⟩
theorem EvL.cons {e : Expr} {es : List Expr} {v : AV} {vs : List AV} (h : Ev w n env fr mc σ e v) (hs : EvL w n env fr mc σ es vs) (hv : v ≠ .mu := by intro h; cases h)
    (he : starEach (e :: es) env = (false, eval e env) :: starEach es env := by rfl) : EvL w n env fr mc σ (e :: es) (v :: vs) := fun pos => by
  rw [he]
  refine ⟨by show (false || (backTo pos (starEach es env)).any (·.1)) = false; rw [(hs pos).1]; rfl, fun A hA F s E mu I => ?_⟩
  show wpAny _ _ (spliced ((false, eval e env) :: backTo pos (starEach es env))) _ _ _
  refine spliced_cons (h.use hA I (Fw.refl I.ok) fun x s₁ F₁ I₁ W₁ L₁ R₁ => ?_)
  exact wpAny_mono ((hs pos).2 A hA F₁ s₁ E mu I₁) (fun xs s₂ ⟨F₂, W₂, R₂⟩ => ⟨F₂, W₁.trans W₂, .cons ((R₁.mono W₂.le).rd hv) R₂⟩) fun _ _ y => y
theorem EvL.use {es : List Expr} {vs : List AV} (h : EvL w n env fr mc σ es vs) {A : Around} (hA : Lim n A) {pos : Pos} {F₀ F : Part} {s₀ s : Shared} {E : Value → Shared → Prop} {Q : List Value → Shared → Prop} {mu : Mu}
    (I : Inv w env fr mc mu F σ s) (x : Fw w [] F₀ s₀ F s) (hQ : ∀ v' s' F', Inv w env fr mc mu F' σ s' → Fw w [] F₀ s₀ F' s' → F.Le F' → RdL F' v' vs → Q v' s') :
    wpAny (model prog w) A (spliced (backTo pos (starEach es env))) Q E s :=
  wpAny_mono ((h pos).2 A hA F s E mu I) (fun v' s' ⟨F', hw, hr⟩ => hQ v' s' F' (I.step hw) (x.trans hw) hw.le hr) fun _ _ y => y
theorem evalArgs_any {M : Model} {A : Around} {E : Value → Shared → Prop} {s : Shared} {f : Value} {args : List (Bool × Sem Value)} {Q : Args → Shared → Prop} (hp : args.any (·.1) = false)
    (h : wpAny M A (spliced args) (fun vs s' => Q ⟨vs, []⟩ s') E s) : wpAny M A (evalArgs f true args []) Q E s := by
  cases args with
  | nil =>
    unfold evalArgs
    show wpAny M A (spliced [] >>= _) Q E s
    refine wpAny_bind (wpAny_mono h (fun vs s' h' => ?_) fun _ _ x => x)
    exact wpAny_bind (wpAny_pure (wpAny_holding (wpAny_bind (wpAny_pure (wpAny_bind (wpAny_pure (wpAny_pure h')))))))
  | cons x r =>
    obtain ⟨b, t⟩ := x
    have hb : b = false := by cases b <;> simp_all
    subst hb
    exact evalArgs_plain h
/-- a call of a def of the top -/
theorem Ev.calld {x : Str} {np pos : Pos} {es : List Expr} {f : Addr} {vs : List AV} {v : AV} {o : Obj} {fd : FuncData} (hf : Ev w n env fr mc σ (.Name x np) (.raw (.ref f))) (hs : EvL w n env fr mc σ es vs)
    (ho : (KF w).lookup f = some o) (hd : o.data = .func fd) (hc : Fc w n (.ref f) vs v) : Ev w n env fr mc σ (.Call (.Name x np) es [] pos) v := fun A hA F s E mu I => by
  refine wpAny_Call_NameR (hf.use hA I (Fw.refl I.ok) fun fv s₁ F₁ I₁ W₁ L₁ R₁ => ?_)
  obtain rfl := R₁.raw
  refine callWith_function (o := o) (fd := fd) (evalArgs_any (hs pos).1 (hs.use hA I₁ W₁ fun xs s₂ F₂ I₂ W₂ L₂ R₂ => ⟨⟨I₂.ok.K _ _ ho, hd⟩, ?_⟩))
  exact wpAny_mono (hc A hA F₂ s₂ xs E I₂.ok R₂) (fun x s₃ ⟨F₃, W₃, R₃⟩ => ⟨F₃, W₂.trans W₃, .inl R₃⟩) fun _ _ y => y
/-- a call of a built-in of the top -/
theorem Ev.callb {x : Str} {np pos : Pos} {es : List Expr} {f : String} {vs : List AV} {v : AV} (hf : Ev w n env fr mc σ (.Name x np) (.raw (.builtin f))) (hs : EvL w n env fr mc σ es vs)
    (hc : Fc w n (.builtin f) vs v) : Ev w n env fr mc σ (.Call (.Name x np) es [] pos) v := fun A hA F s E mu I => by
  refine wpAny_Call_NameR (hf.use hA I (Fw.refl I.ok) fun fv s₁ F₁ I₁ W₁ L₁ R₁ => ?_)
  obtain rfl := R₁.raw
  refine callWith_builtin (hs pos).1 (evalArgs_any (hs pos).1 (hs.use hA I₁ W₁ fun xs s₂ F₂ I₂ W₂ L₂ R₂ => ?_))
  exact wpAny_mono (hc A hA F₂ s₂ xs E I₂.ok R₂) (fun x s₃ ⟨F₃, W₃, R₃⟩ => ⟨F₃, W₂.trans W₃, .inl R₃⟩) fun _ _ y => y
/-- a call of a built-in type of the top -/
theorem Ev.callt {x : Str} {np pos : Pos} {es : List Expr} {f : String} {vs : List AV} {v : AV} (hf : Ev w n env fr mc σ (.Name x np) (.raw (.type f))) (hs : EvL w n env fr mc σ es vs)
    (hc : Fc w n (.type f) vs v) : Ev w n env fr mc σ (.Call (.Name x np) es [] pos) v := fun A hA F s E mu I => by
  refine wpAny_Call_NameR (hf.use hA I (Fw.refl I.ok) fun fv s₁ F₁ I₁ W₁ L₁ R₁ => ?_)
  obtain rfl := R₁.raw
  refine PyProof.Rows.callWith_type (hs pos).1 (evalArgs_any (hs pos).1 (hs.use hA I₁ W₁ fun xs s₂ F₂ I₂ W₂ L₂ R₂ => ?_))
  exact wpAny_mono (hc A hA F₂ s₂ xs E I₂.ok R₂) (fun x s₃ ⟨F₃, W₃, R₃⟩ => ⟨F₃, W₂.trans W₃, .inl R₃⟩) fun _ _ y => y
theorem Ev.tup {es : List Expr} {k : Nat} {pos : Pos} {vs : List AV} (hs : EvL w n env fr mc σ es vs) (hl : vs.length ≤ 1000) : Ev w n env fr mc σ (.Tuple es k pos) (.tuple vs) := fun A hA F s E mu I =>
  wpAny_Tuple (hs.use hA I (Fw.refl I.ok) fun xs s₁ F₁ I₁ W₁ L₁ R₁ => ⟨by rw [R₁.length]; exact Nat.le_trans hl (by decide),
    F₁.put _ _, W₁.trans (Fw.make I₁.ok (tupO xs.toArray 0) rfl s₁.toks), .inl (.tuple (Part.put_self ..) (R₁.mono (Part.le_put (I₁.ok.old (Nat.le_refl _)))))⟩)
theorem Ev.lst {es : List Expr} {pos : Pos} {vs : List AV} (hs : EvL w n env fr mc σ es vs) (hl : vs.length ≤ 1000) : Ev w n env fr mc σ (.List es pos) (.list vs) := fun A hA F s E mu I =>
  wpAny_List (hs.use hA I (Fw.refl I.ok) fun xs s₁ F₁ I₁ W₁ L₁ R₁ => ⟨by rw [R₁.length]; exact Nat.le_trans hl (by decide),
    F₁.put _ _, W₁.trans (Fw.make I₁.ok (listO xs.toArray 0) rfl s₁.toks), .inl (.list (Part.put_self ..) (R₁.mono (Part.le_put (I₁.ok.old (Nat.le_refl _)))))⟩)
end
end Mine
namespace Mine
open PySem PySem.Calls PyProof.Rows PySem.W
theorem char_toNat_inj {a b : Char} (h : a.toNat = b.toNat) : a = b := by
  apply Char.ext
  exact UInt32.toNat_inj.mp h
theorem ofString_inj {x y : String} (h : Str.ofString x = Str.ofString y) : x = y := by
  rw [Str.ofString_eq_toList, Str.ofString_eq_toList] at h
  have h1 : (x.toList.map Char.toNat).toArray = (y.toList.map Char.toNat).toArray := Str.mk.inj h
  have h2 : x.toList.map Char.toNat = y.toList.map Char.toNat := by simpa using congrArg Array.toList h1
  have h3 : x.toList = y.toList := by
    generalize x.toList = l at h2
    generalize y.toList = m at h2
    induction l generalizing m with
    | nil => cases m with
      | nil => rfl
      | cons b m => simp at h2
    | cons a l ih => cases m with
      | nil => simp at h2
      | cons b m =>
        simp only [List.map_cons, List.cons.injEq] at h2
        rw [char_toNat_inj h2.1, ih m h2.2]
  exact String.toList_inj.mp h3
noncomputable def upd (σ : Sto) (x : String) (a : AV) : Sto := (x, a) :: σ.filter fun p => p.1 != x
theorem mem_upd {σ : Sto} {x : String} {a : AV} : (x, a) ∈ upd σ x a := List.mem_cons_self
theorem mem_upd' {σ : Sto} {x : String} {a : AV} {p : String × AV} (h : p ∈ σ) (hn : (p.1 != x) = true) : p ∈ upd σ x a := List.mem_cons_of_mem _ (List.mem_filter.mpr ⟨h, hn⟩)
theorem forall_cons {σ τ : Sto} {p : String × AV} (h : p ∈ τ) (hs : ∀ q ∈ σ, q ∈ τ) : ∀ q ∈ p :: σ, q ∈ τ := List.forall_mem_cons.mpr ⟨h, hs⟩
theorem forall_nil {τ : Sto} : ∀ q ∈ ([] : Sto), q ∈ τ := fun _ m => nomatch m
noncomputable def Wr (env : Env) (fr : List Addr) (y : Str) : Prop := env.kindOf y = some .local ∨ (env.kindOf y = some .cell ∧ ∃ c, env.cells.lookup y = some c ∧ c ∈ fr)
theorem ns_same {h : Heap} {a : Addr} {m m' : Str → Option Value} (x : h.Ns a m) (y : h.Ns a m') (n : Str) : m n = m' n := by
  obtain ⟨o, es, ep, e, d, _, f⟩ := x
  obtain ⟨o', es', ep', e', d', _, f'⟩ := y
  rw [e] at e'; cases e'
  rw [d] at d'; cases d'
  rw [← f, ← f']
section
variable {w : World} {n : Nat} {env : Env} {fr : List Addr} {mc : Option MC} {mu : Mu} {F : Part} {σ : Sto} {s : Shared} {A : Around} {E : Value → Shared → Prop}
theorem Inv.store (I : Inv w env fr mc mu F σ s) {x : String} {v : Value} {a : AV} {Q : Unit → Shared → Prop} (hw : Wr env fr (Str.ofString x)) (hr : RdM F mu v a)
    (hQ : ∀ s', Inv w env fr mc mu F (upd σ x a) s' → Fw w fr F s F s' → s.heap.objs.size = s'.heap.objs.size → Q () s') : wpAny (model prog w) A (storeName env (Str.ofString x) v) Q E s := by
  have hloc : 207 ≤ env.locals := (I.fr0 _ I.fro.lfr).1
  have gen : ∀ (b : Addr) (h' : Heap) (tk : Nat), b ∈ fr → Heap.SameBut b s.heap h' → (∃ m, h'.Ns env.locals m) → (∀ y c, env.cells.lookup y = some c → ∃ v, h'.IsCell c v) →
      VarAt env h' (Str.ofString x) v → (∀ p ∈ σ, p.1 ≠ x → ∀ u, VarAt env s.heap (Str.ofString p.1) u → VarAt env h' (Str.ofString p.1) u) → Q () { s with heap := h', toks := tk } := by
    intro b h' tk hb hs h1 h2 h3 h4
    have hF : ∀ a ∈ [b], 207 ≤ a ∧ F a = none := fun a ha => by
      obtain rfl : a = b := by simpa using ha
      exact ⟨(I.fr0 _ hb).1, (I.fr0 _ hb).2.1⟩
    have W : Fw w [b] F s F { s with heap := h', toks := tk } := Fw.change I.ok hF (fun a ha o e => (hs.2 a (fun e => ha (by simp [e]))).trans e) (by show s.heap.objs.size ≤ h'.objs.size; rw [hs.1]; exact Nat.le_refl _) rfl rfl
    refine hQ _ ⟨W.ok, I.fro, fun a ha => ?_, ?_, h1, fun y c e => ?_, fun p hp => ?_⟩ (W.mono fun a ha => List.mem_singleton.mp ha ▸ hb) hs.1.symm
    · show _ ∧ _ ∧ a < h'.objs.size
      rw [hs.1]; exact I.fr0 a ha
    · have h := I.mu0
      cases mc <;> cases mu
      · trivial
      · exact h
      · exact h
      · obtain ⟨q1, q2, q3, q4, q5⟩ := h
        refine ⟨q1, q2, q3, by show _ < h'.objs.size; rw [hs.1]; exact q4, q5.at (.refl F) fun o e => (hs.2 _ (fun (e : _ = b) => q3 (by rw [e]; exact hb))).trans e⟩
    · exact ⟨(I.cel y c e).1, (I.cel y c e).2.1, h2 y c e⟩
    · rcases List.mem_cons.mp hp with rfl | hp
      · exact ⟨v, h3, hr⟩
      · obtain ⟨hp, hne⟩ := List.mem_filter.mp hp
        have hne : p.1 ≠ x := by simpa using hne
        obtain ⟨u, hu, hr'⟩ := I.vars p hp
        exact ⟨u, h4 p hp hne u hu, hr'⟩
  rcases hw with hk | ⟨hk, c, hc, hcf⟩
  · obtain ⟨m, hm⟩ := I.loc
    refine wpAny_storeName_local hk hm (fun h' hn hs => gen env.locals h' _ I.fro.lfr hs ⟨_, hn⟩ (fun y c e => ?_) (.inl ⟨hk, _, hn, if_pos rfl⟩) fun p hp hne u hu => ?_) ?_
    · obtain ⟨_, _, u, hu⟩ := I.cel y c e
      exact ⟨u, hu.sameBut hs (I.fro.lc y c e)⟩
    · rcases hu with ⟨q, m', hm', e⟩ | ⟨q, c, hc, hcell⟩
      · refine .inl ⟨q, _, hn, ?_⟩
        show (if Str.ofString p.1 = Str.ofString x then some v else m (Str.ofString p.1)) = _
        rw [if_neg fun e => hne (ofString_inj e), ns_same hm hm', e]
      · exact .inr ⟨q, c, hc, hcell.sameBut hs (I.fro.lc _ c hc)⟩
    · rw [I.fro.kind]; rfl
  · obtain ⟨_, _, u, hu⟩ := I.cel _ c hc
    refine wpAny_storeName_cell I.fro.kind hk hc hu fun h' hcell hs => gen c h' _ hcf hs ?_ (fun y c' e => ?_) (.inr ⟨.inl hk, c, hc, hcell⟩) fun p hp hne u hu => ?_
    · obtain ⟨m, hm⟩ := I.loc
      exact ⟨m, ns_at hm fun o e => (hs.2 _ fun q => I.fro.lc _ c hc q.symm).trans e⟩
    · by_cases hcc : c' = c
      · subst hcc; exact ⟨_, hcell⟩
      · obtain ⟨_, _, u', hu'⟩ := I.cel y c' e
        exact ⟨u', hu'.sameBut hs hcc⟩
    · rcases hu with ⟨q, m', hm', e⟩ | ⟨q, c', hc', hcell'⟩
      · exact .inl ⟨q, m', ns_at hm' fun o e => (hs.2 _ fun q => I.fro.lc _ c hc q.symm).trans e, e⟩
      · refine .inr ⟨q, c', hc', hcell'.sameBut hs fun e => hne ?_⟩
        subst e
        exact ofString_inj (I.fro.inj _ _ _ hc' hc)
end
end Mine
namespace Mine
open PySem PySem.Calls PyProof.Rows PySem.W
inductive Out where
  | nxt (mc : Option MC) (σ : Sto)
  | ret (v : AV)
  | retm (mc : Option MC) (σ : Sto) (v : AV)
noncomputable def PostO (w : World) (env : Env) (fr : List Addr) (mu : Mu) (s : Shared) : Out → Flow → Part → Shared → Prop
  | .nxt mc' σ', fl, F', s' => fl = .next ∧ ∃ mu', Inv w env fr mc' mu' F' σ' s' ∧ ∀ a, mu' = some a → mu = some a ∨ s.heap.objs.size ≤ a
  | .ret v, fl, F', s' => ∃ x, fl = .ret x ∧ Rd F' x v
  | .retm mc' σ' v, fl, F', s' => ∃ x, fl = .ret x ∧ Rd F' x v ∧ ∃ mu', Inv w env fr mc' mu' F' σ' s' ∧ ∀ a, mu' = some a → mu = some a ∨ s.heap.objs.size ≤ a
noncomputable def Ex (w : World) (n : Nat) (env : Env) (fr : List Addr) (mc : Option MC) (σ : Sto) (ss : List Stmt) (o : Out) : Prop :=
  ∀ A, Lim n A → ∀ F s E mu, Inv w env fr mc mu F σ s → wpAny (model prog w) A (execs ss env) (fun fl s' => ∃ F', Fw w (fr ++ mu.toList) F s F' s' ∧ PostO w env fr mu s o fl F' s') E s
noncomputable def Es (w : World) (n : Nat) (env : Env) (fr : List Addr) (mc : Option MC) (σ : Sto) (st : Stmt) (o : Out) : Prop :=
  ∀ A, Lim n A → ∀ F s E mu, Inv w env fr mc mu F σ s → wpAny (model prog w) A (exec st env) (fun fl s' => ∃ F', Fw w (fr ++ mu.toList) F s F' s' ∧ PostO w env fr mu s o fl F' s') E s
theorem muStep {fr : List Addr} {mu mu' : Mu} {n : Nat} (h : ∀ a, mu' = some a → mu = some a ∨ n ≤ a) : ∀ a ∈ fr ++ mu'.toList, a ∈ fr ++ mu.toList ∨ n ≤ a := fun a m => by
  rcases List.mem_append.mp m with m | m
  · exact .inl (List.mem_append.mpr (.inl m))
  · have : mu' = some a := by simpa using m
    rcases h a this with h | h
    · exact .inl (List.mem_append.mpr (.inr (by simp [h])))
    · exact .inr h
section
variable {w : World} {n : Nat} {env : Env} {fr : List Addr} {mc mc' : Option MC} {σ σ' : Sto}
theorem Ex.nil : Ex w n env fr mc σ [] (.nxt mc σ) := fun A hA F s E mu I => wpAny_execs_nil ⟨F, (Fw.refl I.ok).wide, rfl, mu, I, fun _ e => .inl e⟩
theorem Ex.cons {st : Stmt} {ss : List Stmt} {o : Out} (h : Es w n env fr mc σ st (.nxt mc' σ')) (hs : Ex w n env fr mc' σ' ss o) : Ex w n env fr mc σ (st :: ss) o := fun A hA F s E mu I =>
  wpAny_execs_cons (wpAny_mono (h A hA F s E mu I) (fun fl s₁ ⟨F₁, W₁, hfl, mu₁, I₁, hm⟩ => by
    subst hfl
    refine wpAny_mono (hs A hA F₁ s₁ E mu₁ I₁) (fun fl s₂ ⟨F₂, W₂, hp⟩ => ⟨F₂, W₁.trans' W₂ (muStep hm) (fun _ m => nomatch m), ?_⟩) fun _ _ y => y
    cases o with
    | ret v => exact hp
    | retm mc'' σ'' v =>
      obtain ⟨x, hf, hr, mu₂, I₂, hm₂⟩ := hp
      refine ⟨x, hf, hr, mu₂, I₂, fun a e => ?_⟩
      rcases hm₂ a e with h | h
      · exact hm a h
      · exact .inr (Nat.le_trans W₁.size h)
    | nxt mc'' σ'' =>
      obtain ⟨hfl, mu₂, I₂, hm₂⟩ := hp
      refine ⟨hfl, mu₂, I₂, fun a e => ?_⟩
      rcases hm₂ a e with h | h
      · exact hm a h
      · exact .inr (Nat.le_trans W₁.size h)) fun _ _ y => y)
theorem Ex.stop {st : Stmt} {ss : List Stmt} {v : AV} (h : Es w n env fr mc σ st (.ret v)) : Ex w n env fr mc σ (st :: ss) (.ret v) := fun A hA F s E mu I =>
  wpAny_execs_cons (wpAny_mono (h A hA F s E mu I) (fun fl s₁ ⟨F₁, W₁, x, hfl, hr⟩ => by subst hfl; exact ⟨F₁, W₁, x, rfl, hr⟩) fun _ _ y => y)
theorem Ex.stopm {st : Stmt} {ss : List Stmt} {v : AV} (h : Es w n env fr mc σ st (.retm mc' σ' v)) : Ex w n env fr mc σ (st :: ss) (.retm mc' σ' v) := fun A hA F s E mu I =>
  wpAny_execs_cons (wpAny_mono (h A hA F s E mu I) (fun fl s₁ ⟨F₁, W₁, x, hfl, hr⟩ => by subst hfl; exact ⟨F₁, W₁, x, rfl, hr⟩) fun _ _ y => y)
theorem Es.retm0 {pos : Pos} : Es w n env fr mc σ (.Return none pos) (.retm mc σ .none) := fun A hA F s E mu I =>
  wpAny_Return_none ⟨F, (Fw.refl I.ok).wide, .none, rfl, .none, mu, I, fun _ e => .inl e⟩
theorem Ex.one {st : Stmt} (h : Es w n env fr mc σ st (.nxt mc' σ')) : Ex w n env fr mc σ [st] (.nxt mc' σ') := Ex.cons h Ex.nil
/-- forget, or say otherwise -/
theorem Inv.weaken {mu : Mu} {F : Part} {s : Shared} (I : Inv w env fr mc mu F σ s) (h : ∀ p ∈ σ', p ∈ σ) : Inv w env fr mc mu F σ' s :=
  { I with vars := fun p hp => I.vars p (h p hp) }
theorem Ex.weaken {ss : List Stmt} {o : Out} (h : Ex w n env fr mc σ' ss o) (hσ : ∀ p ∈ σ', p ∈ σ) : Ex w n env fr mc σ ss o := fun A hA F s E mu I => h A hA F s E mu (I.weaken hσ)
theorem Ex.nxtw {ss : List Stmt} {σ'' : Sto} (h : Ex w n env fr mc σ ss (.nxt mc' σ')) (hσ : ∀ p ∈ σ'', p ∈ σ') : Ex w n env fr mc σ ss (.nxt mc' σ'') := fun A hA F s E mu I =>
  wpAny_mono (h A hA F s E mu I) (fun fl s' ⟨F', W, hf, mu', I', hm⟩ => ⟨F', W, hf, mu', I'.weaken hσ, hm⟩) fun _ _ y => y
theorem Es.assign {x : String} {p' : Pos} {e : Expr} {pos : Pos} {v : AV} (h : Ev w n env fr mc σ e v) (hw : Wr env fr (Str.ofString x)) (hs : swapsWith e (some (.Name (Str.ofString x) p')) pos.line env = pure false := by rfl) :
    Es w n env fr mc σ (.Assign [.Name (Str.ofString x) p'] e pos) (.nxt mc (upd σ x v)) := fun A hA F s E mu I =>
  wpAny_Assign_Name (h.use hA I (Fw.refl I.ok) fun v' s₁ F₁ I₁ W₁ L₁ R₁ => I₁.store hw R₁ fun s₂ I₂ W₂ hz =>
    ⟨F₁, (W₁.wide (T := fr ++ mu.toList)).trans (W₂.mono fun a m => List.mem_append.mpr (.inl m)), rfl, mu, I₂, fun _ e => .inl e⟩) hs
theorem Es.ret {e : Expr} {pos : Pos} {v : AV} (h : Ev w n env fr mc σ e v) (hv : v ≠ .mu := by intro h; cases h) : Es w n env fr mc σ (.Return (some e) pos) (.ret v) := fun A hA F s E mu I =>
  wpAny_Return_some (h.use hA I (Fw.refl I.ok) fun v' s₁ F₁ I₁ W₁ L₁ R₁ => ⟨F₁, W₁.wide, v', rfl, R₁.rd hv⟩)
/-- the list that was built goes out, and is frozen -/
theorem Es.retmu {e : Expr} {pos : Pos} {l : List AV} (h : Ev w n env fr (some (.list l)) σ e .mu) : Es w n env fr (some (.list l)) σ (.Return (some e) pos) (.ret (.list l)) := fun A hA F s E mu I =>
  wpAny_Return_some (h.use hA I (Fw.refl I.ok) fun v' s₁ F₁ I₁ W₁ L₁ R₁ => by
    rcases R₁ with R₁ | ⟨_, b, rfl, rfl⟩
    · cases R₁
    · obtain ⟨h1, h2, h3, h4, xs, ⟨k, hp⟩, hr⟩ := I₁.mu0
      refine ⟨F₁.put b (listO xs k), (W₁.wide (T := fr ++ (some b).toList)).freeze h2 (ge_notTab h1) (.inr (by simp)) hp, .ref b, rfl, .list (Part.put_self ..) (hr.mono (Part.le_put h2))⟩)
theorem Es.ift {test : Expr} {b o : List Stmt} {pos : Pos} {out : Out} (h : Et w n env fr mc σ test true) (hb : Ex w n env fr mc σ b out) : Es w n env fr mc σ (.If test b o pos) out := fun A hA F s E mu I =>
  wpAny_If (wpAny_mono (h A hA F s E mu I) (fun r s₁ ⟨hr, F₁, W₁⟩ => by
    subst hr
    refine wpAny_mono (hb A hA F₁ s₁ E mu (I.step W₁)) (fun fl s₂ ⟨F₂, W₂, hp⟩ => ⟨F₂, (W₁.wide (T := fr ++ mu.toList)).trans W₂, ?_⟩) fun _ _ y => y
    cases out with
    | ret v => exact hp
    | retm mc'' σ'' v =>
      obtain ⟨x, hf, hr, mu₂, I₂, hm₂⟩ := hp
      exact ⟨x, hf, hr, mu₂, I₂, fun a e => (hm₂ a e).imp id (Nat.le_trans W₁.size)⟩
    | nxt mc'' σ'' =>
      obtain ⟨hfl, mu₂, I₂, hm₂⟩ := hp
      exact ⟨hfl, mu₂, I₂, fun a e => (hm₂ a e).imp id (Nat.le_trans W₁.size)⟩) fun _ _ y => y)
theorem Es.iff {test : Expr} {b o : List Stmt} {pos : Pos} {out : Out} (h : Et w n env fr mc σ test false) (hb : Ex w n env fr mc σ o out) : Es w n env fr mc σ (.If test b o pos) out := fun A hA F s E mu I =>
  wpAny_If (wpAny_mono (h A hA F s E mu I) (fun r s₁ ⟨hr, F₁, W₁⟩ => by
    subst hr
    refine wpAny_mono (hb A hA F₁ s₁ E mu (I.step W₁)) (fun fl s₂ ⟨F₂, W₂, hp⟩ => ⟨F₂, (W₁.wide (T := fr ++ mu.toList)).trans W₂, ?_⟩) fun _ _ y => y
    cases out with
    | ret v => exact hp
    | retm mc'' σ'' v =>
      obtain ⟨x, hf, hr, mu₂, I₂, hm₂⟩ := hp
      exact ⟨x, hf, hr, mu₂, I₂, fun a e => (hm₂ a e).imp id (Nat.le_trans W₁.size)⟩
    | nxt mc'' σ'' =>
      obtain ⟨hfl, mu₂, I₂, hm₂⟩ := hp
      exact ⟨hfl, mu₂, I₂, fun a e => (hm₂ a e).imp id (Nat.le_trans W₁.size)⟩) fun _ _ y => y)
theorem Es.ifb {test : Expr} {b o : List Stmt} {pos : Pos} {out : Out} {c : Bool} (h : Et w n env fr mc σ test c) (hb : Ex w n env fr mc σ (if c then b else o) out) : Es w n env fr mc σ (.If test b o pos) out := by
  cases c
  · exact .iff h hb
  · exact .ift h hb
theorem Es.aug {x : String} {op : Operator} {p' pos : Pos} {e : Expr} {a b c : AV} (hx : (x, a) ∈ σ) (h : Ev w n env fr mc σ e b) (ho : Op2 w n (inplaceOp op) a b c) (hw : Wr env fr (Str.ofString x))
    (hd : (Str.ofString x == ("__debug__" : Str)) = false := by decide) (hc : (Str.ofString x == ("__classdict__" : Str)) = false := by decide) :
    Es w n env fr mc σ (.AugAssign (.Name (Str.ofString x) p') op e pos) (.nxt mc (upd σ x c)) := fun A hA F s E mu I => by
  refine wpAny_AugAssign_Name ?_
  have hv := Ev.var (w := w) (n := n) (mc := mc) (pos := p') (fr := fr) (env := env) hx hd hc A hA F s E mu I
  have hv' : wpAny (model prog w) A (loadName env (Str.ofString x)) (fun v s' => ∃ F', Fw w [] F s F' s' ∧ RdM F' mu v a) E s := by
    obtain ⟨val, hval, hr⟩ := I.vars _ hx
    rcases hval with ⟨hk, m, hm, e⟩ | ⟨hk | hk, c, hc', hcell⟩
    · exact wpAny_loadName_local I.fro.kind hk hm e ⟨F, Fw.refl I.ok, hr⟩
    · exact wpAny_loadName_cell I.fro.kind hk hc' hcell ⟨F, Fw.refl I.ok, hr⟩
    · exact wpAny_loadName_free I.fro.kind hk hc' hcell ⟨F, Fw.refl I.ok, hr⟩ hc
  refine wpAny_mono hv' (fun o s₁ ⟨F₁, W₁, R₁⟩ => ?_) fun _ _ y => y
  refine h.use hA (I.step W₁) W₁ fun v' s₂ F₂ I₂ W₂ L₂ R₂ => ?_
  refine wpAny_mono (ho A hA F₂ s₂ E mu o v' I₂.ok (R₁.mono L₂) R₂) (fun r s₃ ⟨F₃, W₃, R₃⟩ => ?_) fun _ _ y => y
  exact (I₂.step W₃).store hw (.inl R₃) fun s₄ I₄ W₄ hz => ⟨F₃, ((W₂.trans W₃).wide (T := fr ++ mu.toList)).trans (W₄.mono fun a m => List.mem_append.mpr (.inl m)), rfl, mu, I₄, fun _ e => .inl e⟩
end
end Mine
namespace Mine
open PySem PySem.Calls PyProof.Rows PySem.W
/-- a later state, that an iterator with its own objects at `wr`, its own generators `G`, does not feel -/
noncomputable def Fut (w : World) (wr : List Addr) (G : List Nat) (F : Part) (s : Shared) (F' : Part) (s' : Shared) : Prop :=
  ∃ T G', FwG w T G' F s F' s' ∧ (∀ a ∈ T, a ∉ wr) ∧ ∀ i ∈ G', i ∉ G
structure ItOk (wr : List Addr) (G : List Nat) (F : Part) (s : Shared) : Prop where
  wr : ∀ a ∈ wr, 207 ≤ a ∧ F a = none ∧ a < s.heap.objs.size
  g : ∀ i ∈ G, i < s.gens.size
noncomputable def Ys (w : World) (n : Nat) (it : Value) (wr : List Addr) (G : List Nat) : List AV → Part → Shared → Prop
  | [], F, s => ItOk wr G F s ∧ ∀ s₁ F₁, Fut w wr G F s F₁ s₁ → ∀ A, Lim n A → ∀ E,
      wpAny (model prog w) A (pyNext it) (fun r s₂ => r = none ∧ ∃ F₂, FwG w wr G F₁ s₁ F₂ s₂) E s₁
  | v :: l, F, s => ItOk wr G F s ∧ ∀ s₁ F₁, Fut w wr G F s F₁ s₁ → ∀ A, Lim n A → ∀ E,
      wpAny (model prog w) A (pyNext it) (fun r s₂ => ∃ x F₂, r = some x ∧ FwG w wr G F₁ s₁ F₂ s₂ ∧ Rd F₂ x v ∧ Ys w n it wr G l F₂ s₂) E s₁
section
variable {w : World} {n : Nat} {it : Value} {wr : List Addr} {G : List Nat} {F F' F'' : Part} {s s' s'' : Shared} {l : List AV}
theorem Fut.of {T : List Addr} {G' : List Nat} (x : FwG w T G' F s F' s') (hT : ∀ a ∈ T, a ∉ wr) (hG : ∀ i ∈ G', i ∉ G) : Fut w wr G F s F' s' := ⟨T, G', x, hT, hG⟩
theorem ItOk.fut (x : ItOk wr G F s) (h : Fut w wr G F s F' s') : ItOk wr G F' s' := by
  obtain ⟨T, G', y, hT, hG⟩ := h
  refine ⟨fun a ha => ?_, fun i hi => Nat.lt_of_lt_of_le (x.g i hi) y.gsz⟩
  obtain ⟨h1, h2, h3⟩ := x.wr a ha
  refine ⟨h1, ?_, Nat.lt_of_lt_of_le h3 y.size⟩
  cases e : F' a with
  | none => rfl
  | some o =>
    rcases y.new a o e with h | h | h
    · rw [h2] at h; cases h
    · exact absurd h3 (Nat.not_lt.mpr h)
    · exact absurd ha (hT a h)
theorem Fut.trans (b : ItOk wr G F s) (x : Fut w wr G F s F' s') (y : Fut w wr G F' s' F'' s'') : Fut w wr G F s F'' s'' := by
  obtain ⟨T, G1, x, hT, hG⟩ := x
  obtain ⟨T', G1', y, hT', hG'⟩ := y
  refine ⟨T ++ T', G1 ++ G1', (x.mono (fun a m => List.mem_append.mpr (.inl m)) (fun a m => List.mem_append.mpr (.inl m))).trans (y.mono (fun a m => List.mem_append.mpr (.inr m)) (fun a m => List.mem_append.mpr (.inr m))), fun a m => ?_, fun a m => ?_⟩
  · exact (List.mem_append.mp m).elim (hT a) (hT' a)
  · exact (List.mem_append.mp m).elim (hG a) (hG' a)
theorem Ys.ok (y : Ys w n it wr G l F s) : ItOk wr G F s := by
  cases l <;> exact y.1
theorem Ys.fut (y : Ys w n it wr G l F s) (h : Fut w wr G F s F' s') : Ys w n it wr G l F' s' := by
  cases l with
  | nil => exact ⟨y.1.fut h, fun s₁ F₁ h₁ => y.2 s₁ F₁ (h.trans y.1 h₁)⟩
  | cons v l => exact ⟨y.1.fut h, fun s₁ F₁ h₁ => y.2 s₁ F₁ (h.trans y.1 h₁)⟩
end
noncomputable def Selfy (w : World) (n : Nat) (it : Value) (wr : List Addr) (G : List Nat) (F : Part) (s : Shared) : Prop :=
  ∀ s₁ F₁, Fut w wr G F s F₁ s₁ → ∀ A, Lim n A → ∀ (Q : Value → Shared → Prop) E, Q it s₁ → wpAny (model prog w) A (pyIter it) Q E s₁
/-- what `for x in e` goes over -/
noncomputable def Itb (w : World) (n : Nat) (env : Env) (fr : List Addr) (mc : Option MC) (σ : Sto) (e : Expr) (l : List AV) : Prop :=
  ∀ A, Lim n A → ∀ F s E mu, Inv w env fr mc mu F σ s → wpAny (model prog w) A (eval e env) (fun xv s₁ => wpAny (model prog w) A (pyIter xv) (fun it s₂ => ∃ F₂ wr G,
    Fw w [] F s F₂ s₂ ∧ (∀ a ∈ wr, s.heap.objs.size ≤ a) ∧ (∀ i ∈ G, s.gens.size ≤ i) ∧ Ys w n it wr G l F₂ s₂ ∧ Selfy w n it wr G F₂ s₂) E s₁) E s
theorem Inv.apart {w : World} {env : Env} {fr : List Addr} {mc : Option MC} {mu : Mu} {F : Part} {σ : Sto} {s : Shared} (I : Inv w env fr mc mu F σ s) {wr : List Addr} (h : ∀ a ∈ wr, s.heap.objs.size ≤ a) :
    ∀ a ∈ wr, a ∉ fr ∧ mu ≠ some a ∧ ∀ y, env.cells.lookup y ≠ some a := fun a ha => by
  have hz := h a ha
  refine ⟨fun m => Nat.lt_irrefl _ (Nat.lt_of_lt_of_le (I.fr0 a m).2.2 hz), fun e => ?_, fun y e => ?_⟩
  · have := I.mu0
    subst e
    cases mc with
    | none => exact this
    | some c => exact Nat.lt_irrefl _ (Nat.lt_of_lt_of_le this.2.2.2.1 hz)
  · obtain ⟨_, _, v, o, ho, _⟩ := I.cel y a e
    exact Nat.lt_irrefl _ (Nat.lt_of_lt_of_le (Heap.lt_size ho) hz)
section
variable {w : World} {n : Nat} {env : Env} {fr : List Addr} {mc mc' : Option MC} {σ σ' : Sto}
theorem Es.for {x : String} {px pos : Pos} {iter : Expr} {body : List Stmt} {l : List AV} (inv : Nat → Option MC × Sto) (hi : Itb w n env fr mc σ iter l) (h0 : (inv 0).1 = mc) (h0' : ∀ p ∈ (inv 0).2, p ∈ σ)
    (hw : Wr env fr (Str.ofString x)) (hb : ∀ j v, l[j]? = some v → Ex w n env fr (inv j).1 (upd (inv j).2 x v) body (.nxt (inv (j + 1)).1 (inv (j + 1)).2))
    (hs : ∀ x, foldedSetIterable iter env x = pure x := by intro _; rfl) (hlv : ∀ v ∈ l, v ≠ .mu := by decide) :
    Es w n env fr mc σ (.For (.Name (Str.ofString x) px) iter body [] pos) (.nxt (inv l.length).1 (inv l.length).2) := fun A hA F s E mu I => by
  refine wpAny_For (wpAny_mono (hi A hA F s E mu I) (fun xv s₁ h₁ => wpAny_mono h₁ (fun it s₂ ⟨F₂, wr, G, W₂, hwr, hG, hy, _⟩ => ?_) fun _ _ y => y) fun _ _ y => y) hs
  have hmu : ∀ a, mu = some a → a < s.heap.objs.size := fun a e => by
    have := I.mu0
    subst e
    cases mc with
    | none => exact this.elim
    | some c => exact this.2.2.2.1
  refine codeAny_forLoop (fun k s' => ∃ j F' mu', k = l.length - j ∧ j ≤ l.length ∧ Inv w env fr (inv j).1 mu' F' (inv j).2 s' ∧ FwG w (fr ++ mu.toList ++ wr) G F₂ s₂ F' s' ∧
      Ys w n it wr G (l.drop j) F' s' ∧ (∀ a, mu' = some a → mu = some a ∨ s₂.heap.objs.size ≤ a)) (fun k s₃ ⟨j, F', mu', hk, hj, I₃, W₃, Y₃, hm₃⟩ => ?_) l.length
    ⟨0, F₂, mu, rfl, Nat.zero_le _, by rw [h0]; exact (I.step W₂).weaken h0', (Fw.refl W₂.ok).wide, hy, fun _ e => .inl e⟩
  have hwrlt : ∀ a ∈ wr, a < s₂.heap.objs.size := fun a ha => (hy.ok.wr a ha).2.2
  have hap : ∀ a ∈ wr, a ∉ fr ∧ mu' ≠ some a ∧ ∀ y, env.cells.lookup y ≠ some a := fun a ha => by
    obtain ⟨q1, q2, q3⟩ := I.apart hwr a ha
    refine ⟨q1, fun e => ?_, q3⟩
    rcases hm₃ a e with h | h
    · exact q2 h
    · exact Nat.lt_irrefl _ (Nat.lt_of_lt_of_le (hwrlt a ha) h)
  cases hd : l.drop j with
  | nil =>
    rw [hd] at Y₃
    refine wpAny_mono (Y₃.2 s₃ F' (Fut.of (T := []) (G' := []) (Fw.refl W₃.ok) (fun _ m => nomatch m) (fun _ m => nomatch m)) A hA _) (fun r s₄ ⟨hr, F₄, W₄⟩ => ?_) fun _ _ y => y
    subst hr
    have hjl : j = l.length := Nat.le_antisymm hj (List.drop_eq_nil_iff.mp hd)
    subst hjl
    refine wpAny_execs_nil ⟨F₄, ?_, rfl, mu', I₃.stepT W₄ hap, fun a e => (hm₃ a e).imp id (Nat.le_trans W₂.size)⟩
    refine (W₂.wide.trans (T := fr ++ mu.toList ++ wr) (G := G) (W₃.trans (W₄.mono (fun a m => List.mem_append.mpr (.inr m)) fun _ m => m))).drop (fun a m => ?_) fun i hi => .inr (hG i hi)
    exact (List.mem_append.mp m).imp id (hwr a)
  | cons v l' =>
    rw [hd] at Y₃
    refine wpAny_mono (Y₃.2 s₃ F' (Fut.of (T := []) (G' := []) (Fw.refl W₃.ok) (fun _ m => nomatch m) (fun _ m => nomatch m)) A hA _) (fun r s₄ ⟨x', F₄, hr, W₄, R₄, Y₄⟩ => ?_) fun _ _ y => y
    subst hr
    have hjlt : j < l.length := Nat.lt_of_not_le fun h => by rw [List.drop_of_length_le h] at hd; cases hd
    have hlj : l[j]? = some v := by
      have := congrArg (fun x => x[0]?) hd
      simpa using this
    have I₄ := I₃.stepT W₄ hap
    refine wpAny_assign_Name (I₄.store hw (.inl R₄) fun s₅ I₅ W₅ hz => ?_)
    refine wpAny_mono (hb j v hlj A hA F₄ s₅ _ mu' I₅) (fun fl s₆ ⟨F₆, W₆, hfl, mu₆, I₆, hm₆⟩ => ?_) fun _ _ y => y
    subst hfl
    have hfr : ∀ a ∈ fr, a ∉ wr := fun a h1 h2 => (hap a h2).1 h1
    have hmu' : ∀ a ∈ fr ++ mu'.toList, a ∉ wr := fun a m h2 => by
      rcases List.mem_append.mp m with m | m
      · exact hfr a m h2
      · exact (hap a h2).2.1 (by simpa using m)
    refine ⟨l.length - (j + 1), by omega, j + 1, F₆, mu₆, rfl, hjlt, I₆, ?_, ?_, fun a e => ?_⟩
    · have W₄' : FwG w (fr ++ mu.toList ++ wr) G F' s₃ F₄ s₅ := (W₄.mono (fun a m => List.mem_append.mpr (.inr m)) fun _ m => m).trans (W₅.mono (fun a m => List.mem_append.mpr (.inl (List.mem_append.mpr (.inl m)))))
      refine (W₃.trans W₄').trans' W₆ (fun a m => ?_) (fun _ m => nomatch m)
      rcases List.mem_append.mp m with m | m
      · exact .inl (List.mem_append.mpr (.inl (List.mem_append.mpr (.inl m))))
      · rcases hm₃ a (by simpa using m) with h | h
        · exact .inl (List.mem_append.mpr (.inl (List.mem_append.mpr (.inr (by simp [h])))))
        · exact .inr h
    · have e : l.drop (j + 1) = l' := by
        have := congrArg List.tail hd
        simpa using this
      rw [e]
      exact (Y₄.fut (Fut.of W₅ hfr fun _ m => nomatch m)).fut (Fut.of W₆ hmu' fun _ m => nomatch m)
    · rcases hm₆ a e with h | h
      · exact hm₃ a h
      · exact .inr (Nat.le_trans (Nat.le_trans W₃.size (Nat.le_trans W₄.size W₅.size)) h)
end
end Mine
namespace Mine
open PySem
noncomputable def Gr (s s' : Shared) : Prop := s.heap.objs.size ≤ s'.heap.objs.size ∧ s.gens.size ≤ s'.gens.size ∧ s.toks ≤ s'.toks
theorem Gr.refl (s : Shared) : Gr s s := ⟨Nat.le_refl _, Nat.le_refl _, Nat.le_refl _⟩
theorem Gr.trans {s s' s'' : Shared} (x : Gr s s') (y : Gr s' s'') : Gr s s'' := ⟨Nat.le_trans x.1 y.1, Nat.le_trans x.2.1 y.2.1, Nat.le_trans x.2.2 y.2.2⟩
theorem runs_gr {M : Model} {Γ : Ctx} {p : Pos} {t : Sem Fin} {fs : List Frame} {s s' : Shared} {e : End} (h : Runs M Γ p t fs s e s') : Gr s s' := by
  induction h <;> (first | exact Gr.refl _ | skip) <;> (simp only [Gr, Shared.setGen, Heap.size_push, Heap.size_after_update, Array.size_push, Array.size_setIfInBounds] at *) <;> omega
theorem wakes_gr {M : Model} {Γ : Ctx} {p : Pos} {g : Nat} {r : Resume} {s s' : Shared} {res : GenResult} (h : Wakes M Γ p g r s res s') : Gr s s' := by
  unfold Wakes at h
  split at h
  · exact h.elim
  · split at h
    · obtain ⟨e₁, s₁, hr, _, _, rfl⟩ := h
      have := runs_gr hr
      simp only [Gr, Shared.setGen, Array.size_setIfInBounds] at *; omega
    · rw [h.2]; exact Gr.refl _
    · rw [h.2]; simp only [Gr, Shared.setGen, Array.size_setIfInBounds]; omega
  · obtain ⟨e₁, s₁, hr, _, _, rfl⟩ := h
    have := runs_gr hr
    simp only [Gr, Shared.setGen, Array.size_setIfInBounds] at *; omega
  · rw [h.2]; exact Gr.refl _
  · rw [h.2]; exact Gr.refl _
theorem wp_gr {α : Type} (M : Model) (Γ : Ctx) (s₀ : Shared) (t : Sem α) : ∀ (Q : α → Pos → Shared → Prop) (E : Value → Pos → Shared → Prop) (p : Pos) (s : Shared), Gr s₀ s → Sem.wp M Γ t Q E p s →
    Sem.wp M Γ t (fun a p' s' => Gr s₀ s' ∧ Q a p' s') (fun e p' s' => Gr s₀ s' ∧ E e p' s') p s := by
  have up : ∀ (s : Shared) a f, Gr s { s with heap := s.heap.update a f } := fun s a f => by simp only [Gr, Heap.size_after_update]; omega
  have pu : ∀ (s : Shared) o, Gr s { s with heap := s.heap.push o } := fun s o => by simp only [Gr, Heap.size_push]; omega
  induction t with
  | pure a => intro Q E p s hn h; exact ⟨hn, h⟩
  | raise e => intro Q E p s hn h; exact ⟨hn, h⟩
  | unsupported _ => intro Q E p s _ h; exact h
  | finish _ => intro Q E p s _ h; exact h
  | rule _ k ih => intro Q E p s hn h; exact ih () Q E p s hn h
  | «at» p' k ih => intro Q E p s hn h; exact ih () Q E p' s hn h
  | load a _ k ih => intro Q E p s hn h; obtain ⟨o, ho, h⟩ := h; exact ⟨o, ho, ih o Q E p s hn h⟩
  | update a _ f k ih => intro Q E p s hn h; exact ⟨h.1, ih () Q E p _ (hn.trans (up ..)) h.2⟩
  | loadIfAlive a k ih => intro Q E p s hn h; exact ih _ Q E p s hn h
  | point _ k ih => intro Q E p s hn h; exact ih () Q E p s hn h
  | register _ _ => intro Q E p s _ h; exact h
  | alloc o k ih => intro Q E p s hn h; exact ih _ Q E p _ (hn.trans (pu ..)) h
  | fresh k ih => intro Q E p s hn h; exact ih _ Q E p _ (hn.trans ⟨Nat.le_refl _, Nat.le_refl _, Nat.le_succ _⟩) h
  | ask k ih => intro Q E p s hn h; exact ih _ Q E p s hn h
  | choose src m k ih => intro Q E p s hn h; exact ⟨h.1, ih _ Q E p _ (hn.trans ⟨Nat.le_refl _, Nat.le_refl _, Nat.le_refl _⟩) h.2⟩
  | os q _ k ih => intro Q E p s hn h; exact ih _ Q E p _ (hn.trans ⟨Nat.le_refl _, Nat.le_refl _, Nat.le_refl _⟩) h
  | call c hd _ _ k ih => intro Q E p s hn h; obtain ⟨r, s', hr, h⟩ := h; exact ⟨r, s', hr, ih r Q E p s' (hn.trans (runs_gr hr)) h⟩
  | handled own k ih => intro Q E p s hn h; exact ih _ Q E p s hn h
  | genState g k ih => intro Q E p s hn h; obtain ⟨st, hs, h⟩ := h; exact ⟨st, hs, ih _ Q E p s hn h⟩
  | newGen c k ih => intro Q E p s hn h; exact ih _ Q E p _ (hn.trans ⟨Nat.le_refl _, by simp, Nat.le_refl _⟩) h
  | resume g r _ k ih => intro Q E p s hn h; obtain ⟨res, s', hw, h⟩ := h; exact ⟨res, s', hw, ih res Q E p s' (hn.trans (wakes_gr hw)) h⟩
  | yield _ _ _ _ => intro Q E p s _ h; exact h
  | stack k ih => intro Q E p s hn h; exact ih _ Q E p s hn h
  | fork _ _ => intro Q E p s _ h; exact h
  | thread k ih => intro Q E p s hn h; exact ih _ Q E p s hn h
  | await _ _ _ _ _ => intro Q E p s _ h; exact h
/-- whatever runs, sizes and tokens grow -/
theorem with_gr {α : Type} {M : Model} {A : Around} {s : Shared} {t : Sem α} {Q : α → Shared → Prop} {E : Value → Shared → Prop}
    (h : wpAny M A t (fun a s' => Gr s s' → Q a s') (fun e s' => Gr s s' → E e s') s) : wpAny M A t Q E s := fun Γ p hΓ =>
  Sem.wp_mono M Γ t (fun _ _ _ x => x.2 x.1) (fun _ _ _ x => x.2 x.1) p s (wp_gr M Γ s t _ _ p s (Gr.refl s) (h Γ p hΓ))
end Mine
namespace Mine
open PySem PySem.Calls PyProof.Rows PySem.W
theorem Ys.of_walks {w : World} {n : Nat} {I : Addr} {fp wr : List Addr} {N : Nat} {P : Nat → Value → Prop} {St : Nat → Heap → Prop} {L : List AV}
    (W : ∀ A, Lim n A → Walks prog w A I fp wr N P St) (hN : N = L.length) : ∀ (k j : Nat) (F : Part) (s : Shared), N - j = k → j ≤ N → OK w F s → St j s.heap →
    (∀ b ∈ wr, 207 ≤ b ∧ F b = none ∧ b < s.heap.objs.size) → (∀ b ∈ fp, b ∈ wr ∨ ∃ o, F b = some o) → (∀ i v, i < N → P i v → ∃ a, L[i]? = some a ∧ Rd F v a) →
    Ys w n (.ref I) wr [] (L.drop j) F s ∧ Selfy w n (.ref I) wr [] F s := by
  have go : ∀ {j : Nat} {F F₁ : Part} {s s₁ : Shared}, OK w F s → St j s.heap → (∀ b ∈ wr, 207 ≤ b ∧ F b = none ∧ b < s.heap.objs.size) → (∀ b ∈ fp, b ∈ wr ∨ ∃ o, F b = some o) →
      Fut w wr [] F s F₁ s₁ → (∃ A, Walks prog w A I fp wr N P St) → St j s₁.heap ∧ (∀ b ∈ wr, 207 ≤ b ∧ F₁ b = none ∧ b < s₁.heap.objs.size) ∧ (∀ b ∈ fp, b ∈ wr ∨ ∃ o, F₁ b = some o) ∧ F.Le F₁ ∧ OK w F₁ s₁ := by
    intro j F F₁ s s₁ ok st hwr hfp hf W
    have io : ItOk wr [] F s := ⟨hwr, fun _ m => nomatch m⟩
    have io' := io.fut hf
    obtain ⟨T, G', x, hT, hG⟩ := hf
    refine ⟨?_, io'.wr, fun b hb => (hfp b hb).imp id fun ⟨o, e⟩ => ⟨o, x.le _ _ e⟩, x.le, x.ok⟩
    obtain ⟨A, W⟩ := W
    refine W.frame j s.heap s₁.heap st fun b hb o e => ?_
    rcases hfp b hb with h | ⟨o', h⟩
    · exact x.heap b (ge_notTab (hwr b h).1) (fun m => hT b m h) o e
    · have := (ok.sub b o' h).2
      rw [e] at this; cases this
      exact (x.ok.sub b o (x.le _ _ h)).2
  intro k
  induction k with
  | zero =>
    intro j F s hk hj ok st hwr hfp hP
    have hjN : j = N := by omega
    subst hjN
    rw [List.drop_of_length_le (by omega)]
    refine ⟨⟨⟨hwr, fun _ m => nomatch m⟩, fun s₁ F₁ hf A hA E => ?_⟩, fun s₁ F₁ hf A hA Q E hQ => (W A hA).self j s₁ Q E (go ok st hwr hfp hf ⟨A, W A hA⟩).1 hQ⟩
    obtain ⟨st₁, hwr₁, hfp₁, hl₁, ok₁⟩ := go ok st hwr hfp hf ⟨A, W A hA⟩
    refine with_gr ((W A hA).done s₁ _ _ st₁ fun h' tk hk hg => ⟨rfl, F₁, ?_⟩)
    exact Fw.change ok₁ (fun a m => ⟨(hwr₁ a m).1, (hwr₁ a m).2.1⟩) (fun a m o e => hk a o m e) hg.1 rfl rfl
  | succ k ih =>
    intro j F s hk hj ok st hwr hfp hP
    have hjl : j < L.length := by omega
    rw [List.drop_eq_getElem_cons hjl]
    refine ⟨⟨⟨hwr, fun _ m => nomatch m⟩, fun s₁ F₁ hf A hA E => ?_⟩, fun s₁ F₁ hf A hA Q E hQ => (W A hA).self j s₁ Q E (go ok st hwr hfp hf ⟨A, W A hA⟩).1 hQ⟩
    obtain ⟨st₁, hwr₁, hfp₁, hl₁, ok₁⟩ := go ok st hwr hfp hf ⟨A, W A hA⟩
    refine with_gr ((W A hA).item j s₁ _ _ (by omega) st₁ fun v h' tk hp st₂ hk hg => ?_)
    have W₂ : FwG w wr [] F₁ s₁ F₁ { s₁ with heap := h', toks := tk } := Fw.change ok₁ (fun a m => ⟨(hwr₁ a m).1, (hwr₁ a m).2.1⟩) (fun a m o e => hk a o m e) hg.1 rfl rfl
    obtain ⟨a, ha, hr⟩ := hP j v (by omega) hp
    have : L[j] = a := by rw [List.getElem?_eq_getElem hjl] at ha; exact Option.some.inj ha
    rw [this]
    refine ⟨v, F₁, rfl, W₂, hr.mono hl₁, (ih (j + 1) F₁ _ (by omega) (by omega) W₂.ok st₂ (fun b m => ⟨(hwr₁ b m).1, (hwr₁ b m).2.1, Nat.lt_of_lt_of_le (hwr₁ b m).2.2 hg.1⟩) hfp₁
      fun i v hi hp => let ⟨a, h1, h2⟩ := hP i v hi hp; ⟨a, h1, h2.mono hl₁⟩).1⟩
end Mine
namespace Mine
open PySem PySem.Calls PyProof.Rows PySem.W
section
variable {w : World} {n : Nat} {env : Env} {fr : List Addr} {mc : Option MC} {σ : Sto}
theorem Itb.list {e : Expr} {l : List AV} (h : Ev w n env fr mc σ e (.list l)) : Itb w n env fr mc σ e l := fun A hA F s E mu I =>
  h.use hA I (Fw.refl I.ok) fun v s₁ F₁ I₁ W₁ L₁ R₁ => by
    obtain ⟨a, xs, k, rfl, hF, hr⟩ := R₁.list
    have hl := I₁.ok.isList hF
    refine wpAny_pyIter_list hl ?_
    have W₂ : Fw w [] F₁ s₁ F₁ { s₁ with heap := s₁.heap.push { cls := .type "list_iterator", data := .fields #[.ref a, .int 0 0] } } :=
      Fw.grow I₁.ok (fun _ _ e => Heap.get?_push_of_some _ e) (by rw [Heap.size_push]; exact Nat.le_succ _) rfl rfl
    have hne : a ≠ s₁.heap.objs.size := Nat.ne_of_lt (I₁.ok.lt hF)
    refine ⟨F₁, [s₁.heap.objs.size], [], W₁.trans W₂, fun b m => by rw [List.mem_singleton.mp m]; exact W₁.size, (fun _ m => nomatch m), ?_⟩
    refine Ys.of_walks (N := xs.size) (fun A hA => Walks.list hA.2.2 s₁.heap.objs.size a hne xs) (by rw [← hr.length]; simp) xs.size 0 F₁ _ rfl (Nat.zero_le _) W₂.ok
      ⟨⟨_, Heap.get?_push_size _ rfl, rfl, rfl⟩, W₂.ok.isList hF⟩ (fun b m => ?_) (fun b m => ?_) fun i v hi hv => ?_
    · rw [List.mem_singleton.mp m]
      exact ⟨I₁.ok.sz, I₁.ok.old (Nat.le_refl _), by show _ < (s₁.heap.push _).objs.size; rw [Heap.size_push]; exact Nat.lt_succ_self _⟩
    · rcases List.mem_cons.mp m with rfl | m
      · exact .inl (.head _)
      · rw [List.mem_singleton.mp m]; exact .inr ⟨_, hF⟩
    · exact hr.get' (by simpa using hv)
theorem Itb.tuple {e : Expr} {l : List AV} (h : Ev w n env fr mc σ e (.tuple l)) : Itb w n env fr mc σ e l := fun A hA F s E mu I =>
  h.use hA I (Fw.refl I.ok) fun v s₁ F₁ I₁ W₁ L₁ R₁ => by
    obtain ⟨a, xs, k, rfl, hF, hr⟩ := R₁.tuple
    have hl := I₁.ok.isTuple hF
    refine wpAny_pyIter_tuple hl ?_
    have W₂ : Fw w [] F₁ s₁ F₁ { s₁ with heap := s₁.heap.push { cls := .type "tuple_iterator", data := .fields #[.ref a, .int 0 0] } } :=
      Fw.grow I₁.ok (fun _ _ e => Heap.get?_push_of_some _ e) (by rw [Heap.size_push]; exact Nat.le_succ _) rfl rfl
    have hne : a ≠ s₁.heap.objs.size := Nat.ne_of_lt (I₁.ok.lt hF)
    refine ⟨F₁, [s₁.heap.objs.size], [], W₁.trans W₂, fun b m => by rw [List.mem_singleton.mp m]; exact W₁.size, (fun _ m => nomatch m), ?_⟩
    refine Ys.of_walks (N := xs.size) (fun A hA => Walks.tuple hA.2.2 s₁.heap.objs.size a hne xs) (by rw [← hr.length]; simp) xs.size 0 F₁ _ rfl (Nat.zero_le _) W₂.ok
      ⟨⟨_, Heap.get?_push_size _ rfl, rfl, rfl⟩, W₂.ok.isTuple hF⟩ (fun b m => ?_) (fun b m => ?_) fun i v hi hv => ?_
    · rw [List.mem_singleton.mp m]
      exact ⟨I₁.ok.sz, I₁.ok.old (Nat.le_refl _), by show _ < (s₁.heap.push _).objs.size; rw [Heap.size_push]; exact Nat.lt_succ_self _⟩
    · rcases List.mem_cons.mp m with rfl | m
      · exact .inl (.head _)
      · rw [List.mem_singleton.mp m]; exact .inr ⟨_, hF⟩
    · exact hr.get' (by simpa using hv)
noncomputable def signs (x : Str) : List AV := x.cps.toList.map fun c => .str ⟨#[c]⟩
theorem Itb.str {e : Expr} {x : Str} (h : Ev w n env fr mc σ e (.str x)) (ha : x.cps.all (· < 128) = true) : Itb w n env fr mc σ e (signs x) := fun A hA F s E mu I =>
  h.use hA I (Fw.refl I.ok) fun v s₁ F₁ I₁ W₁ L₁ R₁ => by
    obtain ⟨t, rfl⟩ := R₁.str
    refine wpAny_pyIter_ascii ha ?_
    have W₂ : Fw w [] F₁ s₁ F₁ { s₁ with heap := s₁.heap.push { cls := .type "str_ascii_iterator", data := .fields #[.str x t, .int 0 0] } } :=
      Fw.grow I₁.ok (fun _ _ e => Heap.get?_push_of_some _ e) (by rw [Heap.size_push]; exact Nat.le_succ _) rfl rfl
    refine ⟨F₁, [s₁.heap.objs.size], [], W₁.trans W₂, fun b m => by rw [List.mem_singleton.mp m]; exact W₁.size, (fun _ m => nomatch m), ?_⟩
    refine Ys.of_walks (L := signs x) (N := x.cps.size) (fun A hA => Walks.strAscii hA.2.2 s₁.heap.objs.size x t) (by simp [signs]) x.cps.size 0 F₁ _ rfl (Nat.zero_le _) W₂.ok
      ⟨_, Heap.get?_push_size _ rfl, rfl, rfl⟩ (fun b m => ?_) (fun b m => .inl m) fun i v hi hv => ?_
    · rw [List.mem_singleton.mp m]
      exact ⟨I₁.ok.sz, I₁.ok.old (Nat.le_refl _), by show _ < (s₁.heap.push _).objs.size; rw [Heap.size_push]; exact Nat.lt_succ_self _⟩
    · obtain ⟨c, u, hc, rfl⟩ := hv
      exact ⟨.str ⟨#[c]⟩, by rw [signs, List.getElem?_map, Array.getElem?_toList, hc]; rfl, .str ..⟩
noncomputable def natsL (k : Nat) : List AV := (List.range k).map fun i => .int (i : Nat)
theorem Itb.range {e : Expr} {np pos : Pos} {N : Int} (hf : Ev w n env fr mc σ (.Name "range" np) (.raw (.type "range"))) (h : Ev w n env fr mc σ e (.int N)) (hN : 0 ≤ N) (hN2 : N < 2 ^ 62)
    (he : starEach [e] env = [(false, eval e env)] := by rfl) :
    Itb w n env fr mc σ (.Call (.Name "range" np) [e] [] pos) (natsL N.toNat) := fun A hA F s E mu I => by
  refine wpAny_Call_NameR (hf.use hA I (Fw.refl I.ok) fun fv s₁ F₁ I₁ W₁ L₁ R₁ => ?_)
  obtain rfl := R₁.raw
  rw [he]
  refine PyProof.Rows.callWith_type rfl (Calls.evalArgs_plain (Calls.spliced_cons (h.use hA I₁ W₁ fun nv s₂ F₂ I₂ W₂ L₂ R₂ => Calls.spliced_nil ?_)))
  obtain ⟨t, rfl⟩ := R₂.int
  refine call_range_1 ?_
  refine wpAny_pyIter_range (IsRange.new ..) (small_one (by decide) (by decide) (by omega) hN2) ?_
  have W₃ := Fw.grow (s' := { s₂ with heap := (s₂.heap.push { cls := .type "range", data := .fields #[.int 0 s₂.toks, .int N t, .int 1 (s₂.toks + 1)] }).push { cls := .type "range_iterator", data := .fields #[rawInt 0, rawInt (Builtin.Range.rangeSize 0 N 1), rawInt 1] }, toks := s₂.toks + 1 + 1 })
    I₂.ok (fun _ _ e => Heap.get?_push_of_some _ (Heap.get?_push_of_some _ e)) (by simp only [Heap.size_push]; omega) rfl rfl
  have hsz : Builtin.Range.rangeSize 0 N 1 = (N.toNat : Int) := by rw [rangeSize_one]; split <;> omega
  refine ⟨F₂, [s₂.heap.objs.size + 1], [], W₂.trans W₃, (fun b m => by rw [List.mem_singleton.mp m]; exact Nat.le_succ_of_le W₂.size), (fun _ m => nomatch m), ?_⟩
  have hs1 : (s₂.heap.push { cls := .type "range", data := .fields #[.int 0 s₂.toks, .int N t, .int 1 (s₂.toks + 1)] }).objs.size = s₂.heap.objs.size + 1 := Heap.size_push ..
  show Ys w n (.ref (s₂.heap.push _).objs.size) _ _ _ _ _ ∧ Selfy w n (.ref (s₂.heap.push _).objs.size) _ _ _ _
  rw [hs1]
  refine Ys.of_walks (L := natsL N.toNat) (N := N.toNat) (fun A hA => Walks.range hA.2.2 (s₂.heap.objs.size + 1) 0 1 N.toNat) (by simp [natsL]) N.toNat 0 F₂ _ rfl (Nat.zero_le _) W₃.ok
    ?_ (fun b m => ?_) (fun b m => .inl m) fun i v hi hv => ?_
  · have e : (s₂.heap.push { cls := .type "range", data := .fields #[.int 0 s₂.toks, .int N t, .int 1 (s₂.toks + 1)] }).objs.size = s₂.heap.objs.size + 1 := Heap.size_push ..
    show Heap.get? (Heap.push (s₂.heap.push { cls := .type "range", data := .fields #[.int 0 s₂.toks, .int N t, .int 1 (s₂.toks + 1)] }) _) (s₂.heap.objs.size + 1) = _
    rw [← e, Heap.get?_push_size _ rfl, hsz]
    simp
  · rw [List.mem_singleton.mp m]
    exact ⟨Nat.le_succ_of_le I₂.ok.sz, I₂.ok.old (Nat.le_succ _), by simp only [Heap.size_push]; exact Nat.lt_succ_self _⟩
  · obtain ⟨t', rfl⟩ := hv
    exact ⟨.int (i : Nat), by simp [natsL, hi], by rw [show (0 : Int) + (i : Nat) * 1 = (i : Nat) by omega]; exact .int ..⟩
end
end Mine
namespace Mine
open PySem PySem.Calls PyProof.Rows PySem.W
theorem cellsFrom_append : ∀ (names : List (Str × NameKind)) (n : Nat) (acc : List (Str × Addr)), cellsFrom n names acc = cellsFrom n names [] ++ acc
  | [], _, _ => rfl
  | (y, k) :: r, n, acc => by
    unfold cellsFrom
    split
    · rw [cellsFrom_append r (n + 1) ((y, n) :: acc), cellsFrom_append r (n + 1) [(y, n)]]; simp
    · exact cellsFrom_append r n acc
noncomputable def ownC (L : Addr) (names : List (Str × NameKind)) : List (Str × Addr) := cellsFrom (L + 1) names []
noncomputable def frOf (L : Addr) (names : List (Str × NameKind)) : List Addr := L :: (ownC L names).map (·.2)
theorem lookup_append {α : Type} : ∀ (l m : List (Str × α)) (x : Str), (l ++ m).lookup x = (l.lookup x).or (m.lookup x)
  | [], m, x => by simp
  | (y, a) :: l, m, x => by
    rw [List.cons_append, List.lookup_cons, List.lookup_cons]
    cases x == y with
    | true => rfl
    | false => exact lookup_append l m x
section
variable {w : World} {F : Part} {s : Shared} {A : Around} {E : Value → Shared → Prop}
/-- a new frame's namespace and cells -/
theorem newEnv_rule {scope : Scope} {globals : Addr} {closure : List (Str × Addr)} {qual : Str} {func : Option Addr} {code : Value} {around : Option Env} {builtins : Addr} {binds : List (Str × Value)} {Q : Env → Shared → Prop} (ok : OK w F s)
    (h : ∀ h', Fw w [] F s F { s with heap := h' } → h'.Ns s.heap.objs.size (fun _ => none) → (∀ y c, (y, c) ∈ ownC s.heap.objs.size scope.names → s.heap.objs.size < c ∧ h'.IsCell c none) →
      ((ownC s.heap.objs.size scope.names).Pairwise fun x y => x.2 ≠ y.2) → (∀ b o, s.heap.get? b = some o → h'.get? b = some o) →
      wpAny (model prog w) A (forIn binds PUnit.unit fun x _ => do storeName (newEnv scope s.heap.objs.size globals (cellsFrom (s.heap.objs.size + 1) scope.names closure) qual func code around builtins) x.1 x.2; pure (.yield ⟨⟩))
        (fun _ s' => Q (newEnv scope s.heap.objs.size globals (cellsFrom (s.heap.objs.size + 1) scope.names closure) qual func code around builtins) s') E { s with heap := h' }) :
    wpAny (model prog w) A (newFunctionEnv scope globals closure binds qual func code around builtins) Q E s := by
  have key : ∀ cls : String, ∀ Q' : List (Str × Addr) → Shared → Prop,
      (∀ h', Fw w [] F s F { s with heap := h' } → h'.Ns s.heap.objs.size (fun _ => none) → (∀ y c, (y, c) ∈ ownC s.heap.objs.size scope.names → s.heap.objs.size < c ∧ h'.IsCell c none) →
        ((ownC s.heap.objs.size scope.names).Pairwise fun x y => x.2 ≠ y.2) → (∀ b o, s.heap.get? b = some o → h'.get? b = some o) → Q' (cellsFrom (s.heap.objs.size + 1) scope.names closure) { s with heap := h' }) →
      Q' (cellsFrom (s.heap.objs.size + 1) scope.names closure) { s with heap := pushCells (s.heap.push { cls := .type cls, data := .dict #[] }) scope.names } := by
    intro cls Q' hQ'
    have hz : (s.heap.push { cls := .type cls, data := .dict #[] }).objs.size = s.heap.objs.size + 1 := Heap.size_push ..
    have ok' := cellsFrom_ok scope.names (s.heap.push { cls := .type cls, data := .dict #[] }) (s.heap.objs.size + 1) [] ⟨fun _ _ hm => (nomatch hm), List.Pairwise.nil⟩ (by rw [hz]; exact Nat.le_refl _)
    rw [hz] at ok'
    have hk : ∀ b o, s.heap.get? b = some o → (pushCells (s.heap.push { cls := .type cls, data := .dict #[] }) scope.names).get? b = some o := fun b o e => pushCells_keeps _ _ b o (Heap.get?_push_of_some _ e)
    have hs : ∀ (names : List (Str × NameKind)) (h : Heap), h.objs.size ≤ (pushCells h names).objs.size := by
      intro names
      induction names with
      | nil => intro h; exact Nat.le_refl _
      | cons x r ih =>
        intro h
        obtain ⟨y, k⟩ := x
        unfold pushCells
        split
        · exact Nat.le_trans (by rw [Heap.size_push]; exact Nat.le_succ _) (ih _)
        · exact ih _
    refine hQ' _ (Fw.grow ok hk (Nat.le_trans (by rw [hz]; exact Nat.le_succ _) (hs _ _)) rfl rfl) ?_ (fun y c hm => ⟨(ok'.empty y c hm).2, (ok'.empty y c hm).1⟩) ok'.apart hk
    exact (Heap.Ns.new s.heap (.type cls)).keeps (pushCells_keeps _ _)
  cases around with
  | none =>
    simp only [newFunctionEnv, Option.isSome_none, Bool.false_eq_true, if_false]
    refine wpAny_bind (wpAny_alloc ?_)
    refine wpAny_bind (wpAny_layCells _ (fun name kind cells => by cases hkc : kind == NameKind.cell <;> simp [hkc]) _ _ _ _ ?_)
    rw [show ({ s with heap := s.heap.push { cls := .type "frame", data := .dict #[] } } : Shared).heap.objs.size = s.heap.objs.size + 1 from Heap.size_push ..]
    refine key "frame" (fun cells s' => wpAny _ _ _ _ _ s') fun h' a b c d e => ?_
    exact wpAny_bind (wpAny_mono (h h' a b c d e) (fun _ _ q => wpAny_pure q) fun _ _ y => y)
  | some outer =>
    simp only [newFunctionEnv, Option.isSome_some, if_true]
    refine wpAny_bind (wpAny_alloc ?_)
    refine wpAny_bind (wpAny_layCells _ (fun name kind cells => by cases hkc : kind == NameKind.cell <;> simp [hkc]) _ _ _ _ ?_)
    rw [show ({ s with heap := s.heap.push { cls := .type "dict", data := .dict #[] } } : Shared).heap.objs.size = s.heap.objs.size + 1 from Heap.size_push ..]
    refine key "dict" (fun cells s' => wpAny _ _ _ _ _ s') fun h' a b c d e => ?_
    exact wpAny_bind (wpAny_mono (h h' a b c d e) (fun _ _ q => wpAny_pure q) fun _ _ y => y)
end
theorem own_mem {L : Addr} {names : List (Str × NameKind)} {y : Str} {c : Addr} (h : (ownC L names).lookup y = some c) : c ∈ frOf L names :=
  List.mem_cons_of_mem _ (List.mem_map.mpr ⟨_, mem_of_lookup h, rfl⟩)
structure ClosOk (closure : List (Str × Addr)) (mu : Mu) (s : Shared) : Prop where
  cell : ∀ y c, closure.lookup y = some c → 207 ≤ c ∧ c < s.heap.objs.size ∧ (∀ l, mu = some l → c ≠ l) ∧ ∃ v, s.heap.IsCell c v
  inj : ∀ x y c, closure.lookup x = some c → closure.lookup y = some c → x = y
theorem ClosOk.nil {mu : Mu} {s : Shared} : ClosOk [] mu s := ⟨fun _ _ h => by simp at h, fun _ _ _ h => by simp at h⟩
noncomputable def MuPre (F : Part) (s : Shared) : Option MC → Mu → Prop
  | some c, some a => 207 ≤ a ∧ F a = none ∧ a < s.heap.objs.size ∧ MHas F s.heap a c
  | none, none => True
  | _, _ => False
theorem Inv.fresh {w : World} {F : Part} {s : Shared} {env : Env} {names : List (Str × NameKind)} {closure : List (Str × Addr)} {mc : Option MC} {mu : Mu} {σ : Sto} {h' : Heap}
    (hl : env.locals = s.heap.objs.size) (hc : env.cells = ownC s.heap.objs.size names ++ closure) (hk : env.scope.kind = .function) (hg : env.globals = mainGlobals) (hb : env.builtins = builtinsNs)
    (ok : OK w F s) (W : Fw w [] F s F { s with heap := h' }) (hn : h'.Ns s.heap.objs.size (fun _ => none))
    (hcell : ∀ y c, (y, c) ∈ ownC s.heap.objs.size names → s.heap.objs.size < c ∧ h'.IsCell c none) (hpw : (ownC s.heap.objs.size names).Pairwise fun x y => x.2 ≠ y.2) (hkeep : ∀ b o, s.heap.get? b = some o → h'.get? b = some o)
    (co : ClosOk closure mu s) (hmu : MuPre F s mc mu)
    (hσ : ∀ p ∈ σ, (ownC s.heap.objs.size names).lookup (Str.ofString p.1) = none ∧ (env.kindOf (Str.ofString p.1) = some .cell ∨ env.kindOf (Str.ofString p.1) = some .free) ∧
      ∃ c v, closure.lookup (Str.ofString p.1) = some c ∧ s.heap.IsCell c (some v) ∧ RdM F mu v p.2) :
    Inv w env (frOf s.heap.objs.size names) mc mu F σ { s with heap := h' } := by
  have hlook : ∀ y c, env.cells.lookup y = some c → ((ownC s.heap.objs.size names).lookup y = some c) ∨ ((ownC s.heap.objs.size names).lookup y = none ∧ closure.lookup y = some c) := fun y c e => by
    rw [hc, lookup_append] at e
    cases q : (ownC s.heap.objs.size names).lookup y with
    | some c' => rw [q] at e; exact .inl e
    | none => rw [q] at e; exact .inr ⟨rfl, e⟩
  have hfr : ∀ a ∈ frOf s.heap.objs.size names, s.heap.objs.size ≤ a ∧ a < h'.objs.size := fun a ha => by
    rcases List.mem_cons.mp ha with rfl | ha
    · exact ⟨Nat.le_refl _, hn.lt⟩
    · obtain ⟨⟨y, c⟩, hm, rfl⟩ := List.mem_map.mp ha
      obtain ⟨h1, o, ho, _⟩ := hcell y c hm
      exact ⟨Nat.le_of_lt h1, Heap.lt_size ho⟩
  refine ⟨W.ok, ⟨hk, hg, hb, by rw [hl]; exact .head _, fun y c e => ?_, fun x y c e1 e2 => ?_⟩, fun a ha => ?_, ?_, ⟨_, hl ▸ hn⟩, fun y c e => ?_, fun p hp => ?_⟩
  · rw [hl]
    rcases hlook y c e with h | ⟨_, h⟩
    · exact Nat.ne_of_gt (hcell y c (mem_of_lookup h)).1
    · exact Nat.ne_of_lt (co.cell y c h).2.1
  · rcases hlook x c e1 with h1 | ⟨_, h1⟩ <;> rcases hlook y c e2 with h2 | ⟨_, h2⟩
    · exact name_of_addr hpw (mem_of_lookup h1) (mem_of_lookup h2)
    · exact absurd (co.cell y c h2).2.1 (Nat.not_lt.mpr (Nat.le_of_lt (hcell x c (mem_of_lookup h1)).1))
    · exact absurd (co.cell x c h1).2.1 (Nat.not_lt.mpr (Nat.le_of_lt (hcell y c (mem_of_lookup h2)).1))
    · exact co.inj x y c h1 h2
  · obtain ⟨h1, h2⟩ := hfr a ha
    exact ⟨Nat.le_trans ok.sz h1, ok.old h1, h2⟩
  · cases mc <;> cases mu
    · trivial
    · exact hmu
    · exact hmu
    · obtain ⟨h1, h2, h3, h4⟩ := hmu
      refine ⟨h1, h2, fun m => ?_, Nat.lt_of_lt_of_le h3 W.size, h4.at (.refl F) fun o => hkeep _ o⟩
      exact Nat.lt_irrefl _ (Nat.lt_of_lt_of_le h3 (hfr _ m).1)
  · rcases hlook y c e with h | ⟨_, h⟩
    · obtain ⟨h1, h2⟩ := hcell y c (mem_of_lookup h)
      refine ⟨Nat.le_trans ok.sz (Nat.le_of_lt h1), fun l hm e => ?_, _, h2⟩
      subst e hm
      cases mc with
      | none => exact hmu
      | some d => exact Nat.lt_irrefl _ (Nat.lt_trans hmu.2.2.1 h1)
    · obtain ⟨h1, h2, h3, v, h4⟩ := co.cell y c h
      exact ⟨h1, h3, v, isCell_at h4 fun o => hkeep _ o⟩
  · obtain ⟨h0, h1, c, v, h2, h3, h4⟩ := hσ p hp
    refine ⟨v, .inr ⟨h1, c, ?_, isCell_at h3 fun o => hkeep _ o⟩, h4⟩
    rw [hc, lookup_append, h0]; exact h2
/-! a def of the top -/
noncomputable def fenv (scope : Scope) (qual : Str) (f : Addr) (code : Value) (closure : List (Str × Addr)) (L : Addr) : Env :=
  { scope := scope, locals := L, globals := mainGlobals, cells := ownC L scope.names ++ closure, qual := qual ++ ".<locals>.", func := some f, code := code, frame := some L, builtins := builtinsNs }
noncomputable def bindsOf : List String → List AV → Sto → Sto
  | x :: xs, v :: vs, σ => bindsOf xs vs (upd σ x v)
  | _, _, σ => σ
/-- may x be stored to in a def's own frame? -/
noncomputable def own? (scope : Scope) (x : Str) : Bool := scope.names.lookup x == some .local || (scope.names.lookup x == some .cell && ((ownC 0 scope.names).lookup x).isSome)
theorem ownC_some : ∀ (names : List (Str × NameKind)) (n m : Nat) (x : Str), ((cellsFrom n names []).lookup x).isSome = ((cellsFrom m names []).lookup x).isSome
  | [], _, _, _ => rfl
  | (y, k) :: r, n, m, x => by
    unfold cellsFrom
    split
    · rw [cellsFrom_append r (n + 1) [(y, n)], cellsFrom_append r (m + 1) [(y, m)], lookup_append, lookup_append, Option.isSome_or, Option.isSome_or, ownC_some r (n + 1) (m + 1) x]
      congr 1
      simp only [List.lookup_cons, List.lookup_nil]
      cases x == y <;> rfl
    · exact ownC_some r n m x
theorem Wr.own {scope : Scope} {env : Env} {L : Addr} {closure : List (Str × Addr)} {x : Str} (hs : ∀ k, scope.names.lookup x = some k → k ≠ .free → env.kindOf x = some k) (hc : env.cells = ownC L scope.names ++ closure) (h : own? scope x = true) : Wr env (frOf L scope.names) x := by
  unfold own? at h
  rcases Bool.or_eq_true_iff.mp h with h | h
  · exact .inl (hs _ (by simpa using h) (by decide))
  · obtain ⟨h1, h2⟩ := Bool.and_eq_true_iff.mp h
    rw [show (ownC 0 scope.names) = cellsFrom (0 + 1) scope.names [] from rfl, ownC_some _ _ (L + 1)] at h2
    obtain ⟨c, e⟩ := Option.isSome_iff_exists.mp h2
    exact .inr ⟨hs _ (by simpa using h1) (by decide), c, by rw [hc, lookup_append]; show ((ownC L scope.names).lookup x).or _ = _; rw [show (ownC L scope.names).lookup x = some c from e]; rfl, own_mem e⟩
theorem Wr.fn {scope : Scope} {qual : Str} {f : Addr} {code : Value} {closure : List (Str × Addr)} {L : Addr} {x : Str} (h : own? scope x = true) : Wr (fenv scope qual f code closure L) (frOf L scope.names) x :=
  Wr.own (scope := scope) (closure := closure) (fun k e _ => e) rfl h
theorem bind_rule {w : World} {n : Nat} {env : Env} {fr : List Addr} {mc : Option MC} {mu : Mu} {A : Around} {E : Value → Shared → Prop} {Q : PUnit → Shared → Prop} (f : Str × Value → PUnit → Sem (ForInStep PUnit))
    (hf : ∀ n v u, f (n, v) u = (do storeName env n v; pure (.yield ⟨⟩))) : ∀ (xs : List String) (vals : List Value) (avs : List AV) (F : Part) (σ : Sto) (s : Shared), RdL F vals avs → Inv w env fr mc mu F σ s → (∀ x ∈ xs, Wr env fr (Str.ofString x)) →
      (∀ s', Inv w env fr mc mu F (bindsOf xs avs σ) s' → Fw w fr F s F s' → Q ⟨⟩ s') → wpAny (model prog w) A (forIn ((xs.map Str.ofString).zip vals) ⟨⟩ f) Q E s
  | [], vals, avs, F, σ, s, r, I, hw, h => by
    rw [List.map_nil, List.zip_nil_left, List.forIn_nil]
    exact wpAny_pure (h s (by unfold bindsOf; exact I) (Fw.refl I.ok).wide)
  | x :: xs, [], avs, F, σ, s, r, I, hw, h => by
    rw [List.zip_nil_right, List.forIn_nil]
    cases r
    exact wpAny_pure (h s (by unfold bindsOf; exact I) (Fw.refl I.ok).wide)
  | x :: xs, v :: vals, avs, F, σ, s, r, I, hw, h => by
    cases r with
    | cons r rs =>
      rw [List.map_cons, List.zip_cons_cons, List.forIn_cons, hf]
      refine wpAny_bind (wpAny_bind (I.store (hw x (.head _)) (.inl r) fun s' I' W' _ => wpAny_pure ?_))
      exact bind_rule (n := n) f hf xs vals _ F _ s' rs I' (fun y m => hw y (.tail _ m)) fun s'' I'' W'' => h s'' I'' (W'.trans W'')
theorem Fn.intro {w : World} {n : Nat} {f : Addr} {args : List AV} {o : Obj} {fd : FuncData} {body : List Stmt} {out : Out} {v : AV} (xs : List String) (σ : Sto)
    (hb : ∀ L, Ex w n (fenv fd.scope fd.qualname f fd.code [] L) (frOf L fd.scope.names) none σ body out) (hσ : ∀ p ∈ σ, p ∈ bindsOf xs args [])
    (ho : (KF w).lookup f = some o) (hd : o.data = .func fd) (hbody : fd.body = .stmts body) (hlen : args.length = xs.length)
    (hout : match out with | .ret u => u = v | .nxt _ _ => v = .none | .retm _ _ u => u = v)
    (hbind : ∀ vs : List Value, vs.length = xs.length → bindArgs fd ⟨vs, []⟩ = pure ((xs.map Str.ofString).zip vs))
    (hown : (xs.all fun x => own? fd.scope (Str.ofString x)) = true) (hcode : codeIn (KF w) fd.code fd.qualname = true)
    (hclo : fd.closure = []) (hgl : fd.globals = mainGlobals) (hbu : fd.builtins = builtinsNs) (hco : fd.scope.isCoroutine = false) (hgen : fd.scope.isGenerator = false) (hk : fd.scope.kind = .function) :
    Fn w (n + 1) f args v := fun A hA F s vs R ok r hR => by
  refine codeAny_call_function hA.room (ok.K _ _ ho) hd hco hgen hbody (codeRec_of ok.K hcode) ?_
  rw [hbind vs (by rw [r.length, hlen]), hclo, hgl, hbu]
  refine wpAny_pure (newEnv_rule ok fun h' W hn hcell hpw hkeep => ?_)
  have hc : (newEnv fd.scope s.heap.objs.size mainGlobals (cellsFrom (s.heap.objs.size + 1) fd.scope.names []) (fd.qualname ++ ".<locals>.") (some f) fd.code none builtinsNs) = fenv fd.scope fd.qualname f fd.code [] s.heap.objs.size := by
    unfold fenv newEnv ownC; simp
  have I : Inv w (fenv fd.scope fd.qualname f fd.code [] s.heap.objs.size) (frOf s.heap.objs.size fd.scope.names) none none F [] { s with heap := h' } :=
    Inv.fresh (closure := []) rfl rfl hk rfl rfl ok W hn hcell hpw hkeep ClosOk.nil trivial fun _ m => nomatch m
  rw [hc]
  refine bind_rule (n := n) _ (fun _ _ _ => rfl) xs vs args F [] _ r I (fun x m => Wr.fn (List.all_eq_true.mp hown x m)) fun s₁ I₁ W₁ => ⟨W₁.ok.lim, ?_⟩
  refine codeAny_func (wpAny_mono (hb s.heap.objs.size _ (hA.deeper _) F s₁ _ none (I₁.weaken hσ)) (fun fl s₂ ⟨F₂, W₂, hp⟩ => ?_) fun _ _ y => y)
  have hfr : ∀ a ∈ frOf s.heap.objs.size fd.scope.names, s.heap.objs.size ≤ a := fun a ha => by
    rcases List.mem_cons.mp ha with rfl | ha
    · exact Nat.le_refl _
    · obtain ⟨⟨y, c⟩, hm, rfl⟩ := List.mem_map.mp ha
      exact Nat.le_of_lt (hcell y c hm).1
  have W₃ : Fw w [] F s F₂ s₂ := ((W.wide (T := frOf s.heap.objs.size fd.scope.names)).trans (W₁.trans (W₂.mono fun a m => by simpa using m))).drop (fun a m => .inr (hfr a m)) fun _ m => .inl m
  cases out with
  | ret u =>
    obtain ⟨x, rfl, hx⟩ := hp
    subst hout
    exact hR x s₂ F₂ W₃ hx
  | retm mc σ u =>
    obtain ⟨x, rfl, hx, _⟩ := hp
    subst hout
    exact hR x s₂ F₂ W₃ hx
  | nxt mc σ =>
    obtain ⟨rfl, _⟩ := hp
    subst hout
    exact hR .none s₂ F₂ W₃ .none
end Mine
namespace Mine
open PySem PySem.Calls PyProof.Rows PySem.W
noncomputable def SubOp (w : World) (n : Nat) (a b c : AV) : Prop :=
  ∀ A, Lim n A → ∀ F s E mu x y, OK w F s → RdM F mu x a → RdM F mu y b → (∃ T id, s.TypeIs x T ∧ typeLookup (.type T) "__getitem__" = pure (some (.builtin id))) ∧
    wpAny (model prog w) A (getItem x y) (fun z s' => ∃ F', Fw w [] F s F' s' ∧ Rd F' z c) E s
section
variable {w : World} {n : Nat} {env : Env} {fr : List Addr} {mc : Option MC} {σ : Sto}
theorem Ev.sub {value slice : Expr} {pos : Pos} {a b c : AV} (hv : Ev w n env fr mc σ value a) (hs : Ev w n env fr mc σ slice b) (ho : SubOp w n a b c)
    (hsub : ∀ o i, ∃ ops, subscripted slice false o i = operate ops (getItem o i) := by intro o i; exact ⟨_, rfl⟩) : Ev w n env fr mc σ (.Subscript value slice pos) c := fun A hA F s E mu I =>
  Subscript_ (hv.use hA I (Fw.refl I.ok) fun x s₁ F₁ I₁ W₁ L₁ R₁ => hs.use hA I₁ W₁ fun y s₂ F₂ I₂ W₂ L₂ R₂ => by
    obtain ⟨⟨T, id, hT, hl⟩, hg⟩ := ho A hA F₂ s₂ E mu x y I₂.ok (R₁.mono L₂) R₂
    obtain ⟨ops, hops⟩ := hsub x y
    exact tail_any hT hl (wpAny_mono hg (fun z s₃ ⟨F₃, W₃, R₃⟩ => ⟨F₃, W₂.trans W₃, .inl R₃⟩) fun _ _ h => h) hops)
/-- a part of a slice -/
noncomputable def EvP (w : World) (n : Nat) (env : Env) (fr : List Addr) (mc : Option MC) (σ : Sto) (e : Option Expr) (v : Option Int) : Prop :=
  match e, v with
  | none, none => True
  | some e, some i => Ev w n env fr mc σ e (.int i)
  | some e, none => Ev w n env fr mc σ e .none
  | _, _ => False
theorem EvP.use {e : Option Expr} {v : Option Int} (h : EvP w n env fr mc σ e v) {A : Around} (hA : Lim n A) {F₀ F : Part} {s₀ s : Shared} {E : Value → Shared → Prop} {Q : Value → Shared → Prop} {mu : Mu}
    (I : Inv w env fr mc mu F σ s) (x : Fw w [] F₀ s₀ F s) (hQ : ∀ v' s' F', Inv w env fr mc mu F' σ s' → Fw w [] F₀ s₀ F' s' → F.Le F' → IsPart v' v → Q v' s') : wpAny (model prog w) A (evalPart e env) Q E s := by
  cases e with
  | none =>
    cases v with
    | none => rw [evalPart_none]; exact wpAny_pure (hQ _ _ F I x (.refl F) .none)
    | some i => exact h.elim
  | some e =>
    rw [evalPart_some]
    cases v with
    | none => exact Ev.use (v := .none) h hA I x fun v' s' F' I' W' L' R' => by rw [R'.non]; exact hQ _ _ F' I' W' L' .none
    | some i => exact Ev.use (v := .int i) h hA I x fun v' s' F' I' W' L' R' => by obtain ⟨t, rfl⟩ := R'.int; exact hQ _ _ F' I' W' L' (.int i t)
theorem Ev.slice {lo hi : Option Expr} {pos : Pos} {l u : Option Int} (hl : EvP w n env fr mc σ lo l) (hu : EvP w n env fr mc σ hi u) : Ev w n env fr mc σ (.Slice lo hi none pos) (.slc l u) := fun A hA F s E mu I =>
  wpAny_Slice (hl.use hA I (Fw.refl I.ok) fun vl s₁ F₁ I₁ W₁ L₁ P₁ => hu.use hA I₁ W₁ fun vu s₂ F₂ I₂ W₂ L₂ P₂ => by
    rw [evalPart_none]
    exact wpAny_pure ⟨F₂.put _ _, W₂.trans (Fw.make I₂.ok (slcO vl vu) rfl s₂.toks), .inl (.slc (Part.put_self ..) P₁ P₂)⟩)
theorem SubOp.list {l : List AV} {i : Int} {c : AV} (h0 : 0 ≤ i) (hc : l[i.toNat]? = some c) (hi : i < 2 ^ 63 := by decide) : SubOp w n (.list l) (.int i) c := fun A hA F s E mu x y ok hx hy => by
  obtain ⟨a, xs, k, rfl, hF, hr⟩ := hx.list
  obtain ⟨t, rfl⟩ := hy.int
  obtain ⟨v, hv, hrd⟩ := hr.get hc
  have hl := ok.isList hF
  exact ⟨⟨"list", _, ⟨_, (ok.sub a _ hF).2, rfl⟩, slot_list_getitem.lookup⟩, wpAny_getItem_list hl h0 hi (by simpa using hv) ⟨F, Fw.refl ok, hrd⟩⟩
noncomputable def cutList {α : Type} (l : List α) (lo hi : Option Int) : List α :=
  (sliceRange (sliceBounds lo hi none l.length).1 (sliceBounds lo hi none l.length).2.1 (sliceBounds lo hi none l.length).2.2).filterMap (l[·]?)
theorem RdL.cut {F : Part} {vs : List Value} {l : List AV} (r : RdL F vs l) : ∀ is : List Nat, RdL F (is.filterMap (vs[·]?)) (is.filterMap (l[·]?))
  | [] => .nil
  | i :: is => by
    have ih := RdL.cut r is
    rw [List.filterMap_cons, List.filterMap_cons]
    cases e : l[i]? with
    | some a =>
      obtain ⟨v, hv, hr⟩ := r.get e
      rw [hv]; exact .cons hr ih
    | none =>
      have : vs[i]? = none := by
        rw [List.getElem?_eq_none_iff] at e ⊢
        rw [r.length]; exact e
      rw [this]; exact ih
theorem SubOp.listcut {l : List AV} {lo hi : Option Int} (hz : l.length ≤ 100000) : SubOp w n (.list l) (.slc lo hi) (.list (cutList l lo hi)) := fun A hA F s E mu x y ok hx hy => by
  obtain ⟨a, xs, k, rfl, hF, hr⟩ := hx.list
  obtain ⟨b, vl, vu, rfl, hS, p1, p2⟩ := hy.slc
  have hl := ok.isList hF
  refine ⟨⟨"list", _, ⟨_, (ok.sub a _ hF).2, rfl⟩, slot_list_getitem.lookup⟩, wpAny_getItem_list_slice (st := none) (vs := .none) hl ⟨_, (ok.sub b _ hS).2, rfl, rfl⟩ p1 p2 .none (by decide) (hsz := ?_) ?_⟩
  · refine ⟨F.put _ _, Fw.make ok (listO (slicePick xs lo hi none) 0) rfl s.toks, .list (Part.put_self ..) ?_⟩
    refine RdL.mono (Part.le_put (ok.old (Nat.le_refl _))) ?_
    have := hr.cut (sliceRange (sliceBounds lo hi none l.length).1 (sliceBounds lo hi none l.length).2.1 (sliceBounds lo hi none l.length).2.2)
    have hz : xs.size = l.length := by rw [← hr.length]; simp
    simpa [slicePick, cutList, hz] using this
  · have hz' : xs.size = l.length := by rw [← hr.length]; simp
    rw [hz']; exact Nat.le_trans hz (by decide)
theorem SubOp.str {x : Str} {i : Int} {c : Nat} (hc : (seqIndex? i x.length).bind (x.cps[·]?) = some c) (hi : (decide (i < -(2 ^ 63 : Int)) || decide (i ≥ 2 ^ 63)) = false := by decide) : SubOp w n (.str x) (.int i) (.str ⟨#[c]⟩) := fun A hA F s E mu v y ok hx hy => by
  obtain ⟨t, rfl⟩ := hx.str
  obtain ⟨u, rfl⟩ := hy.int
  exact ⟨⟨"str", _, typeIs_str s x t, _root_.PySem.F.slot_str_getitem.lookup⟩, PySem.P.getItem_str hi hc ⟨F, Fw.toks ok _, .str ..⟩⟩
noncomputable def cutStr (x : Str) (lo hi : Option Int) : Str :=
  if (Builtin.Str.strSliceIndices lo hi 1 x.length).length == x.length then x else ⟨((Builtin.Str.strSliceIndices lo hi 1 x.length).filterMap (x.cps[·]?)).toArray⟩
theorem SubOp.strcut {x : Str} {lo hi : Option Int} (hz : (Builtin.Str.strSliceIndices lo hi 1 x.length).length ≤ sizeLine) : SubOp w n (.str x) (.slc lo hi) (.str (cutStr x lo hi)) := fun A hA F s E mu v y ok hx hy => by
  obtain ⟨t, rfl⟩ := hx.str
  obtain ⟨b, vl, vu, rfl, hS, p1, p2⟩ := hy.slc
  refine ⟨⟨"str", _, typeIs_str s x t, _root_.PySem.F.slot_str_getitem.lookup⟩, ?_⟩
  have q1 : ∃ l : Option (Int × Tok), vl = partValue l ∧ l.map (·.1) = lo := by
    cases p1 with
    | none => exact ⟨none, rfl, rfl⟩
    | int i t => exact ⟨some (i, t), rfl, rfl⟩
  have q2 : ∃ l : Option (Int × Tok), vu = partValue l ∧ l.map (·.1) = hi := by
    cases p2 with
    | none => exact ⟨none, rfl, rfl⟩
    | int i t => exact ⟨some (i, t), rfl, rfl⟩
  obtain ⟨l, rfl, rfl⟩ := q1
  obtain ⟨u, rfl, rfl⟩ := q2
  refine wpAny_getItem_str_slice (l := l) (u := u) (st := none) ⟨_, (ok.sub b _ hS).2, rfl, rfl⟩ rfl ?_
  unfold sliceMade slicePicked
  show (if ((1 : Int) == 1 && ((Builtin.Str.strSliceIndices (l.map (·.1)) (u.map (·.1)) 1 x.length).length == x.length)) = true then _ else _ : Made).post _ _
  have e : ((1 : Int) == 1) = true := rfl
  rw [e, Bool.true_and]
  unfold cutStr
  split
  · exact ⟨F, Fw.refl ok, .str ..⟩
  · exact ⟨Nat.le_trans (by show (List.toArray _).size ≤ _; rw [List.size_toArray]; exact List.length_filterMap_le _ _) hz, F, Fw.toks ok _, .str ..⟩
/-! texts -/
theorem strEq (x y : Str) : (x.cps.toList == y.cps.toList) = decide (x = y) := by
  obtain ⟨a⟩ := x; obtain ⟨b⟩ := y
  by_cases h : a = b
  · subst h; simp
  · have : a.toList ≠ b.toList := fun e => h (Array.toList_inj.mp e)
    simp [h]
theorem Op2.eqs {x y : Str} : Op2 w n (compareOp .Eq) (.str x) (.str y) (.bool (decide (x = y))) := fun A hA F s E mu u v ok hx hy => by
  obtain ⟨_, rfl⟩ := hx.str; obtain ⟨_, rfl⟩ := hy.str
  refine PySem.P.eq_str ?_
  rw [strEq]; exact ⟨F, Fw.refl ok, .bool _⟩
theorem Op2.adds {x y : Str} (hz : x.length + y.length ≤ sizeLine) : Op2 w n (binaryOp .Add) (.str x) (.str y) (.str (x ++ y)) := fun A hA F s E mu u v ok hx hy => by
  obtain ⟨_, rfl⟩ := hx.str; obtain ⟨_, rfl⟩ := hy.str
  refine PySem.P.add_str ?_
  split
  · rename_i h
    have : x = Str.empty := by
      obtain ⟨a⟩ := x
      have h0 : a.size = 0 := by simpa [Str.length] using h
      have : a = #[] := Array.eq_empty_of_size_eq_zero h0
      subst this; rfl
    subst this
    refine ⟨F, Fw.refl ok, ?_⟩
    rw [Str.empty_append]; exact .str ..
  · split
    · rename_i h
      have : y = Str.empty := by
        obtain ⟨a⟩ := y
        have h0 : a.size = 0 := by simpa [Str.length] using h
        have : a = #[] := Array.eq_empty_of_size_eq_zero h0
        subst this; rfl
      subst this
      refine ⟨F, Fw.refl ok, ?_⟩
      have e : x ++ Str.empty = x := by
        obtain ⟨a⟩ := x
        show Str.mk (a ++ #[]) = _
        simp
      rw [e]; exact .str ..
    · exact ⟨by rw [Str.length_append]; exact hz, F, Fw.toks ok _, .str ..⟩
end
end Mine
namespace Mine
open PySem PySem.Calls PyProof.Rows PySem.W
noncomputable def clOf (env : Env) : List (Str × NameKind) → List (Str × Addr) → List (Str × Addr)
  | [], acc => acc
  | (y, k) :: r, acc => if k == .free then (match env.cells.lookup y with | some c => clOf env r ((y, c) :: acc) | none => clOf env r acc) else clOf env r acc
noncomputable def freeOk (names : List (Str × NameKind)) (env : Env) : Bool := names.all fun p => p.2 != .free || (env.cells.lookup p.1).isSome
theorem cellOf_eq {env : Env} {y : Str} {c : Addr} (h : env.cells.lookup y = some c) : cellOf env y = pure c := by
  unfold cellOf; rw [h]
theorem closureFor_eq {scope : Scope} {env : Env} (h : freeOk scope.names env = true) : closureFor scope env = pure (clOf env scope.names []) := by
  unfold closureFor
  have key : ∀ (names : List (Str × NameKind)) (acc : List (Str × Addr)), freeOk names env = true →
      (forIn names acc fun x cs => if (x.2 == NameKind.free) = true then (do let a ← cellOf env x.1; pure (ForInStep.yield ((x.1, a) :: cs))) else pure (ForInStep.yield cs) : Sem _) = pure (clOf env names acc) := by
    intro names
    induction names with
    | nil => intro acc _; rfl
    | cons p r ih =>
      intro acc hf
      obtain ⟨y, k⟩ := p
      have hr : freeOk r env = true := by
        unfold freeOk at hf ⊢
        rw [List.all_cons] at hf
        exact (Bool.and_eq_true_iff.mp hf).2
      rw [List.forIn_cons]
      unfold clOf
      cases hk : k == NameKind.free with
      | false =>
        simp only [Bool.false_eq_true, if_false]
        rw [pure_bind]
        exact ih acc hr
      | true =>
        have h1 : (env.cells.lookup y).isSome = true := by
          unfold freeOk at hf
          rw [List.all_cons] at hf
          have := (Bool.and_eq_true_iff.mp hf).1
          have hk' : k = .free := by simpa using hk
          subst hk'
          simpa using this
        obtain ⟨c, hc⟩ := Option.isSome_iff_exists.mp h1
        simp only [if_true, hc, cellOf_eq hc, pure_bind]
        exact ih _ hr
  have := key scope.names [] h
  first
    | exact (congrArg (· >>= fun cs => pure cs) this).trans (by rw [pure_bind])
    | simpa using this
theorem clOf_mem {env : Env} : ∀ (names : List (Str × NameKind)) (acc : List (Str × Addr)) {y : Str} {c : Addr}, (y, c) ∈ clOf env names acc → (y, c) ∈ acc ∨ env.cells.lookup y = some c
  | [], acc, y, c, h => .inl h
  | (z, k) :: r, acc, y, c, h => by
    unfold clOf at h
    split at h
    · split at h
      · rename_i c' hc
        rcases clOf_mem r _ h with h | h
        · rcases List.mem_cons.mp h with h | h
          · cases h; exact .inr hc
          · exact .inl h
        · exact .inr h
      · exact clOf_mem r _ h
    · exact clOf_mem r _ h
theorem clOf_keep {env : Env} : ∀ (names : List (Str × NameKind)) (acc : List (Str × Addr)) {p : Str × Addr}, p ∈ acc → p ∈ clOf env names acc
  | [], acc, p, h => h
  | (z, k) :: r, acc, p, h => by
    unfold clOf
    split
    · split
      · exact clOf_keep r _ (.tail _ h)
      · exact clOf_keep r _ h
    · exact clOf_keep r _ h
theorem clOf_has {env : Env} : ∀ (names : List (Str × NameKind)) (acc : List (Str × Addr)) {y : Str} {c : Addr}, names.lookup y = some .free → env.cells.lookup y = some c → (y, c) ∈ clOf env names acc
  | [], acc, y, c, h, hc => by simp at h
  | (z, k) :: r, acc, y, c, h, hc => by
    rw [List.lookup_cons] at h
    unfold clOf
    cases hz : y == z with
    | true =>
      rw [hz] at h
      cases h
      have : y = z := by simpa using hz
      subst this
      simp only [beq_self_eq_true, if_true, hc]
      exact clOf_keep r _ (.head _)
    | false =>
      rw [hz] at h
      split
      · split
        · exact clOf_has r _ h hc
        · exact clOf_has r _ h hc
      · exact clOf_has r _ h hc
theorem lookup_of_mem {l : List (Str × Addr)} {y : Str} {c : Addr} (h : (y, c) ∈ l) : ∃ c', l.lookup y = some c' := by
  induction l with
  | nil => cases h
  | cons p r ih =>
    rw [List.lookup_cons]
    cases hb : y == p.1 with
    | true => exact ⟨_, rfl⟩
    | false =>
      rcases List.mem_cons.mp h with h | h
      · subst h; simp at hb
      · exact ih h
theorem clOf_look {env : Env} {names : List (Str × NameKind)} {y : Str} {c : Addr} (h : (clOf env names []).lookup y = some c) : env.cells.lookup y = some c := by
  rcases clOf_mem names [] (mem_of_lookup h) with h | h
  · cases h
  · exact h
theorem clOf_some {env : Env} {names : List (Str × NameKind)} {y : Str} {c : Addr} (h : names.lookup y = some .free) (hc : env.cells.lookup y = some c) : (clOf env names []).lookup y = some c := by
  obtain ⟨c', e⟩ := lookup_of_mem (clOf_has names [] h hc)
  rw [e, ← clOf_look e]; exact hc
/-- a comprehension's own frame -/
noncomputable def cenv (scope : Scope) (env : Env) (L : Addr) : Env :=
  { scope := relabel scope env, locals := L, globals := env.globals, cells := ownC L scope.names ++ clOf env scope.names [], qual := env.qual, func := none, code := env.code, frame := env.frame, builtins := env.builtins }
theorem relabel_keep {scope : Scope} {env : Env} {x : Str} {k : NameKind} (h : scope.names.lookup x = some k) (hk : k ≠ .free) : (relabel scope env).names.lookup x = some k := by
  unfold relabel
  dsimp only
  generalize scope.names = names at h
  induction names with
  | nil => simp at h
  | cons p r ih =>
    obtain ⟨n, k'⟩ := p
    rw [List.lookup_cons] at h
    rw [List.map_cons]
    cases hx : x == n with
    | true =>
      rw [hx] at h
      cases h
      have : (k == NameKind.free) = false := by simpa using hk
      simp only [this, Bool.false_and, Bool.false_eq_true, if_false, List.lookup_cons, hx]
    | false =>
      rw [hx] at h
      dsimp only
      split
      · rw [List.lookup_cons, hx]; exact ih h
      · rw [List.lookup_cons, hx]; exact ih h
theorem relabel_free {scope : Scope} {env : Env} {x : Str} (h : scope.names.lookup x = some .free) : (relabel scope env).names.lookup x = some .cell ∨ (relabel scope env).names.lookup x = some .free := by
  unfold relabel
  dsimp only
  generalize scope.names = names at h
  induction names with
  | nil => simp at h
  | cons p r ih =>
    obtain ⟨n, k'⟩ := p
    rw [List.lookup_cons] at h
    rw [List.map_cons]
    cases hx : x == n with
    | true =>
      rw [hx] at h
      cases h
      dsimp only
      split
      · left; rw [List.lookup_cons, hx]
      · right; rw [List.lookup_cons, hx]
    | false =>
      rw [hx] at h
      dsimp only
      split
      · rw [List.lookup_cons, hx]; exact ih h
      · rw [List.lookup_cons, hx]; exact ih h
noncomputable def capOk (scope : Scope) (y : Str) : Bool := scope.names.lookup y == some .free && ((ownC 0 scope.names).lookup y).isNone
theorem ownC_none {names : List (Str × NameKind)} {y : Str} (h : ((ownC 0 names).lookup y).isNone = true) (L : Addr) : (ownC L names).lookup y = none := by
  have := ownC_some names (0 + 1) (L + 1) y
  unfold ownC at h ⊢
  cases e : (cellsFrom (L + 1) names []).lookup y with
  | none => rfl
  | some c =>
    rw [e] at this
    cases e' : (cellsFrom (0 + 1) names []).lookup y with
    | none => rw [e'] at this; cases this
    | some c' => rw [e'] at h; cases h
noncomputable def EtL (w : World) (n : Nat) (env : Env) (fr : List Addr) (mc : Option MC) (σ : Sto) (ifs : List Expr) (b : Bool) : Prop :=
  ∀ A, Lim n A → ∀ F s E mu, Inv w env fr mc mu F σ s →
    wpAny (model prog w) A (forIn ifs true fun c r => if r = true then do let ok ← isTrue c env (eval c env); pure (ForInStep.yield ok) else pure (ForInStep.yield r)) (fun x s' => x = b ∧ ∃ F', Fw w [] F s F' s') E s
theorem EtL.nil {w : World} {n : Nat} {env : Env} {fr : List Addr} {mc : Option MC} {σ : Sto} : EtL w n env fr mc σ [] true := fun A hA F s E mu I => wpAny_tests_nil ⟨rfl, F, Fw.refl I.ok⟩
theorem EtL.one {w : World} {n : Nat} {env : Env} {fr : List Addr} {mc : Option MC} {σ : Sto} {c : Expr} {b : Bool} (h : Et w n env fr mc σ c b) : EtL w n env fr mc σ [c] b := fun A hA F s E mu I =>
  wpAny_tests_one (h A hA F s E mu I)
theorem Inv.clos {w : World} {env : Env} {fr : List Addr} {mc : Option MC} {mu : Mu} {F : Part} {σ : Sto} {s : Shared} (I : Inv w env fr mc mu F σ s) (names : List (Str × NameKind)) : ClosOk (clOf env names []) mu s where
  cell := fun y c e => by
    obtain ⟨h1, h2, v, o, ho, h3⟩ := I.cel y c (clOf_look e)
    exact ⟨h1, Heap.lt_size ho, h2, v, o, ho, h3⟩
  inj := fun x y c e1 e2 => I.fro.inj x y c (clOf_look e1) (clOf_look e2)
theorem Inv.muPre {w : World} {env : Env} {fr : List Addr} {mc : Option MC} {mu : Mu} {F : Part} {σ : Sto} {s : Shared} (I : Inv w env fr mc mu F σ s) : MuPre F s mc mu := by
  have h := I.mu0
  cases mc <;> cases mu
  · exact trivial
  · exact h
  · exact h
  · exact ⟨h.1, h.2.1, h.2.2.2.1, h.2.2.2.2⟩
theorem Inv.muLt {w : World} {env : Env} {fr : List Addr} {mc : Option MC} {mu : Mu} {F : Part} {σ : Sto} {s : Shared} (I : Inv w env fr mc mu F σ s) : ∀ a, mu = some a → a < s.heap.objs.size := fun a e => by
  have h := I.mu0
  subst e
  cases mc with
  | none => exact h.elim
  | some c => exact h.2.2.2.1
end Mine
namespace Mine
open PySem PySem.Calls PyProof.Rows PySem.W
theorem Fut.here {w : World} {wr : List Addr} {G : List Nat} {F : Part} {s : Shared} (ok : OK w F s) : Fut w wr G F s F s := Fut.of (T := []) (G' := []) (Fw.refl ok) (fun _ m => nomatch m) (fun _ m => nomatch m)
/-- what an iterator still gives; the objects it writes may grow -/
noncomputable def Yg (w : World) (n : Nat) (it : Value) (G : List Nat) : List AV → List Addr → Part → Shared → Prop
  | [], wr, F, s => ItOk wr G F s ∧ ∀ s₁ F₁, Fut w wr G F s F₁ s₁ → ∀ A, Lim n A → ∀ E,
      wpAny (model prog w) A (pyNext it) (fun r s₂ => r = none ∧ ∃ F₂, FwG w wr G F₁ s₁ F₂ s₂) E s₁
  | v :: l, wr, F, s => ItOk wr G F s ∧ ∀ s₁ F₁, Fut w wr G F s F₁ s₁ → ∀ A, Lim n A → ∀ E,
      wpAny (model prog w) A (pyNext it) (fun r s₂ => ∃ x F₂ wr', r = some x ∧ FwG w wr G F₁ s₁ F₂ s₂ ∧ Rd F₂ x v ∧ (∀ a ∈ wr', a ∈ wr ∨ s₁.heap.objs.size ≤ a) ∧ Yg w n it G l wr' F₂ s₂) E s₁
section
variable {w : World} {n : Nat} {it : Value} {wr : List Addr} {G : List Nat} {F F' F'' : Part} {s s' s'' : Shared} {l : List AV}
theorem Yg.ok (y : Yg w n it G l wr F s) : ItOk wr G F s := by
  cases l <;> exact y.1
theorem Yg.fut (y : Yg w n it G l wr F s) (h : Fut w wr G F s F' s') : Yg w n it G l wr F' s' := by
  cases l with
  | nil => exact ⟨y.1.fut h, fun s₁ F₁ h₁ => y.2 s₁ F₁ (h.trans y.1 h₁)⟩
  | cons v l => exact ⟨y.1.fut h, fun s₁ F₁ h₁ => y.2 s₁ F₁ (h.trans y.1 h₁)⟩
end
theorem Ys.g {w : World} {n : Nat} {it : Value} {wr : List Addr} {G : List Nat} : ∀ {l : List AV} {F : Part} {s : Shared}, Ys w n it wr G l F s → Yg w n it G l wr F s
  | [], _, _, y => y
  | _ :: _, _, _, y => ⟨y.1, fun s₁ F₁ h A hA E => wpAny_mono (y.2 s₁ F₁ h A hA E) (fun _ _ ⟨x, F₂, a, b, c, d⟩ => ⟨x, F₂, wr, a, b, c, fun _ m => .inl m, Ys.g d⟩) fun _ _ e => e⟩
/-- as Itb, but what is written may grow -/
noncomputable def Itg (w : World) (n : Nat) (env : Env) (fr : List Addr) (mc : Option MC) (σ : Sto) (e : Expr) (l : List AV) : Prop :=
  ∀ A, Lim n A → ∀ F s E mu, Inv w env fr mc mu F σ s → wpAny (model prog w) A (eval e env) (fun xv s₁ => wpAny (model prog w) A (pyIter xv) (fun it s₂ => ∃ F₂ wr G,
    Fw w [] F s F₂ s₂ ∧ (∀ a ∈ wr, s.heap.objs.size ≤ a) ∧ (∀ i ∈ G, s.gens.size ≤ i) ∧ Yg w n it G l wr F₂ s₂ ∧ Selfy w n it wr G F₂ s₂) E s₁) E s
theorem Itb.g {w : World} {n : Nat} {env : Env} {fr : List Addr} {mc : Option MC} {σ : Sto} {e : Expr} {l : List AV} (h : Itb w n env fr mc σ e l) : Itg w n env fr mc σ e l := fun A hA F s E mu I =>
  wpAny_mono (h A hA F s E mu I) (fun _ _ h => wpAny_mono h (fun _ _ ⟨F₂, wr, G, a, b, c, d, e⟩ => ⟨F₂, wr, G, a, b, c, d.g, e⟩) fun _ _ e => e) fun _ _ e => e
/-- may the name be handed down to a comprehension? -/
noncomputable def capIn (scope : Scope) (env : Env) (y : Str) : Bool := capOk scope y && env.kindOf y != some .local
section
variable {w : World} {n : Nat} {env : Env} {fr : List Addr} {mc : Option MC} {σ : Sto} {α : Type}
theorem cenv_look {scope : Scope} {C : Addr} {y : Str} {c : Addr} (h : (cenv scope env C).cells.lookup y = some c) : c ∈ frOf C scope.names ∨ (clOf env scope.names []).lookup y = some c := by
  have : (ownC C scope.names ++ clOf env scope.names []).lookup y = some c := h
  rw [lookup_append] at this
  cases q : (ownC C scope.names).lookup y with
  | some c' => rw [q] at this; cases this; exact .inl (own_mem q)
  | none => rw [q] at this; exact .inr this
/-- the loop of a comprehension; what is handed on when it has ended -/
theorem comp_loopG {scope : Scope} {x : String} {px : Pos} {iter elt : Expr} {ifs : List Expr} {pos : Pos} {L : List α} {g : α → AV} (p : α → Bool) (f : α → AV) (σ' : Sto)
    (hb : ∀ C a, a ∈ L → EtL w n (cenv scope env C) (frOf C scope.names) mc ((x, g a) :: σ') ifs (p a) ∧ (p a = true → Ev w n (cenv scope env C) (frOf C scope.names) mc ((x, g a) :: σ') elt (f a) ∧ f a ≠ .mu))
    (hx : own? scope (Str.ofString x) = true) (hxσ : ∀ q ∈ σ', q.1 ≠ x) (hlen : L.length ≤ 100000)
    {A : Around} (hA : Lim n A) {mu : Mu} {F₂ : Part} {s₂ s₄ : Shared} {D C z : Nat} {it : Value} {wr : List Nat} {G : List Nat} {R : Result → Shared → Prop}
    (ok₂ : OK w F₂ s₂) (hD : D = s₂.heap.objs.size) (hC : C = s₂.heap.objs.size + 1) (hy : Yg w n it G (L.map g) wr F₂ s₂) (hself : Selfy w n it wr G F₂ s₂) (W₄ : Fw w [] F₂ s₂ F₂ s₄)
    (I₄ : Inv w (cenv scope env C) (frOf C scope.names) mc mu F₂ σ' s₄) (hmuz : ∀ a : Nat, mu = some a → a < z) (hwr0 : ∀ a : Nat, a ∈ wr → z ≤ a) (hcells : ∀ (y : Str) (c : Nat), (clOf env scope.names []).lookup y = some c → c < z) (hz : z ≤ s₂.heap.objs.size)
    (hfr : ∀ a : Nat, a ∈ frOf C scope.names → C ≤ a) (hDl : s₄.heap.PlainList D #[])
    (hR : ∀ s₅ F₅ ys, FwG w (D :: frOf C scope.names ++ wr) G F₂ s₄ F₅ s₅ → s₅.heap.PlainList D ys → F₅ D = none → RdL F₅ ys.toList ((L.filter p).map f) → (∃ m, s₅.heap.Ns C m) → F₅ C = none → R (.ok .next) s₅) :
    codeAny (model prog w) A (.compStart (.ListComp elt [⟨.Name (Str.ofString x) px, iter, ifs, 0⟩] scope pos) 0 it (.ref D) (cenv scope env C)) R s₄ := by
  have hwr : ∀ a : Nat, a ∈ wr → a < s₂.heap.objs.size := fun a ha => (hy.ok.wr a ha).2.2
  have hDge : 207 ≤ D := hD ▸ ok₂.sz
  have hDlt : D < s₄.heap.objs.size := by obtain ⟨k0, hk0⟩ := hDl; exact Heap.lt_size hk0
  have hfrlt : ∀ a : Nat, a ∈ frOf C scope.names → a < s₄.heap.objs.size := fun a m => (I₄.fr0 a m).2.2
  have hDwr0 : D ∉ wr := fun m => Nat.lt_irrefl _ (hD ▸ hwr D m)
  have hDwr : ∀ {wr' : List Nat}, (∀ a ∈ wr', a ∈ wr ∨ s₄.heap.objs.size ≤ a) → D ∉ wr' := fun h m => (h D m).elim hDwr0 fun h => Nat.lt_irrefl _ (Nat.lt_of_lt_of_le hDlt h)
  have hfrwr : ∀ {wr' : List Nat}, (∀ a ∈ wr', a ∈ wr ∨ s₄.heap.objs.size ≤ a) → ∀ a : Nat, a ∈ frOf C scope.names → a ∉ wr' := fun h a h1 h2 => by
    rcases h a h2 with h2 | h2
    · have := hfr a h1; have := hwr a h2; omega
    · exact Nat.lt_irrefl _ (Nat.lt_of_lt_of_le (hfrlt a h1) h2)
  have hDfr : D ∉ frOf C scope.names := fun m => by have := hfr D m; omega
  have hz4 : z ≤ s₄.heap.objs.size := Nat.le_trans hz W₄.size
  have apart : ∀ {wr' : List Nat}, (∀ a ∈ wr', a ∈ wr ∨ s₄.heap.objs.size ≤ a) → ∀ T : List Nat, (∀ a : Nat, a ∈ T → a ∈ wr' ∨ a = D) → ∀ a ∈ T, a ∉ frOf C scope.names ∧ mu ≠ some a ∧ ∀ y, (cenv scope env C).cells.lookup y ≠ some a := fun hw' T hT a ha => by
    have hlt : z ≤ a ∧ a ∉ frOf C scope.names := by
      rcases hT a ha with h | h
      · exact ⟨(hw' a h).elim (hwr0 a) (Nat.le_trans hz4), fun m => hfrwr hw' a m h⟩
      · subst h; exact ⟨by omega, hDfr⟩
    refine ⟨hlt.2, (fun h => Nat.lt_irrefl _ (Nat.lt_of_lt_of_le (hmuz a h) hlt.1)), fun y e => ?_⟩
    rcases cenv_look e with h | h
    · exact hlt.2 h
    · have := hcells y a h; omega
  have hw : Wr (cenv scope env C) (frOf C scope.names) (Str.ofString x) := Wr.own (scope := scope) (closure := clOf env scope.names []) (fun k e hk => relabel_keep e hk) rfl hx
  have hfp : ∀ l : List α, (l.filter p).length ≤ l.length := fun l => List.length_filter_le ..
  -- the loop itself
  have loop : codeAny (model prog w) A (.compLoop (.ListComp elt [⟨.Name (Str.ofString x) px, iter, ifs, 0⟩] scope pos) 0 it (.ref D) (cenv scope env C)) R s₄ := by
    refine codeAny_compLoop_tests (fun k s' => ∃ (done rest : List α) (F' : Part) (ys : Array Value) (wr' : List Nat), L = done ++ rest ∧ k = rest.length ∧ Inv w (cenv scope env C) (frOf C scope.names) mc mu F' σ' s' ∧
        s'.heap.PlainList D ys ∧ RdL F' ys.toList ((done.filter p).map f) ∧ (∀ a ∈ wr', a ∈ wr ∨ s₄.heap.objs.size ≤ a) ∧ Yg w n it G (rest.map g) wr' F' s' ∧ FwG w (D :: frOf C scope.names ++ wr) G F₂ s₄ F' s' ∧ F' D = none)
      (fun k s' ⟨done, rest, F', ys, wr', hL, hk, I, hys, hr, hw', Y, W, hFD⟩ => ?_) L.length ⟨[], L, F₂, #[], wr, rfl, rfl, I₄, hDl, .nil, fun _ m => .inl m, hy.fut (Fut.of W₄ (fun _ m => nomatch m) (fun _ m => nomatch m)), (Fw.refl W₄.ok).wide, by rw [hD]; exact ok₂.old (Nat.le_refl _)⟩
    cases rest with
    | nil =>
      refine wpAny_mono (Y.2 s' F' (Fut.here I.ok) A hA _) (fun r s₅ ⟨hr', F₅, W₅⟩ => ?_) fun _ _ y => y
      subst hr'
      have I₅ := I.stepT W₅ (apart hw' wr' fun a m => .inl m)
      refine hR s₅ F₅ ys (W.trans' (W₅.mono (T' := wr') (fun _ m => m) fun _ m => m) (fun a m => (hw' a m).imp (fun m => List.mem_append.mpr (.inr m)) id) fun _ m => .inl m) (hys.at fun o e => W₅.heap D (ge_notTab hDge) (hDwr hw') o e) ?_ ?_ I₅.loc (I₅.fr0 C (List.mem_cons_self)).2.1
      · cases e : F₅ D with
        | none => rfl
        | some o =>
          obtain ⟨k0, hk0⟩ := hys
          rcases W₅.new D o e with h | h | h
          · rw [hFD] at h; cases h
          · exact absurd (Heap.lt_size hk0) (Nat.not_lt.mpr h)
          · exact absurd h (hDwr hw')
      · rw [List.append_nil] at hL; subst hL
        exact hr.mono W₅.le
    | cons a rest' =>
      have ha : a ∈ L := by rw [hL]; exact List.mem_append.mpr (.inr (.head _))
      refine wpAny_mono (Y.2 s' F' (Fut.here I.ok) A hA _) (fun r s₅ ⟨v, F₅, wr5, hr', W₅, R₅, hwr5, Y₅⟩ => ?_) fun _ _ y => y
      subst hr'
      have I₅ := I.stepT W₅ (apart hw' wr' fun a m => .inl m)
      have hw5 : ∀ a ∈ wr5, a ∈ wr ∨ s₄.heap.objs.size ≤ a := fun a m => (hwr5 a m).elim (hw' a) fun h => .inr (Nat.le_trans W.size h)
      refine wpAny_assign_Name (I₅.store hw (.inl R₅) fun s₆ I₆ W₆ hz6 => ?_)
      have I₆' : Inv w (cenv scope env C) (frOf C scope.names) mc mu F₅ ((x, g a) :: σ') s₆ := I₆.weaken fun q hq => by
        rcases List.mem_cons.mp hq with rfl | hq
        · exact mem_upd
        · exact mem_upd' hq (by have := hxσ q hq; simpa using this)
      refine wpAny_mono ((hb C a ha).1 A hA F₅ s₆ _ mu I₆') (fun ok s₇ ⟨hok, F₇, W₇⟩ => ?_) fun _ _ y => y
      subst hok
      have I₇ := I₆'.step W₇
      have W56 : FwG w (D :: frOf C scope.names ++ wr ++ wr') G F' s' F₇ s₇ :=
        ((W₅.mono (T' := D :: frOf C scope.names ++ wr ++ wr') (fun a m => List.mem_append.mpr (.inr m)) fun _ m => m).trans (W₆.mono (fun a m => List.mem_append.mpr (.inl (List.mem_append.mpr (.inl (List.mem_cons_of_mem _ m))))))).trans W₇.wide
      have WW : FwG w (D :: frOf C scope.names ++ wr) G F₂ s₄ F₇ s₇ := W.trans' W56 (fun a m => by
        rcases List.mem_append.mp m with m | m
        · exact .inl m
        · exact (hw' a m).imp (fun m => List.mem_append.mpr (.inr m)) id) fun _ m => .inl m
      have Y₇ : Yg w n it G (rest'.map g) wr5 F₇ s₇ := (Y₅.fut (Fut.of W₆ (hfrwr hw5) fun _ m => nomatch m)).fut (Fut.of W₇ (fun _ m => nomatch m) fun _ m => nomatch m)
      have keepD : ∀ {T : List Nat} {G' : List Nat} {F1 F2 : Part} {s1 s2 : Shared} {zs : Array Value}, FwG w T G' F1 s1 F2 s2 → D ∉ T → F1 D = none → s1.heap.PlainList D zs → F2 D = none ∧ s2.heap.PlainList D zs := by
        intro T G' F1 F2 s1 s2 zs X hT h0 hp
        refine ⟨?_, hp.at fun o e => X.heap D (ge_notTab hDge) hT o e⟩
        cases e : F2 D with
        | none => rfl
        | some o =>
          obtain ⟨k0, hk0⟩ := hp
          rcases X.new D o e with h | h | h
          · rw [h0] at h; cases h
          · exact absurd (Heap.lt_size hk0) (Nat.not_lt.mpr h)
          · exact absurd h hT
      have k5 := keepD W₅ (hDwr hw') hFD hys
      have k6 := keepD W₆ hDfr k5.1 k5.2
      have k7 := keepD W₇ (fun m => nomatch m) k6.1 k6.2
      cases hp : p a with
      | false =>
        simp only [Bool.false_eq_true, if_false]
        refine ⟨rest'.length, by rw [hk]; simp, done ++ [a], rest', F₇, ys, wr5, by rw [hL]; simp, rfl, I₇.weaken fun q hq => .tail _ hq, k7.2, ?_, hw5, Y₇, WW, k7.1⟩
        rw [List.filter_append, List.filter_cons, hp]
        simpa using hr.mono (W56.le)
      | true =>
        simp only [if_true]
        obtain ⟨he, hne⟩ := (hb C a ha).2 hp
        refine wpAny_mono (he A hA F₇ s₇ _ mu I₇) (fun v' s₈ ⟨F₈, W₈, R₈⟩ => ?_) fun _ _ y => y
        have k8 := keepD W₈ (fun m => nomatch m) k7.1 k7.2
        have hlen' : ys.size ≤ L.length := by
          have h1 := hr.length
          have h2 := hfp done
          have h3 : done.length ≤ L.length := by rw [hL]; simp
          simp at h1
          omega
        refine wpAny_list_append_plain k8.2 (fun h' hp' hs' => ?_) (Nat.le_trans (Nat.le_trans hlen' hlen) (by decide))
        have W₉ : FwG w [D] [] F₈ s₈ F₈ { s₈ with heap := h' } := Fw.change W₈.ok (fun a m => by rw [List.mem_singleton.mp m]; exact ⟨hDge, k8.1⟩)
          (fun a m o e => (hs'.2 a (fun h => m (by rw [h]; exact .head _))).trans e) (by show _ ≤ h'.objs.size; rw [hs'.1]; exact Nat.le_refl _) rfl rfl
        refine ⟨rest'.length, by rw [hk]; simp, done ++ [a], rest', F₈, ys.push v', wr5, by rw [hL]; simp, rfl, ((I₇.step W₈).stepT W₉ (apart hw5 [D] fun a m => .inr (List.mem_singleton.mp m))).weaken fun q hq => .tail _ hq, hp', ?_, hw5, ?_, ?_, k8.1⟩
        · rw [List.filter_append, List.filter_cons, hp]
          have h1 := hr.mono (W56.le.trans W₈.le)
          have h2 : RdL F₈ [v'] [f a] := .cons (R₈.rd hne) .nil
          simpa using h1.append h2
        · exact (Y₇.fut (Fut.of W₈ (fun _ m => nomatch m) fun _ m => nomatch m)).fut (Fut.of W₉ (fun a m h => hDwr hw5 (by rw [← List.mem_singleton.mp m]; exact h)) fun _ m => nomatch m)
        · exact WW.trans (W₈.wide.trans (W₉.mono (fun a m => by rw [List.mem_singleton.mp m]; exact List.mem_append.mpr (.inl (.head _)))))
  exact codeAny_compStart_list loop (hself s₄ F₂ (Fut.of W₄ (fun _ m => nomatch m) fun _ m => nomatch m) A hA _ _ loop)
end
end Mine
namespace Mine
open PySem PySem.Calls PyProof.Rows PySem.W
section
variable {w : World} {n : Nat} {env : Env} {fr : List Addr} {mc : Option MC} {σ : Sto} {α : Type}
theorem comp_coreG {scope : Scope} {x : String} {px : Pos} {iter elt : Expr} {ifs : List Expr} {pos pos' : Pos} {L : List α} {g : α → AV} (p : α → Bool) (f : α → AV) (σ' : Sto)
    (hi : Itg w n env fr mc σ iter (L.map g))
    (hb : ∀ C a, a ∈ L → EtL w n (cenv scope env C) (frOf C scope.names) mc ((x, g a) :: σ') ifs (p a) ∧ (p a = true → Ev w n (cenv scope env C) (frOf C scope.names) mc ((x, g a) :: σ') elt (f a) ∧ f a ≠ .mu))
    (hσ : ∀ q ∈ σ', q ∈ σ ∧ capIn scope env (Str.ofString q.1) = true)
    (hfree : freeOk scope.names env = true) (hx : own? scope (Str.ofString x) = true) (hk : scope.kind = .function) (hnames : ∀ y ∈ scope.names, y.2 = .local → scope.names.lookup y.1 = some .local)
    (hs : ∀ x, foldedSetIterable iter env x = pure x) (hlen : L.length ≤ 100000)
    {A : Around} (hA : Lim n A) {F : Part} {s : Shared} {mu : Mu} (I : Inv w env fr mc mu F σ s) {use : Option (Value → Sem Unit)} {Q : Value → Shared → Prop} {E : Value → Shared → Prop}
    (hend : ∀ (D C : Nat) (s₅ : Shared) (F₅ : Part) (ys : Array Value) (T : List Nat) (G : List Nat), FwG w T G F s F₅ s₅ → (∀ a ∈ T, s.heap.objs.size ≤ a) → (∀ i ∈ G, s.gens.size ≤ i) → s₅.heap.PlainList D ys → F₅ D = none → RdL F₅ ys.toList ((L.filter p).map f) →
      (∃ m, s₅.heap.Ns C m) → s.heap.objs.size ≤ D → s.heap.objs.size ≤ C → D ≠ C → F₅ C = none → compPost (model prog w) A E use Q (.ref D) C (.ok .next) s₅) :
    wpAny (model prog w) A (comprehension (.ListComp elt [⟨.Name (Str.ofString x) px, iter, ifs, 0⟩] scope pos) scope env pos' (newList []) false (eval iter env) use) Q E s := by
  refine wpAny_comprehension_free (g := ⟨.Name (Str.ofString x) px, iter, ifs, 0⟩) (gs := []) rfl hs (closureFor_eq hfree) hk hnames ?_
  refine wpAny_mono (hi A hA F s E mu I) (fun xv s₁ h₁ => wpAny_mono h₁ (fun it s₂ ⟨F₂, wr, G, W₂, hwr, hG, hy, hself⟩ => ?_) fun _ _ y => y) fun _ _ y => y
  have I₂ := I.step W₂
  refine wpAny_newList ?_ (by decide)
  have W₃ : Fw w [] F₂ s₂ F₂ { s₂ with heap := s₂.heap.push { cls := .type "list", data := .seq ([] : List Value).toArray } } :=
    Fw.grow W₂.ok (fun _ _ e => Heap.get?_push_of_some _ e) (by rw [Heap.size_push]; exact Nat.le_succ _) rfl rfl
  have hz3 : (s₂.heap.push { cls := .type "list", data := .seq ([] : List Value).toArray }).objs.size = s₂.heap.objs.size + 1 := Heap.size_push ..
  have I₃ := I₂.step W₃
  refine newEnv_rule (binds := []) W₃.ok fun h' W hn hcell hpw hkeep => ?_
  rw [List.forIn_nil]
  refine wpAny_pure ?_
  have he : ({ newEnv scope (s₂.heap.push { cls := .type "list", data := .seq ([] : List Value).toArray }).objs.size env.globals
      (cellsFrom ((s₂.heap.push { cls := .type "list", data := .seq ([] : List Value).toArray }).objs.size + 1) scope.names (clOf env scope.names [])) env.qual none .none (some env) builtinsNs with scope := relabel scope env } : Env) =
      cenv scope env (s₂.heap.push { cls := .type "list", data := .seq ([] : List Value).toArray }).objs.size := by
    unfold cenv newEnv ownC
    rw [cellsFrom_append]
  show codeAny _ _ (.compStart _ 0 it _ ({ newEnv scope (s₂.heap.push { cls := .type "list", data := .seq ([] : List Value).toArray }).objs.size env.globals
      (cellsFrom ((s₂.heap.push { cls := .type "list", data := .seq ([] : List Value).toArray }).objs.size + 1) scope.names (clOf env scope.names [])) env.qual none .none (some env) builtinsNs with scope := relabel scope env } : Env)) _ _
  rw [he]
  have hfr : ∀ a : Nat, a ∈ frOf (s₂.heap.push { cls := .type "list", data := .seq ([] : List Value).toArray }).objs.size scope.names → (s₂.heap.push { cls := .type "list", data := .seq ([] : List Value).toArray }).objs.size ≤ a := fun a ha => by
    rcases List.mem_cons.mp ha with rfl | ha
    · exact Nat.le_refl _
    · obtain ⟨⟨y, c⟩, hm, rfl⟩ := List.mem_map.mp ha
      exact Nat.le_of_lt (hcell y c hm).1
  have I₄ : Inv w (cenv scope env (s₂.heap.push { cls := .type "list", data := .seq ([] : List Value).toArray }).objs.size) (frOf (s₂.heap.push { cls := .type "list", data := .seq ([] : List Value).toArray }).objs.size scope.names) mc mu F₂ σ'
      { s₂ with heap := h' } := by
    refine Inv.fresh (s := { s₂ with heap := s₂.heap.push { cls := .type "list", data := .seq ([] : List Value).toArray } }) (closure := clOf env scope.names []) rfl rfl hk I.fro.glo I.fro.bui W₃.ok W hn hcell hpw hkeep (I₃.clos scope.names) I₃.muPre fun q hq => ?_
    obtain ⟨h1, h2⟩ := hσ q hq
    obtain ⟨h4, h5⟩ := Bool.and_eq_true_iff.mp h2
    obtain ⟨h6, h7⟩ := Bool.and_eq_true_iff.mp h4
    have h6 : scope.names.lookup (Str.ofString q.1) = some .free := by simpa using h6
    obtain ⟨v, hv, hr⟩ := I₃.vars q h1
    refine ⟨ownC_none h7 _, (relabel_free h6).imp id id, ?_⟩
    rcases hv with ⟨hv, _⟩ | ⟨_, c, hc, hcl⟩
    · rw [hv] at h5; simp at h5
    · exact ⟨c, v, clOf_some h6 hc, hcl, hr⟩
  refine comp_loopG (z := s.heap.objs.size) p f σ' hb hx (fun q hq e => ?_) hlen hA W₂.ok rfl hz3 hy hself (W₃.trans W) I₄ I.muLt hwr (fun y c e => ?_) W₂.size hfr ⟨0, hkeep _ _ (Heap.get?_push_size _ rfl)⟩ fun s₅ F₅ ys X hp hD hr hns hC5 => ?_
  · obtain ⟨_, h2⟩ := hσ q hq
    obtain ⟨h4, h5⟩ := Bool.and_eq_true_iff.mp h2
    obtain ⟨h6, h7⟩ := Bool.and_eq_true_iff.mp h4
    rw [e] at h6
    have h6 : scope.names.lookup (Str.ofString x) = some .free := by simpa using h6
    unfold own? at hx
    rw [h6] at hx
    simp at hx
  · obtain ⟨_, h2, _⟩ := (I.clos scope.names).cell y c e
    exact h2
  · have hT : ∀ a ∈ (s₂.heap.objs.size :: frOf (s₂.heap.push { cls := .type "list", data := .seq ([] : List Value).toArray }).objs.size scope.names ++ wr : List Nat), s.heap.objs.size ≤ a := fun a ha => by
      rcases List.mem_append.mp ha with ha | ha
      · rcases List.mem_cons.mp ha with rfl | ha
        · exact W₂.size
        · exact Nat.le_trans (Nat.le_trans W₂.size (by rw [hz3]; exact Nat.le_succ _)) (hfr a ha)
      · exact hwr a ha
    refine hend s₂.heap.objs.size _ s₅ F₅ ys _ G ((W₂.trans (W₃.trans W)).wide.trans X) hT hG hp hD hr hns W₂.size (Nat.le_trans W₂.size (by rw [hz3]; exact Nat.le_succ _)) (by rw [hz3]; exact Nat.ne_of_lt (Nat.lt_succ_self _)) hC5
end
end Mine
namespace Mine
open PySem PySem.Calls PyProof.Rows PySem.W
section
variable {w : World} {n : Nat} {env : Env} {fr : List Addr} {mc : Option MC} {σ : Sto} {α : Type}
theorem Ev.comp {scope : Scope} {x : String} {px : Pos} {iter elt : Expr} {ifs : List Expr} {pos : Pos} {L : List α} {g : α → AV} (p : α → Bool) (f : α → AV) (σ' : Sto)
    (hi : Itb w n env fr mc σ iter (L.map g))
    (hb : ∀ C a, a ∈ L → EtL w n (cenv scope env C) (frOf C scope.names) mc ((x, g a) :: σ') ifs (p a) ∧ (p a = true → Ev w n (cenv scope env C) (frOf C scope.names) mc ((x, g a) :: σ') elt (f a) ∧ f a ≠ .mu))
    (hσ : ∀ q ∈ σ', q ∈ σ ∧ capIn scope env (Str.ofString q.1) = true)
    (hfree : freeOk scope.names env = true) (hx : own? scope (Str.ofString x) = true) (hk : scope.kind = .function) (hnames : ∀ y ∈ scope.names, y.2 = .local → scope.names.lookup y.1 = some .local)
    (hs : ∀ x, foldedSetIterable iter env x = pure x) (hlen : L.length ≤ 100000) :
    Ev w n env fr mc σ (.ListComp elt [⟨.Name (Str.ofString x) px, iter, ifs, 0⟩] scope pos) (.list ((L.filter p).map f)) := fun A hA F s E mu I => by
  show wpAny _ A (comprehension (.ListComp elt [⟨.Name (Str.ofString x) px, iter, ifs, 0⟩] scope pos) scope env _ (newList []) false (eval iter env) none) _ _ s
  refine comp_coreG p f σ' hi.g hb hσ hfree hx hk hnames hs hlen hA I fun D C s₅ F₅ ys T G X hT hG hp hD hr hns hDs hCs hne hC5 => ?_
  obtain ⟨m, hm⟩ := hns
  refine ⟨m, hm, fun h' hs' => ?_⟩
  have h207 : 207 ≤ s.heap.objs.size := I.ok.sz
  have hs0 : 207 ≤ C := Nat.le_trans h207 hCs
  have W : FwG w [C] [] F₅ s₅ F₅ { s₅ with heap := h' } := Fw.change X.ok (fun a m => by rw [List.mem_singleton.mp m]; exact ⟨hs0, hC5⟩)
    (fun a m o e => (hs'.2 a (fun h => m (by rw [h]; exact .head _))).trans e) (by show _ ≤ h'.objs.size; rw [hs'.1]; exact Nat.le_refl _) rfl rfl
  obtain ⟨k, hk⟩ := hp.at fun o e => W.heap D (ge_notTab (Nat.le_trans h207 hDs)) (fun m => hne (List.mem_singleton.mp m)) o e
  have Y := (X.trans' (W.mono (G' := G) (fun a m => m) (fun _ m => nomatch m)) (fun a m => .inr (by rw [List.mem_singleton.mp m]; exact hCs)) fun i m => .inl m).drop (T := []) (G := []) (fun a m => .inr (hT a m)) fun i m => .inr (hG i m)
  exact ⟨_, Y.freeze hD (ge_notTab (Nat.le_trans h207 hDs)) (.inl hDs) hk, .inl (.list (Part.put_self ..) (hr.mono (Part.le_put hD)))⟩
theorem Es.assignComp {y : String} {py spos : Pos} {scope : Scope} {x : String} {px : Pos} {iter elt : Expr} {ifs : List Expr} {pos : Pos} {L : List α} {g : α → AV} (p : α → Bool) (f : α → AV) (σ' : Sto)
    (hi : Itb w n env fr mc σ iter (L.map g))
    (hb : ∀ C a, a ∈ L → EtL w n (cenv scope env C) (frOf C scope.names) mc ((x, g a) :: σ') ifs (p a) ∧ (p a = true → Ev w n (cenv scope env C) (frOf C scope.names) mc ((x, g a) :: σ') elt (f a) ∧ f a ≠ .mu))
    (hσ : ∀ q ∈ σ', q ∈ σ ∧ capIn scope env (Str.ofString q.1) = true)
    (hfree : freeOk scope.names env = true) (hx : own? scope (Str.ofString x) = true) (hk : scope.kind = .function) (hnames : ∀ y ∈ scope.names, y.2 = .local → scope.names.lookup y.1 = some .local)
    (hs : ∀ x, foldedSetIterable iter env x = pure x) (hlen : L.length ≤ 100000)
    (hsw : swapsWith (.ListComp elt [⟨.Name (Str.ofString x) px, iter, ifs, 0⟩] scope pos) (some (.Name (Str.ofString y) py)) spos.line env = pure true) (hw : Wr env fr (Str.ofString y)) :
    Es w n env fr mc σ (.Assign [.Name (Str.ofString y) py] (.ListComp elt [⟨.Name (Str.ofString x) px, iter, ifs, 0⟩] scope pos) spos) (.nxt mc (upd σ y (.list ((L.filter p).map f)))) := fun A hA F s E mu I => by
  rw [exec_Assign_Name_used _ _ _ _ hsw]
  refine wpAny_bind (wpAny_standAt (wpAny_bind ?_))
  show wpAny _ A (do let _ ← comprehension (.ListComp elt [⟨.Name (Str.ofString x) px, iter, ifs, 0⟩] scope pos) scope env _ (newList []) false (eval iter env) (some (PySem.assign (.Name (Str.ofString y) py) env))) _ _ s
  refine wpAny_bind (wpAny_mono (comp_coreG (Q := fun _ s' => ∃ F', Fw w (fr ++ mu.toList) F s F' s' ∧ PostO w env fr mu s (.nxt mc (upd σ y (.list ((L.filter p).map f)))) .next F' s') p f σ' hi.g hb hσ hfree hx hk hnames hs hlen hA I
    fun D C s₅ F₅ ys T G X hT hG hp hD hr hns hDs hCs hne hC5 => ?_)
    (fun _ s' hq => wpAny_pure (wpAny_pure hq)) fun _ _ e => e)
  obtain ⟨m, hm⟩ := hns
  have h207 : 207 ≤ s.heap.objs.size := I.ok.sz
  have hs0 : 207 ≤ C := Nat.le_trans h207 hCs
  obtain ⟨k, hk⟩ := hp
  have X' := (X.drop (T := []) (G := []) (fun a m => .inr (hT a m)) fun i m => .inr (hG i m)).freeze hD (ge_notTab (Nat.le_trans h207 hDs)) (.inl hDs) hk
  have I₅ := I.step X'
  refine wpAny_assign_Name (I₅.store hw (.inl (.list (Part.put_self ..) (hr.mono (Part.le_put hD)))) fun s₆ I₆ W₆ hz => ?_)
  have hCfr : C ∉ fr := fun m => by have := (I.fr0 C m).2.2; exact Nat.lt_irrefl _ (Nat.lt_of_lt_of_le this hCs)
  refine ⟨m, ns_at hm fun o e => W₆.heap C (ge_notTab hs0) hCfr o e, fun h' hs' => ?_⟩
  have hC6 : (F₅.put D (listO ys k)) C = none := by rw [Part.put_other _ _ (Ne.symm hne)]; exact hC5
  have W : FwG w [C] [] (F₅.put D (listO ys k)) s₆ (F₅.put D (listO ys k)) { s₆ with heap := h' } := Fw.change W₆.ok (fun a m => by rw [List.mem_singleton.mp m]; exact ⟨hs0, hC6⟩)
    (fun a m o e => (hs'.2 a (fun h => m (by rw [h]; exact .head _))).trans e) (by show _ ≤ h'.objs.size; rw [hs'.1]; exact Nat.le_refl _) rfl rfl
  refine ⟨_, (X'.wide.trans (W₆.mono fun a m => List.mem_append.mpr (.inl m))).trans' W (fun a m => .inr (by rw [List.mem_singleton.mp m]; exact hCs)) (fun _ m => nomatch m), rfl, mu, I₆.stepT W fun a m => ?_, fun _ e => .inl e⟩
  rw [List.mem_singleton.mp m]
  refine ⟨hCfr, fun e => ?_, fun y e => ?_⟩
  · have h := I.mu0
    subst e
    cases mc with
    | none => exact h
    | some c => exact Nat.lt_irrefl _ (Nat.lt_of_lt_of_le h.2.2.2.1 hCs)
  · obtain ⟨_, h2, _⟩ := (I.clos [(y, .free)]).cell y C (by unfold clOf; simp [e, clOf])
    exact Nat.lt_irrefl _ (Nat.lt_of_lt_of_le h2 hCs)
end
end Mine
namespace Mine
open PySem PySem.Calls PyProof.Rows PySem.W
noncomputable def Tr (w : World) (n : Nat) (a : AV) (b : Bool) : Prop :=
  ∀ A, Lim n A → ∀ F s E x, OK w F s → Rd F x a → wpAny (model prog w) A (truthy x) (fun r s' => r = b ∧ ∃ F', Fw w [] F s F' s') E s
section
variable {w : World} {n : Nat} {env : Env} {fr : List Addr} {mc : Option MC} {σ : Sto}
theorem Tr.bool {b : Bool} : Tr w n (.bool b) b := fun A hA F s E x ok r => by cases r; exact wpAny_truthy_bool ⟨rfl, F, Fw.refl ok⟩
theorem Tr.int {i : Int} : Tr w n (.int i) (i != 0) := fun A hA F s E x ok r => by cases r; exact PySem.P.truthy_int ⟨rfl, F, Fw.refl ok⟩
theorem Tr.str {x : Str} (h : x.length ≤ 100000) : Tr w n (.str x) ((x.length : Int) != 0) := fun A hA F s E v ok r => by
  cases r; exact PySem.P.truthy_str (by omega) ⟨rfl, F, Fw.toks ok _⟩
theorem Tr.list {l : List AV} (h : l.length ≤ 100000) : Tr w n (.list l) (!l.isEmpty) := fun A hA F s E v ok r => by
  cases r with
  | list e rr =>
    rename_i a xs k
    have hs : xs.size = l.length := by simpa using rr.length
    refine wpAny_truthy_list (ok.isList e) (by rw [hs]; omega) ?_
    exact ⟨by rw [Array.isEmpty, hs]; cases l <;> simp, F, Fw.toks ok _⟩
theorem Et.plain {e : Expr} {v : AV} {b : Bool} (h : Ev w n env fr mc σ e v) (ht : Tr w n v b) (hv : v ≠ .mu := by intro h; cases h)
    (he : ∀ whole, isTrue e env whole = (do let v ← whole; standAt e.pos; holding [v] (truthy v)) := by intro _; rfl) : Et w n env fr mc σ e b := fun A hA F s E mu I =>
  isTrue_plain (h.use hA I (Fw.refl I.ok) fun x s₁ F₁ I₁ W₁ L₁ R₁ =>
    wpAny_mono (ht A hA F₁ s₁ E x I₁.ok (R₁.rd hv)) (fun r s₂ ⟨hr, F₂, W₂⟩ => ⟨hr, F₂, W₁.trans W₂⟩) fun _ _ y => y) (he _)
theorem Et.not {x : Expr} {pos : Pos} {b : Bool} (h : Et w n env fr mc σ x b) : Et w n env fr mc σ (.UnaryOp .Not x pos) (!b) := fun A hA F s E mu I =>
  isTrue_not (wpAny_mono (h A hA F s E mu I) (fun r s₁ ⟨hr, h⟩ => ⟨by rw [hr], h⟩) fun _ _ y => y)
theorem Et.and_nil {pos : Pos} : Et w n env fr mc σ (.BoolOp .And [] pos) true := fun A hA F s E mu I => isTrue_and_nil ⟨rfl, F, Fw.refl I.ok⟩
theorem Et.or_nil {pos : Pos} : Et w n env fr mc σ (.BoolOp .Or [] pos) false := fun A hA F s E mu I => isTrue_or_nil ⟨rfl, F, Fw.refl I.ok⟩
theorem Et.and {x : Expr} {rest : List Expr} {pos : Pos} {b c : Bool} (h : Et w n env fr mc σ x b) (hr : b = true → Et w n env fr mc σ (.BoolOp .And rest pos) c) : Et w n env fr mc σ (.BoolOp .And (x :: rest) pos) (b && c) := fun A hA F s E mu I =>
  isTrue_and (wpAny_mono (h A hA F s E mu I) (fun r s₁ ⟨hb, F₁, W₁⟩ => by
    subst hb
    cases r with
    | false => exact ⟨rfl, F₁, W₁⟩
    | true => exact wpAny_mono (hr rfl A hA F₁ s₁ E mu (I.step W₁)) (fun r s₂ ⟨hr, F₂, W₂⟩ => ⟨hr, F₂, W₁.trans W₂⟩) fun _ _ y => y) fun _ _ y => y)
theorem Et.or {x : Expr} {rest : List Expr} {pos : Pos} {b c : Bool} (h : Et w n env fr mc σ x b) (hr : b = false → Et w n env fr mc σ (.BoolOp .Or rest pos) c) : Et w n env fr mc σ (.BoolOp .Or (x :: rest) pos) (b || c) := fun A hA F s E mu I =>
  isTrue_or (wpAny_mono (h A hA F s E mu I) (fun r s₁ ⟨hb, F₁, W₁⟩ => by
    subst hb
    cases r with
    | true => exact ⟨rfl, F₁, W₁⟩
    | false => exact wpAny_mono (hr rfl A hA F₁ s₁ E mu (I.step W₁)) (fun r s₂ ⟨hr, F₂, W₂⟩ => ⟨hr, F₂, W₁.trans W₂⟩) fun _ _ y => y) fun _ _ y => y)
theorem Ev.ifexp {test body orelse : Expr} {pos : Pos} {b : Bool} {v : AV} (h : Et w n env fr mc σ test b) (h1 : b = true → Ev w n env fr mc σ body v) (h2 : b = false → Ev w n env fr mc σ orelse v) :
    Ev w n env fr mc σ (.IfExp test body orelse pos) v := fun A hA F s E mu I =>
  IfExp_ (wpAny_mono (h A hA F s E mu I) (fun r s₁ ⟨hb, F₁, W₁⟩ => by
    subst hb
    cases r with
    | true => exact wpAny_mono (h1 rfl A hA F₁ s₁ E mu (I.step W₁)) (fun r s₂ ⟨F₂, W₂, R₂⟩ => ⟨F₂, W₁.trans W₂, R₂⟩) fun _ _ y => y
    | false => exact wpAny_mono (h2 rfl A hA F₁ s₁ E mu (I.step W₁)) (fun r s₂ ⟨F₂, W₂, R₂⟩ => ⟨F₂, W₁.trans W₂, R₂⟩) fun _ _ y => y) fun _ _ y => y)
/-- an operation of one value -/
noncomputable def Op1 (w : World) (n : Nat) (t : Value → Sem Value) (a c : AV) : Prop :=
  ∀ A, Lim n A → ∀ F s E x, OK w F s → Rd F x a → wpAny (model prog w) A (t x) (fun z s' => ∃ F', Fw w [] F s F' s' ∧ Rd F' z c) E s
theorem Ev.una {op : UnaryOp} {x : Expr} {pos : Pos} {a c : AV} (h : Ev w n env fr mc σ x a) (ho : Op1 w n (unaryOp op) a c) (hv : a ≠ .mu := by intro h; cases h) : Ev w n env fr mc σ (.UnaryOp op x pos) c := fun A hA F s E mu I =>
  UnaryOp_ (h.use hA I (Fw.refl I.ok) fun x s₁ F₁ I₁ W₁ L₁ R₁ =>
    wpAny_mono (ho A hA F₁ s₁ E x I₁.ok (R₁.rd hv)) (fun r s₂ ⟨F₂, W₂, R₂⟩ => ⟨F₂, W₁.trans W₂, .inl R₂⟩) fun _ _ y => y)
/-! methods -/
noncomputable def HasT (T : String) (a : AV) : Prop := ∀ w F (s : Shared) x, OK w F s → Rd F x a → s.TypeIs x T ∧ ∀ b, x = .ref b → ∃ ob, s.heap.get? b = some ob ∧ ob.dict = Option.none
theorem HasT.str {x : Str} : HasT "str" (.str x) := fun w F s v ok r => by cases r; exact ⟨typeIs_str _ _ _, fun _ e => nomatch e⟩
theorem HasT.int {x : Int} : HasT "int" (.int x) := fun w F s v ok r => by cases r; exact ⟨typeIs_int _ _ _, fun _ e => nomatch e⟩
theorem Ev.meth {o : Expr} {name : Str} {apos pos : Pos} {args : List Expr} {a v : AV} {vs : List AV} {T id : String} (ho : Ev w n env fr mc σ o a) (hs : EvL w n env fr mc σ args vs) (hT : HasT T a) (pa : PlainAttrs T) (slot : Slot T name id)
    (hty : typeOf (.builtin id) = pure (.type "method_descriptor")) (hc : Fc w n (.builtin id) (a :: vs) v) (hv : a ≠ .mu := by intro h; cases h)
    (hbase : attributeBase o name env (eval o env) = eval o env := by rfl)
    (hfew : ((backTo pos (starEach args env)).all (fun x => !x.1) && (backToKw pos (keywordEach [] env)).all (fun x => x.1.isSome)
      && decide (args.length + ([] : List Keyword).length + (if ([] : List Keyword).isEmpty then 0 else 1) < 30)) = true := by rfl)
    (hline : (apos.endLine == pos.line) = true := by rfl) : Ev w n env fr mc σ (.Call (.Attribute o name apos) args [] pos) v := fun A hA F s E mu I =>
  wpAny_Call_method_lateS hbase hfew hline (ho.use hA I (Fw.refl I.ok) fun ov s₁ F₁ I₁ W₁ L₁ R₁ => by
    obtain ⟨h1, h2⟩ := hT w F₁ s₁ ov I₁.ok (R₁.rd hv)
    refine ⟨T, id, pa, slot, hty, h1, h2, callWith_builtin (hs pos).1 (evalArgs_any (hs pos).1 (hs.use hA I₁ W₁ fun xs s₂ F₂ I₂ W₂ L₂ R₂ => ?_))⟩
    exact wpAny_mono (hc A hA F₂ s₂ (ov :: xs) E I₂.ok (.cons ((R₁.mono L₂).rd hv) R₂)) (fun x s₃ ⟨F₃, W₃, R₃⟩ => ⟨F₃, W₂.trans W₃, .inl R₃⟩) fun _ _ y => y)
end
end Mine
namespace Mine
open PySem PySem.Calls PyProof.Rows PySem.W
theorem heapOnly {α : Type} {M : Model} {A : Around} {s : Shared} {t : Sem α} {Q : α → Shared → Prop} {E : Value → Shared → Prop} {a : α} {P : Heap → Prop}
    (h : ∀ {Q : α → Shared → Prop} {E : Value → Shared → Prop}, (∀ h', P h' → Q a { s with heap := h' }) → wpAny M A t Q E s)
    (hQ : ∀ h', P h' → s.heap.objs.size ≤ h'.objs.size → Q a { s with heap := h' }) : wpAny M A t Q E s :=
  with_gr (h fun h' hp g => hQ h' hp g.1)
section
variable {w : World} {n : Nat} {env : Env} {fr : List Addr} {mc : Option MC} {σ : Sto}
theorem Inv.assign2 {mu : Mu} {F : Part} {s : Shared} {x y : String} {px py pos : Pos} {k} {t : Addr} {a b : Value} {u v : AV} {A : Around} {E : Value → Shared → Prop} {Q : Unit → Shared → Prop}
    (I : Inv w env fr mc mu F σ s) (hA : Lim n A) (ht : s.heap.IsTuple t #[a, b]) (ra : RdM F mu a u) (rb : RdM F mu b v) (hx : Wr env fr (Str.ofString x)) (hy : Wr env fr (Str.ofString y))
    (hQ : ∀ s', Inv w env fr mc mu F (upd (upd σ x u) y v) s' → Fw w fr F s F s' → Q () s') :
    wpAny (model prog w) A (assign (.Tuple [.Name (Str.ofString x) px, .Name (Str.ofString y) py] k pos) env (.ref t)) Q E s := by
  rw [arm_assign_Tuple]
  refine wpAny_bind (wpAny_standAt ?_)
  unfold unpack
  show wpAny _ _ (do let items ← holding [Value.ref t] (unpackItems (.ref t) 2 none); assignInOrder (List.map (fun x => x.snd) (assignEach [Expr.Name (Str.ofString x) px, Expr.Name (Str.ofString y) py] env)) items) _ _ _
  refine wpAny_bind (wpAny_holding (heapOnly (P := fun h' => Heap.ExtBut s.heap.objs.size s.heap h') (a := [a, b]) (fun h => wpAny_unpackItems_tuple (items := #[a, b]) hA.2.2 ht h) fun h' hx' hz => ?_))
  have W : Fw w [] F s F { s with heap := h' } := Fw.grow I.ok (fun b o e => hx' b o (Nat.ne_of_lt (Heap.lt_size e)) e) hz rfl rfl
  show wpAny _ _ (do holding [b] (assign (.Name (Str.ofString x) px) env a); do holding [] (assign (.Name (Str.ofString y) py) env b); pure ()) _ _ _
  refine wpAny_bind (wpAny_holding (wpAny_assign_Name ((I.step W).store hx ra fun s₁ I₁ W₁ _ => wpAny_bind (wpAny_holding (wpAny_assign_Name (I₁.store hy rb fun s₂ I₂ W₂ _ => wpAny_pure (hQ s₂ I₂ ?_)))))))
  exact W.wide.trans (W₁.trans W₂)
theorem Es.tup2 {x y : String} {px py tpos pos : Pos} {k} {e : Expr} {u v : AV} (h : Ev w n env fr mc σ e (.tuple [u, v])) (hx : Wr env fr (Str.ofString x)) (hy : Wr env fr (Str.ofString y))
    (hs : swapsWithSole [.Tuple [.Name (Str.ofString x) px, .Name (Str.ofString y) py] k tpos] e pos.line env = pure false := by rfl)
    (hw : swappedStores [.Tuple [.Name (Str.ofString x) px, .Name (Str.ofString y) py] k tpos] e env = pure none := by rfl) :
    Es w n env fr mc σ (.Assign [.Tuple [.Name (Str.ofString x) px, .Name (Str.ofString y) py] k tpos] e pos) (.nxt mc (upd (upd σ x u) y v)) := fun A hA F s E mu I =>
  Assign_Tuple (h.use hA I (Fw.refl I.ok) fun v' s₁ F₁ I₁ W₁ L₁ R₁ => by
    obtain ⟨t, xs, m, rfl, ht, hr⟩ := R₁.tuple
    obtain ⟨xs⟩ := xs
    dsimp only at hr
    cases hr with | cons ra hr => cases hr with | cons rb hr => cases hr with | nil =>
    exact I₁.assign2 hA (I₁.ok.isTuple ht) (.inl ra) (.inl rb) hx hy fun s₂ I₂ W₂ => ⟨F₁, (W₁.wide (T := fr ++ mu.toList)).trans (W₂.mono fun a m => List.mem_append.mpr (.inl m)), rfl, mu, I₂, fun _ e => .inl e⟩) hs hw
/-- for x, y in enumerate(e) -/
theorem Es.forEnum {x y : String} {px py tpos pos : Pos} {k} {e : Expr} {np cpos : Pos} {body : List Stmt} {l : List AV} (inv : Nat → Option MC × Sto) (hf : Ev w n env fr mc σ (.Name (Str.ofString "enumerate") np) (.raw (.type "enumerate")))
    (hi : EvL w n env fr mc σ [e] [.list l]) (h0 : (inv 0).1 = mc) (h0' : ∀ p ∈ (inv 0).2, p ∈ σ)
    (hx : Wr env fr (Str.ofString x)) (hy : Wr env fr (Str.ofString y)) (hb : ∀ j v, l[j]? = some v → Ex w n env fr (inv j).1 (upd (upd (inv j).2 x (.int j)) y v) body (.nxt (inv (j + 1)).1 (inv (j + 1)).2))
    (hs : ∀ x, foldedSetIterable (.Call (.Name (Str.ofString "enumerate") np) [e] [] cpos) env x = pure x := by intro _; rfl) :
    Es w n env fr mc σ (.For (.Tuple [.Name (Str.ofString x) px, .Name (Str.ofString y) py] k tpos) (.Call (.Name (Str.ofString "enumerate") np) [e] [] cpos) body [] pos) (.nxt (inv l.length).1 (inv l.length).2) := fun A hA F s E mu I => by
  refine wpAny_For ?_ hs
  refine wpAny_Call_NameR (hf.use hA I (Fw.refl I.ok) fun fv s₁ F₁ I₁ W₁ L₁ R₁ => ?_)
  obtain rfl := R₁.raw
  refine PyProof.Rows.callWith_type (hi cpos).1 (evalArgs_any (hi cpos).1 (hi.use hA I₁ W₁ fun xs s₂ F₂ I₂ W₂ L₂ R₂ => ?_))
  obtain ⟨v0, rfl, r0⟩ : ∃ v0, xs = [v0] ∧ Rd F₂ v0 (.list l) := by
    cases R₂ with | cons r rs => cases rs with | nil => exact ⟨_, rfl, r⟩
  cases r0 with
  | list e0 rl =>
  rename_i al items kk
  have hisl := I₂.ok.isList e0
  have hsz : items.size = l.length := by simpa using rl.length
  refine call_enumerate_list hisl fun h' he hit hz hk => ?_
  -- e = size+1, it = size
  have W₃ : Fw w [] F₂ s₂ F₂ { s₂ with heap := h' } := Fw.grow I₂.ok hk (by show _ ≤ h'.objs.size; rw [hz]; exact Nat.le_add_right _ _) rfl rfl
  have h207 := I₂.ok.sz
  generalize hE : s₂.heap.objs.size + 1 = en at he
  generalize hI : s₂.heap.objs.size = it at he hit hE
  have hen : F₂ en = none := I₂.ok.old (by omega)
  have hitn : F₂ it = none := I₂.ok.old (by omega)
  have hne : en ≠ it := by omega
  have hmu : ∀ a, mu = some a → a < s₂.heap.objs.size := fun a e => by
    have := I₂.mu0
    subst e
    cases mc with
    | none => exact this.elim
    | some c => exact this.2.2.2.1
  refine wpAny_pyIter_enum he ?_
  have nin : ∀ {T : List Addr} {F1 F2 : Part} {s1 s2 : Shared} {a : Addr}, Fw w T F1 s1 F2 s2 → F1 a = none → a < s1.heap.objs.size → a ∉ T → F2 a = none := by
    intro T F1 F2 s1 s2 a X h1 h2 h3
    cases e : F2 a with
    | none => rfl
    | some o =>
      rcases X.new a o e with h | h | h
      · rw [h1] at h; cases h
      · exact absurd h2 (Nat.not_lt.mpr h)
      · exact absurd h h3
  have h2it : 207 ≤ it := by omega
  have h2en : 207 ≤ en := by omega
  have hsit : s₂.heap.objs.size ≤ it := by omega
  have hsen : s₂.heap.objs.size ≤ en := by omega
  have hTT : ∀ a : Nat, a ∈ [en, it] → 207 ≤ a ∧ a = en ∨ a = it := fun a m => by
    rcases List.mem_cons.mp m with h | m
    · left; subst h; exact ⟨h2en, rfl⟩
    · right; exact List.mem_singleton.mp m
  refine codeAny_forLoop_any (fun k s' => ∃ (j : Nat) (F' : Part) (mu' : Mu) (old : Value), k = l.length + 1 - j ∧ j ≤ l.length ∧ Inv w env fr (inv j).1 mu' F' (inv j).2 s' ∧
      FwG w (fr ++ mu.toList ++ [en, it]) [] F₂ s₂ F' s' ∧ IsEnum s'.heap en it (j : Int) old ∧ s'.heap.IsListIter it al j ∧ F' en = none ∧ F' it = none ∧ (∀ a, mu' = some a → mu = some a ∨ s₂.heap.objs.size + 2 ≤ a))
    (fun k s₃ ⟨j, F', mu', old, hk3, hj, I₃, W₄, he3, hit3, hn1, hn2, hm₃⟩ => ?_) (l.length + 1)
    ⟨0, F₂, mu, .none, rfl, Nat.zero_le _, by rw [h0]; exact (I₂.step W₃).weaken h0', W₃.wide, he, hit, hen, hitn, fun _ e => .inl e⟩
  have hl3 : s₃.heap.IsList al items := I₃.ok.isList (W₄.le _ _ e0)
  have hap : ∀ a : Nat, a = en ∨ a = it → a ∉ fr ∧ mu' ≠ some a ∧ ∀ y, env.cells.lookup y ≠ some a := fun a ha => by
    have hsa : s₂.heap.objs.size ≤ a := by rcases ha with h | h <;> omega
    have hsa2 : a < s₂.heap.objs.size + 2 := by rcases ha with h | h <;> omega
    obtain ⟨q1, q2, q3⟩ := I₂.apart (wr := [a]) (fun b m => by rw [List.mem_singleton.mp m]; exact hsa) a (.head _)
    refine ⟨q1, fun e => ?_, q3⟩
    rcases hm₃ a e with h | h
    · exact q2 h
    · exact Nat.lt_irrefl _ (Nat.lt_of_lt_of_le hsa2 h)
  have hap2 : ∀ a ∈ [en, it], a ∉ fr ∧ mu' ≠ some a ∧ ∀ y, env.cells.lookup y ≠ some a := fun a m => hap a ((hTT a m).imp (·.2) id)
  have hapr : ∀ a ∈ fr ++ mu'.toList, a ≠ en ∧ a ≠ it := fun a m => by
    have k1 := hap en (.inl rfl)
    have k2 := hap it (.inr rfl)
    rcases List.mem_append.mp m with m | m
    · exact ⟨fun h => k1.1 (h ▸ m), fun h => k2.1 (h ▸ m)⟩
    · have e : mu' = some a := by simpa using m
      exact ⟨fun h => k1.2.1 (h ▸ e), fun h => k2.2.1 (h ▸ e)⟩
  have hTn : ∀ a ∈ [en, it], 207 ≤ a ∧ F' a = none := fun a m => by
    rcases List.mem_cons.mp m with h | m
    · rw [h]; exact ⟨h2en, hn1⟩
    · rw [List.mem_singleton.mp m]; exact ⟨h2it, hn2⟩
  cases hv : items[j]? with
  | none =>
    have hjl : j = l.length := by
      have := Array.getElem?_eq_none_iff.mp hv
      omega
    refine heapOnly (P := fun h' => Heap.ExtBut it s₃.heap h') (a := none) (fun h => wpAny_pyNext_enum_end hA.2.2 he3 hit3 hl3 hv h) fun h₁ hx₁ hz₁ => ?_
    have W₅ : Fw w [en, it] F' s₃ F' { s₃ with heap := h₁ } := Fw.change I₃.ok hTn (fun a m o e => hx₁ a o (fun h => m (by rw [h]; exact .tail _ (.head _))) e) hz₁ rfl rfl
    subst hjl
    refine wpAny_execs_nil ⟨F', ?_, rfl, mu', I₃.stepT W₅ hap2, fun a e => (hm₃ a e).imp id fun h => Nat.le_trans W₂.size (Nat.le_trans (Nat.le_add_right _ _) h)⟩
    refine (W₂.wide.trans (W₄.trans (W₅.mono fun a m => List.mem_append.mpr (.inr m)))).drop (fun a m => ?_) fun _ m => nomatch m
    refine (List.mem_append.mp m).imp id fun m => Nat.le_trans W₂.size ?_
    rcases hTT a m with ⟨_, h⟩ | h <;> rw [h]
    · exact hsen
    · exact hsit
  | some vv =>
    obtain ⟨v, hlj, hrv⟩ := rl.get' (i := j) (v := vv) (by simpa using hv)
    have hjlt : j < l.length := (List.getElem?_eq_some_iff.mp hlj).1
    refine wpAny_pyNext_enum_item he3 hit3 hl3 hv hne fun h₁ heo hit₁ ht₁ hz₁ hk₁ => ?_
    have hsz3 : en < s₃.heap.objs.size := Heap.lt_size he3
    have W₅ : Fw w [en, it] F' s₃ F' { s₃ with heap := h₁, toks := s₃.toks + 1 } := Fw.change I₃.ok hTn (fun a m o e => hk₁ a o (fun h => m (by rw [h]; exact .head _)) (fun h => m (by rw [h]; exact .tail _ (.head _))) e) (by show _ ≤ h₁.objs.size; rw [hz₁]; exact Nat.le_succ _) rfl rfl
    refine wpAny_letOwnedTupleGo_enum heo fun h₂ he₂ hs₂ => ?_
    replace hs₂ : Heap.SameBut en h₁ h₂ := hs₂
    have W₆ : Fw w [en, it] F' { s₃ with heap := h₁, toks := s₃.toks + 1 } F' { s₃ with heap := h₂, toks := s₃.toks + 1 } := Fw.change W₅.ok hTn (fun a m o e => (hs₂.2 a (fun h => m (by rw [h]; exact .head _))).trans e) (by show h₁.objs.size ≤ h₂.objs.size; rw [hs₂.1]; exact Nat.le_refl _) rfl rfl
    have hit₂ : h₂.IsListIter it al (j + 1) := hit₁.extBut hs₂.extBut (Ne.symm hne)
    have ht₂ : h₂.IsTuple s₃.heap.objs.size #[.int j s₃.toks, vv] := ⟨_, (hs₂.2 _ (Nat.ne_of_gt hsz3)).trans ht₁, rfl, _, rfl⟩
    have I₅ := (I₃.stepT W₅ hap2).stepT W₆ hap2
    refine I₅.assign2 hA ht₂ (.inl (.int _ _)) (.inl (hrv.mono W₄.le)) hx hy fun s₄ I₄ W₇ => ?_
    refine wpAny_mono (hb j v hlj A hA F' s₄ _ mu' I₄) (fun fl s₆ ⟨F₆, W₈, hfl, mu₆, I₆, hm₆⟩ => ?_) fun _ _ y => y
    subst hfl
    have hfrn : ∀ a ∈ fr, a ≠ en ∧ a ≠ it := fun a m => hapr a (List.mem_append.mpr (.inl m))
    have keep : ∀ a : Nat, a = en ∨ a = it → ∀ o, h₂.get? a = some o → s₆.heap.get? a = some o := fun a ha o e => by
      have hge : 207 ≤ a := by rcases ha with h | h <;> omega
      have h1 : a ∉ fr := fun m => by rcases ha with h | h
                                      · exact (hfrn a m).1 h
                                      · exact (hfrn a m).2 h
      have h2 : a ∉ fr ++ mu'.toList := fun m => by rcases ha with h | h
                                                    · exact (hapr a m).1 h
                                                    · exact (hapr a m).2 h
      exact W₈.heap a (ge_notTab hge) h2 o (W₇.heap a (ge_notTab hge) h1 o e)
    have hsz4 : s₃.heap.objs.size ≤ s₄.heap.objs.size := Nat.le_trans (Nat.le_trans W₅.size W₆.size) W₇.size
    refine ⟨l.length + 1 - (j + 1), by omega, j + 1, F₆, mu₆, vv, rfl, hjlt, I₆, ?_, keep en (.inl rfl) _ he₂, ?_, ?_, ?_, fun a e => ?_⟩
    · have X : FwG w (fr ++ mu.toList ++ [en, it]) [] F' s₃ F' s₄ := ((W₅.trans W₆).mono (fun a m => List.mem_append.mpr (.inr m))).trans (W₇.mono (fun a m => List.mem_append.mpr (.inl (List.mem_append.mpr (.inl m)))))
      refine (W₄.trans X).trans' W₈ (fun a m => ?_) (fun _ m => nomatch m)
      rcases List.mem_append.mp m with m | m
      · exact .inl (List.mem_append.mpr (.inl (List.mem_append.mpr (.inl m))))
      · rcases hm₃ a (by simpa using m) with h | h
        · exact .inl (List.mem_append.mpr (.inl (List.mem_append.mpr (.inr (by simp [h])))))
        · exact .inr (Nat.le_trans (Nat.le_add_right _ _) h)
    · obtain ⟨o, ho, hc⟩ := hit₂
      exact ⟨o, keep it (.inr rfl) o ho, hc⟩
    · exact nin W₈ hn1 (Nat.lt_of_lt_of_le hsz3 hsz4) fun m => (hapr _ m).1 rfl
    · refine nin W₈ hn2 (Nat.lt_of_lt_of_le ?_ hsz4) fun m => (hapr _ m).2 rfl
      omega
    · rcases hm₆ a e with h | h
      · exact hm₃ a h
      · refine .inr (Nat.le_trans ?_ (Nat.le_trans hsz4 h))
        omega
end
end Mine
namespace Mine
open PySem PySem.Calls PyProof.Rows PySem.W
section
variable {w : World} {n : Nat} {env : Env} {fr : List Addr} {mc : Option MC} {σ : Sto}
/-- a new object, not frozen -/
noncomputable def NewM (w : World) (n : Nat) (env : Env) (fr : List Addr) (mc : Option MC) (σ : Sto) (e : Expr) (c : MC) : Prop :=
  ∀ A, Lim n A → ∀ F s E mu, Inv w env fr mc mu F σ s → wpAny (model prog w) A (eval e env) (fun x s' => ∃ F' a, x = .ref a ∧ Fw w [] F s F' s' ∧ s.heap.objs.size ≤ a ∧ a < s'.heap.objs.size ∧ F' a = none ∧ MHas F' s'.heap a c) E s
theorem NewM.lst {es : List Expr} {pos : Pos} {vs : List AV} (hs : EvL w n env fr mc σ es vs) (hl : vs.length ≤ 1000) : NewM w n env fr mc σ (.List es pos) (.list vs) := fun A hA F s E mu I =>
  wpAny_List (hs.use hA I (Fw.refl I.ok) fun xs s₁ F₁ I₁ W₁ L₁ R₁ => ⟨by rw [R₁.length]; exact Nat.le_trans hl (by decide),
    F₁, s₁.heap.objs.size, rfl, W₁.trans (Fw.grow I₁.ok (fun _ _ e => Heap.get?_push_of_some _ e) (by show _ ≤ (Heap.push _ _).objs.size; rw [Heap.size_push]; exact Nat.le_succ _) rfl rfl), W₁.size,
      by show _ < (Heap.push _ _).objs.size; rw [Heap.size_push]; exact Nat.lt_succ_self _, I₁.ok.old (Nat.le_refl _), xs.toArray, ⟨0, Heap.get?_push_size _ rfl⟩, R₁⟩)
theorem foldl_rep (x : Value) : ∀ (k : Nat) (acc : Array Value), (List.foldl (fun x1 x2 => x1 ++ x2) acc (List.replicate k #[x])).toList = acc.toList ++ List.replicate k x
  | 0, acc => by simp
  | k + 1, acc => by
    rw [List.replicate_succ, List.foldl_cons, foldl_rep x k]
    simp [List.replicate_succ]
theorem RdL.rep {F : Part} {v : Value} {a : AV} (h : Rd F v a) : ∀ k, RdL F (List.replicate k v) (List.replicate k a)
  | 0 => .nil
  | k + 1 => .cons h (RdL.rep h k)
/-- [v] * k -/
theorem NewM.times {e ke : Expr} {lpos pos : Pos} {v : AV} {k : Int} (hs : EvL w n env fr mc σ [e] [v]) (hk : Ev w n env fr mc σ ke (.int k)) (hk1 : k ≤ 100000) (hk0 : -100000 ≤ k) :
    NewM w n env fr mc σ (.BinOp (.List [e] lpos) .Mult ke pos) (.list (List.replicate k.toNat v)) := fun A hA F s E mu I => by
  refine wpAny_BinOp (wpAny_mono (NewM.lst hs (Nat.le_trans (Nat.le_refl 1) (by decide)) A hA F s E mu I) (fun lv s₁ ⟨F₁, a, ha, W₁, hz, hlt, hn, hm⟩ => ?_) fun _ _ y => y)
  subst ha
  obtain ⟨xs, ⟨kk, hp⟩, hr⟩ := hm
  obtain ⟨v0, hxs, r0⟩ : ∃ v0, xs = #[v0] ∧ Rd F₁ v0 v := by
    obtain ⟨q⟩ := xs
    dsimp only at hr
    cases hr with | cons r rs => cases rs with | nil => exact ⟨_, rfl, r⟩
  subst hxs
  have h207 := I.ok.sz
  refine wpAny_mono (hk A hA F₁ s₁ E mu (I.step W₁)) (fun kv s₂ ⟨F₂, W₂, R₂⟩ => ?_) fun _ _ y => y
  obtain ⟨u, rfl⟩ := R₂.int
  have hl := W₂.heap a (ge_notTab (Nat.le_trans h207 hz)) (fun m => nomatch m) _ hp
  have hmul : (#[v0] : Array Value).size * k.toNat ≤ 2 ^ 24 := by show 1 * k.toNat ≤ 2 ^ 24; omega
  refine wpAny_binaryOp_repeat_ref (T := "list") (U := "int") (by decide) ⟨_, hl, rfl⟩ (fun s' => typeIs_int s' k u) noFill_list_mul _root_.PySem.F.fills_int_mul _root_.PySem.F.slot_int_rmul repeat_list _root_.PySem.F.slot_int_index.lookup
    (call_meets _root_.PySem.F.slot_int_rmul (typeIs_int s₂ k u) _root_.PySem.F.entry_int_rmul (_root_.PySem.F.args_int_rmul_2 _ _) (int___rmul___int_list k u a #[v0] kk)
      ⟨hl, rfl, ⟨_, hl, rfl⟩, call_meets _root_.PySem.F.slot_list_mul ⟨_, hl, rfl⟩ _root_.PySem.F.entry_list_mul (_root_.PySem.F.args_list_mul_2 _ _)
        (AutoListH.list___mul___list_int_3 a #[v0] kk k u (by simp [Builtin.List.listFitsIndex]; omega) (by omega) (by simp [Builtin.List.listTooLong, sizeLine]; omega))
        ⟨hl, ?_⟩⟩)
  have W := W₁.trans W₂
  have W₃ := W.trans (Fw.grow (s' := { s₂ with heap := s₂.heap.push { cls := .type "list", data := .seq (List.foldl (fun x1 x2 => x1 ++ x2) #[] (List.replicate (if (#[v0] : Array Value).isEmpty = true then 0 else k.toNat) #[v0])) } }) W.ok (fun _ _ e => Heap.get?_push_of_some _ e) (by show _ ≤ (Heap.push _ _).objs.size; rw [Heap.size_push]; exact Nat.le_succ _) rfl rfl)
  refine ⟨F₂, s₂.heap.objs.size, rfl, W₃, W.size, by show _ < (Heap.push _ _).objs.size; rw [Heap.size_push]; exact Nat.lt_succ_self _, W.ok.old (Nat.le_refl _), _, ⟨0, Heap.get?_push_size _ rfl⟩, ?_⟩
  rw [foldl_rep]
  exact RdL.rep (r0.mono W₂.le) _
theorem muNone {mu : Mu} {F : Part} {s : Shared} (I : Inv w env fr none mu F σ s) : mu = none := by
  have := I.mu0
  cases mu with
  | none => rfl
  | some a => exact this.elim
theorem Inv.newmu {F : Part} {s s₁ : Shared} {F₁ : Part} {a : Addr} {c : MC} (I : Inv w env fr none none F σ s) (W : Fw w [] F s F₁ s₁) (hz : s.heap.objs.size ≤ a) (hlt : a < s₁.heap.objs.size) (hn : F₁ a = none) (hm : MHas F₁ s₁.heap a c) :
    Inv w env fr (some c) (some a) F₁ σ s₁ := by
  have I₁ := I.step W
  refine { I₁ with mu0 := ⟨Nat.le_trans I.ok.sz hz, hn, fun m => ?_, hlt, hm⟩, cel := fun x y e => ?_, vars := fun p hp => ?_ }
  · exact Nat.lt_irrefl _ (Nat.lt_of_lt_of_le (I.fr0 a m).2.2 hz)
  · obtain ⟨h1, _, v, h3⟩ := I.cel x y e
    obtain ⟨h1', _, h4⟩ := I₁.cel x y e
    refine ⟨h1, fun l hl => ?_, h4⟩
    cases hl
    obtain ⟨o, ho, _⟩ := h3
    exact Nat.ne_of_lt (Nat.lt_of_lt_of_le (Heap.lt_size ho) hz)
  · obtain ⟨v, h1, h2⟩ := I₁.vars p hp
    refine ⟨v, h1, .inl ?_⟩
    rcases h2 with h | ⟨_, b, e, _⟩
    · exact h
    · cases e
theorem Es.newmu {x : String} {px pos : Pos} {e : Expr} {c : MC} (h : NewM w n env fr none σ e c) (hw : Wr env fr (Str.ofString x)) (hs : swapsWith e (some (.Name (Str.ofString x) px)) pos.line env = pure false := by rfl) :
    Es w n env fr none σ (.Assign [.Name (Str.ofString x) px] e pos) (.nxt (some c) (upd σ x .mu)) := fun A hA F s E mu I => by
  obtain rfl := muNone I
  refine wpAny_Assign_Name (wpAny_mono (h A hA F s E none I) (fun v s₁ ⟨F₁, a, hv, W₁, hz, hlt, hn, hm⟩ => ?_) fun _ _ y => y) hs
  subst hv
  exact (I.newmu W₁ hz hlt hn hm).store hw (.inr ⟨rfl, a, rfl, rfl⟩) fun s₂ I₂ W₂ _ => ⟨F₁, (W₁.wide (T := fr ++ (none : Mu).toList)).trans (W₂.mono fun a m => List.mem_append.mpr (.inl m)), rfl, some a, I₂, fun b e => by cases e; exact .inr hz⟩
/-- the object that was built will not change any more -/
theorem Inv.thaw {mu : Mu} {F : Part} {s : Shared} {l : List AV} {σ' : Sto} (I : Inv w env fr (some (.list l)) mu F σ s) (hσ : ∀ p ∈ σ', p ∈ σ ∧ p.2 ≠ .mu ∨ (p.1, AV.mu) ∈ σ ∧ p.2 = .list l) :
    ∃ b k xs, mu = some b ∧ F b = none ∧ b ∉ TAB ∧ s.heap.get? b = some (listO xs k) ∧ Inv w env fr none none (F.put b (listO xs k)) σ' s := by
  have h := I.mu0
  cases mu with
  | none => exact h.elim
  | some b =>
    obtain ⟨h1, h2, h3, h4, xs, ⟨k, hp⟩, hr⟩ := h
    have hT := ge_notTab h1
    refine ⟨b, k, xs, rfl, h2, hT, hp, ?_⟩
    have ok' := I.ok.freeze h2 hT hp
    refine ⟨ok', I.fro, fun a ha => ?_, trivial, I.loc, fun x c e => ?_, fun p hp' => ?_⟩
    · obtain ⟨k1, k2, k3⟩ := I.fr0 a ha
      refine ⟨k1, ?_, k3⟩
      rw [Part.put_other _ _ (fun e : a = b => h3 (e ▸ ha))]; exact k2
    · obtain ⟨k1, k2, k3⟩ := I.cel x c e
      exact ⟨k1, (fun _ e => nomatch e), k3⟩
    · rcases hσ p hp' with ⟨hm, hne⟩ | ⟨hm, he⟩
      · obtain ⟨v, k1, k2⟩ := I.vars p hm
        exact ⟨v, k1, .inl ((k2.rd hne).mono (Part.le_put h2))⟩
      · obtain ⟨v, k1, k2⟩ := I.vars _ hm
        refine ⟨v, k1, .inl ?_⟩
        rcases k2 with k2 | ⟨_, b', e, rfl⟩
        · cases k2
        · cases e
          rw [he]
          exact .list (Part.put_self ..) (hr.mono (Part.le_put h2))
theorem Ex.freeze {ss : List Stmt} {o : Out} {l : List AV} (σ' : Sto) (h : Ex w n env fr none σ' ss o) (hσ : ∀ p ∈ σ', p ∈ σ ∧ p.2 ≠ .mu ∨ (p.1, AV.mu) ∈ σ ∧ p.2 = .list l) : Ex w n env fr (some (.list l)) σ ss o := fun A hA F s E mu I => by
  obtain ⟨b, k, xs, rfl, hn, hT, hg, I'⟩ := I.thaw hσ
  refine wpAny_mono (h A hA _ s E none I') (fun fl s' ⟨F', W, hp⟩ => ⟨F', ?_, ?_⟩) fun _ _ y => y
  · have W0 : Fw w (fr ++ (some b).toList) F s (F.put b (listO xs k)) s := ((Fw.refl I.ok).wide).freeze hn hT (.inr (by simp)) hg
    exact W0.trans (W.mono fun a m => by simpa using Or.inl m)
  · cases o with
    | ret v => exact hp
    | retm mc σ'' v =>
      obtain ⟨x, hf, hr, mu', I₂, hm⟩ := hp
      refine ⟨x, hf, hr, mu', I₂, fun a e => ?_⟩
      rcases hm a e with h | h
      · cases h
      · exact .inr h
    | nxt mc σ'' =>
      obtain ⟨hf, mu', I₂, hm⟩ := hp
      refine ⟨hf, mu', I₂, fun a e => ?_⟩
      rcases hm a e with h | h
      · cases h
      · exact .inr h
theorem Inv.setmu {b : Addr} {F : Part} {s : Shared} {c c' : MC} {h' : Heap} (I : Inv w env fr (some c) (some b) F σ s) (tk : Nat) (hsb : Heap.SameBut b s.heap h') (hm : MHas F h' b c') :
    Inv w env fr (some c') (some b) F σ { s with heap := h', toks := tk } ∧ Fw w [b] F s F { s with heap := h', toks := tk } := by
  obtain ⟨h1, h2, h3, h4, _⟩ := I.mu0
  have W₃ : Fw w [b] F s F { s with heap := h', toks := tk } := Fw.change I.ok (fun a m => by rw [List.mem_singleton.mp m]; exact ⟨h1, h2⟩)
    (fun a m o e => (hsb.2 a (fun h => m (by rw [h]; exact .head _))).trans e) (by show _ ≤ h'.objs.size; rw [hsb.1]; exact Nat.le_refl _) rfl rfl
  refine ⟨?_, W₃⟩
  have keep : ∀ a : Nat, a ≠ b → ∀ o, s.heap.get? a = some o → h'.get? a = some o := fun a ha o e => (hsb.2 a ha).trans e
  refine { ok := W₃.ok, fro := I.fro, fr0 := fun a ha => ?_, mu0 := ⟨h1, h2, h3, by show b < h'.objs.size; rw [hsb.1]; exact h4, hm⟩, loc := ?_, cel := fun y c e => ?_, vars := fun p hp' => ?_ }
  · obtain ⟨q1, q2, q3⟩ := I.fr0 a ha
    exact ⟨q1, q2, by show a < h'.objs.size; rw [hsb.1]; exact q3⟩
  · obtain ⟨m, hm⟩ := I.loc
    exact ⟨m, ns_at hm (keep _ fun e => h3 (e ▸ I.fro.lfr))⟩
  · obtain ⟨q1, q2, v, q3⟩ := I.cel y c e
    exact ⟨q1, q2, v, isCell_at q3 (keep _ (q2 b rfl))⟩
  · obtain ⟨v, q1, q2⟩ := I.vars p hp'
    refine ⟨v, ?_, q2⟩
    rcases q1 with ⟨hk1, m, hm, e⟩ | ⟨hk1, c, hc', hcell⟩
    · exact .inl ⟨hk1, m, ns_at hm (keep _ fun e => h3 (e ▸ I.fro.lfr)), e⟩
    · exact .inr ⟨hk1, c, hc', isCell_at hcell (keep _ ((I.cel _ c hc').2.1 b rfl))⟩
/-- a method that changes the list -/
noncomputable def MuM (w : World) (n : Nat) (id : String) (l : List AV) (vs : List AV) (l' : List AV) : Prop :=
  ∀ A, Lim n A → ∀ F (s : Shared) (a : Addr) (xs : Array Value) vals (Q : Value → Shared → Prop) E, OK w F s → s.heap.PlainList a xs → RdL F xs.toList l → RdL F vals vs →
    (∀ h' ys, h'.PlainList a ys → Heap.SameBut a s.heap h' → RdL F ys.toList l' → Q .none { s with heap := h' }) → wpAny (model prog w) A (call (.builtin id) (.ref a :: vals)) Q E s
theorem MuM.append {l : List AV} {v : AV} (hl : l.length ≤ 100000) : MuM w n "list.append" l [v] (l ++ [v]) := fun A hA F s a xs vals Q E ok hp hr hv hQ => by
  cases hv with | cons r rs => cases rs with | nil =>
  refine wpAny_list_append_plain hp (fun h' hp' hs' => hQ h' _ hp' hs' ?_) ?_
  · simpa using hr.append (.cons r .nil)
  · have : xs.size = l.length := by simpa using hr.length
    rw [this]; exact Nat.le_trans hl (by decide)
theorem Es.mumeth {x : String} {name : Str} {id : String} {np apos cpos pos : Pos} {es : List Expr} {vs l l' : List AV} (hx : (x, .mu) ∈ σ) (hs : EvL w n env fr (some (.list l)) σ es vs) (hc : MuM w n id l vs l')
    (slot : Slot "list" name id) (hty : typeOf (.builtin id) = pure (.type "method_descriptor"))
    (hd : (Str.ofString x == ("__debug__" : Str)) = false := by decide) (hcc : (Str.ofString x == ("__classdict__" : Str)) = false := by decide)
    (hbase : attributeBase (.Name (Str.ofString x) np) name env (eval (.Name (Str.ofString x) np) env) = eval (.Name (Str.ofString x) np) env := by rfl)
    (hfew : ((backTo cpos (starEach es env)).all (fun x => !x.1) && (backToKw cpos (keywordEach [] env)).all (fun x => x.1.isSome)
      && decide (es.length + ([] : List Keyword).length + (if ([] : List Keyword).isEmpty then 0 else 1) < 30)) = true := by rfl)
    (hline : (apos.endLine == cpos.line) = true := by rfl)
    (hi : interactive env = false := by rfl) (hsw : swapsWith (.Call (.Attribute (.Name (Str.ofString x) np) name apos) es [] cpos) none pos.line env = pure false := by rfl) :
    Es w n env fr (some (.list l)) σ (.Expr (.Call (.Attribute (.Name (Str.ofString x) np) name apos) es [] cpos) pos) (.nxt (some (.list l')) σ) := fun A hA F s E mu I => by
  refine wpAny_Expr_any ?_ hi hsw
  refine wpAny_Call_method_lateS hbase hfew hline ((Ev.var hx hd hcc).use hA I (Fw.refl I.ok) fun ov s₁ F₁ I₁ W₁ L₁ R₁ => ?_)
  rcases R₁ with R₁ | ⟨_, b, rfl, rfl⟩
  · cases R₁
  obtain ⟨h1, h2, h3, h4, xs, ⟨k, hp⟩, hr⟩ := I₁.mu0
  refine ⟨"list", id, _root_.PySem.F.plainAttrs_list, slot, hty, ⟨_, hp, rfl⟩, fun a e => by cases e; exact ⟨_, hp, rfl⟩, callWith_builtin (hs cpos).1 (evalArgs_any (hs cpos).1 (hs.use hA I₁ W₁ fun xs' s₂ F₂ I₂ W₂ L₂ R₂ => ?_))⟩
  obtain ⟨h1, h2, h3, h4, ys, ⟨k2, hp2⟩, hr2⟩ := I₂.mu0
  refine hc A hA F₂ s₂ b ys xs' _ _ I₂.ok ⟨k2, hp2⟩ hr2 R₂ fun h' zs hz hsb hrz => ?_
  obtain ⟨I₃, W₃⟩ := I₂.setmu (c' := .list l') s₂.toks hsb ⟨zs, hz, hrz⟩
  exact ⟨F₂, (W₂.wide (T := fr ++ (some b).toList)).trans (W₃.mono fun a m => by rw [List.mem_singleton.mp m]; simp), rfl, some b, I₃, fun _ e => .inl e⟩
end
end Mine
namespace Mine
open PySem PySem.Calls PyProof.Rows PySem.W
theorem RdL.set {F : Part} : ∀ {vs l}, RdL F vs l → ∀ (i : Nat) {v a}, Rd F v a → RdL F (vs.set i v) (l.set i a)
  | _, _, .nil, i, v, a, r => by simp; exact .nil
  | _, _, .cons r rs, 0, v, a, r' => by simp; exact .cons r' rs
  | _, _, .cons r rs, i + 1, v, a, r' => by simp; exact .cons r (RdL.set rs i r')
theorem RdL.rev {F : Part} : ∀ {vs l}, RdL F vs l → RdL F vs.reverse l.reverse
  | _, _, .nil => .nil
  | _, _, .cons r rs => by simp; exact (RdL.rev rs).append (.cons r .nil)
section
variable {w : World} {n : Nat} {env : Env} {fr : List Addr} {mc : Option MC} {σ : Sto}
theorem setItem_plain {A : Around} {E : Value → Shared → Prop} {s : Shared} {a : Addr} {xs : Array Value} {k : Int} {t : Tok} {v : Value} {Q : Unit → Shared → Prop} (hp : s.heap.PlainList a xs) (h0 : 0 ≤ k) (hn : k < xs.size) (hf : k < 2 ^ 63)
    (hQ : ∀ h', h'.PlainList a (xs.setIfInBounds k.toNat v) → Heap.SameBut a s.heap h' → Q () { s with heap := h' }) : wpAny (model prog w) A (setItem (.ref a) (.int k t) v) Q E s := by
  obtain ⟨m, ho⟩ := hp
  have hT : s.TypeIs (.ref a) "list" := ⟨_, ho, rfl⟩
  unfold setItem
  refine wpAny_holding ?_
  refine wpAny_bind (wpAny_sequenceKey hT (by decide) ?_)
  refine wpAny_bind (wpAny_callSpecial?_slot (name := Str.ofString "__setitem__") hT _root_.PySem.slot_list_setitem
    (wpAny_call_entry _root_.PySem.slot_list_setitem hT entry_list_setitem ?_ (args_list_setitem _ _ _)))
  show wpAny _ _ (Builtin.List.listSubscript? (.int k t) >>= _) _ _ s
  refine wpAny_bind (wpAny_listSubscript_int (fitsIndex_of h0 hf) ?_)
  obtain ⟨j, rfl⟩ := Int.eq_ofNat_of_zero_le h0
  have hj : j < xs.size := by omega
  show wpAny _ _ ((seqItemAt a j >>= fun r => pure (r.map (j, ·))) >>= _) _ _ s
  refine wpAny_bind (wpAny_bind (wpAny_seqItemAt ho rfl (wpAny_pure ?_)))
  rw [Array.getElem?_eq_getElem hj]
  show wpAny _ _ (setSeqItemAt a j v >>= _) _ _ s
  have e : Obj.mapSeq (·.setIfInBounds j v) { cls := .type "list", data := .seq xs m } = { cls := .type "list", data := .seq (xs.setIfInBounds j v) m } := by simp [Obj.mapSeq]
  refine wpAny_bind (wpAny_setSeqItemAt ho rfl (wpAny_pure ⟨.none, rfl, wpAny_pure (hQ _ ⟨m, ?_⟩ (Heap.SameBut.update ..))⟩))
  rw [Heap.get?_update_self _ ho (by rw [e]; rfl), e]; rfl
/-- x[i] op= e, for the list that is being built -/
theorem Es.augsub {x : String} {np tpos pos : Pos} {i : Expr} {op : Operator} {e : Expr} {l : List AV} {k : Int} {a b c : AV} (hx : (x, .mu) ∈ σ) (hi : Ev w n env fr (some (.list l)) σ i (.int k)) (h0 : 0 ≤ k) (hl : l[k.toNat]? = some a) (hll : l.length ≤ 100000)
    (he : Ev w n env fr (some (.list l)) σ e b) (ho : Op2 w n (inplaceOp op) a b c)
    (hd : (Str.ofString x == ("__debug__" : Str)) = false := by decide) (hcc : (Str.ofString x == ("__classdict__" : Str)) = false := by decide)
    (ha : ∀ ov iv new, augStore i ov iv new = (do holding [new, ov, iv] (setItem ov iv new); release [new, ov, iv] []; pure .next) := by intro _ _ _; rfl) :
    Es w n env fr (some (.list l)) σ (.AugAssign (.Subscript (.Name (Str.ofString x) np) i tpos) op e pos) (.nxt (some (.list (l.set k.toNat c))) σ) := fun A hA F s E mu I => by
  refine wpAny_AugAssign_Subscript_any ?_ ha
  refine (Ev.var hx hd hcc).use hA I (Fw.refl I.ok) fun ov s₁ F₁ I₁ W₁ L₁ R₁ => ?_
  rcases R₁ with R₁ | ⟨_, m, rfl, rfl⟩
  · cases R₁
  refine hi.use hA I₁ W₁ fun iv s₂ F₂ I₂ W₂ L₂ R₂ => ?_
  obtain ⟨t, rfl⟩ := R₂.int
  obtain ⟨h1, h2, h3, h4, xs, ⟨k2, hp2⟩, hr2⟩ := I₂.mu0
  obtain ⟨v, hv, hra⟩ := hr2.get hl
  have hkl : k.toNat < l.length := (List.getElem?_eq_some_iff.mp hl).1
  refine wpAny_getItem_list ⟨_, hp2, rfl, k2, rfl⟩ h0 (by omega) (x := v) (by simpa using hv) ?_
  refine he.use hA I₂ W₂ fun ev s₃ F₃ I₃ W₃ L₃ R₃ => ?_
  refine wpAny_mono (ho A hA F₃ s₃ _ (some m) v ev I₃.ok (.inl (hra.mono L₃)) R₃) (fun r s₄ ⟨F₄, W₄, R₄⟩ => ?_) fun _ _ y => y
  have I₄ := I₃.step W₄
  obtain ⟨h1, h2, h3, h4, ys, ⟨k4, hp4⟩, hr4⟩ := I₄.mu0
  have hsz : ys.size = l.length := by simpa using hr4.length
  refine setItem_plain ⟨k4, hp4⟩ h0 (by rw [hsz]; omega) (by omega) fun h' hl' hsb => ?_
  obtain ⟨I₅, W₅⟩ := I₄.setmu (c' := .list (l.set k.toNat c)) s₄.toks hsb ⟨_, hl', by rw [Array.toList_setIfInBounds]; exact hr4.set _ R₄⟩
  exact ⟨F₄, ((W₃.trans W₄).wide (T := fr ++ (some m).toList)).trans (W₅.mono fun a m => by rw [List.mem_singleton.mp m]; simp), rfl, some m, I₅, fun _ e => .inl e⟩
theorem MuM.reverse {l : List AV} (hl : l.length ≤ 100000) : MuM w n "list.reverse" l [] l.reverse := fun A hA F s a xs vals Q E ok hp hr hv hQ => by
  cases hv
  obtain ⟨k, hk⟩ := hp
  have hsz : xs.size = l.length := by simpa using hr.length
  refine call_meets _root_.PySem.F.slot_list_reverse ⟨_, hk, rfl⟩ _root_.PySem.F.entry_list_reverse (_root_.PySem.F.args_list_reverse_1 _) (AutoSeq1.list_reverse_list_0 a xs k (by rw [hsz]; exact Nat.le_trans hl (by decide))) ⟨hk, hQ _ xs.reverse ⟨k, ?_⟩ (Heap.SameBut.update ..) (by rw [Array.toList_reverse]; exact hr.rev)⟩
  have e : Obj.mapSeq (fun x => x.reverse) { cls := .type "list", data := .seq xs k } = { cls := .type "list", data := .seq xs.reverse k } := by simp [Obj.mapSeq]
  rw [Heap.get?_update_self _ hk (by rw [e]; rfl), e]
end
end Mine
namespace Mine
open PySem
noncomputable def namesOk (names : List (Str × NameKind)) : Bool := names.all fun y => y.2 != .local || names.lookup y.1 == some .local
theorem namesOk_spec {names : List (Str × NameKind)} (h : namesOk names = true) : ∀ y ∈ names, y.2 = .local → names.lookup y.1 = some .local := fun y hy e => by
  have := List.all_eq_true.mp h y hy
  rw [e] at this
  simpa using this
end Mine
namespace Mine
theorem all_cons {σ : Sto} {p : String × AV} {P : String × AV → Prop} (h : P p) (hs : ∀ q ∈ σ, P q) : ∀ q ∈ p :: σ, P q := List.forall_mem_cons.mpr ⟨h, hs⟩
theorem all_nil {P : String × AV → Prop} : ∀ q ∈ ([] : Sto), P q := fun _ m => nomatch m
end Mine
namespace Mine
open PySem PySem.Calls PyProof.Rows PySem.W
/-- a text of these signs -/
noncomputable def S (l : List Nat) : Str := ⟨l.toArray⟩
theorem S_append (a b : List Nat) : S a ++ S b = S (a ++ b) := by
  show Str.mk (a.toArray ++ b.toArray) = Str.mk (a ++ b).toArray
  simp
theorem S_length (a : List Nat) : (S a).length = a.length := by simp [S, Str.length]
theorem S_inj {a b : List Nat} (h : S a = S b) : a = b := by
  have := congrArg (fun x : Str => x.cps.toList) h
  simpa [S] using this
theorem S_inj_iff {a b : List Nat} : S a = S b ↔ a = b := ⟨S_inj, fun h => by rw [h]⟩
theorem signs_S (a : List Nat) : signs (S a) = a.map fun c => .str (S [c]) := by
  unfold signs S
  simp
theorem join_S (ls : List (List Nat)) : Txt.join "" (ls.map S) = S ls.flatten := by
  rw [show Txt.join "" (ls.map S) = Builtin.Str.glued "" (ls.map S) from rfl, StrLaws.glued_eq_join]
  induction ls with
  | nil => rfl
  | cons a r ih =>
    cases r with
    | nil =>
      show S a = _
      simp
    | cons b r =>
      show S a ++ "" ++ Str.join "" ((b :: r).map S) = _
      rw [ih, show S a ++ ("" : Str) = S a from by rw [show ("" : Str) = S [] from rfl, S_append]; simp, S_append]
      simp
section
variable {w : World} {n : Nat} {env : Env} {fr : List Addr} {mc : Option MC} {σ : Sto}
theorem Op2.addS {a b : List Nat} (hz : a.length + b.length ≤ 100000) : Op2 w n (binaryOp .Add) (.str (S a)) (.str (S b)) (.str (S (a ++ b))) := by
  rw [← S_append]
  exact Op2.adds (by rw [S_length, S_length]; exact Nat.le_trans hz (by decide))
theorem Op2.eqS {a b : List Nat} : Op2 w n (compareOp .Eq) (.str (S a)) (.str (S b)) (.bool (decide (a = b))) := by
  have := Op2.eqs (w := w) (n := n) (x := S a) (y := S b)
  simpa only [S_inj_iff] using this
theorem SubOp.strS {a : List Nat} {i : Int} {c : Nat} (h0 : 0 ≤ i) (hi : i < 2 ^ 62) (hc : a[i.toNat]? = some c) : SubOp w n (.str (S a)) (.int i) (.str (S [c])) := by
  refine SubOp.str ?_ (by simp; omega)
  have hl : i.toNat < a.length := (List.getElem?_eq_some_iff.mp hc).1
  have : seqIndex? i (S a).length = some i.toNat := by
    rw [S_length]
    unfold seqIndex?
    have h1 : ¬ i < 0 := by omega
    simp only [h1, if_false]
    rw [if_pos]
    simp; omega
  rw [this]
  simpa [S] using hc
theorem RdL.strs {F : Part} : ∀ {vs : List Value} {ts : List Str}, RdL F vs (ts.map .str) → ∃ l : List (Str × Tok), vs = strValues l ∧ l.map (·.1) = ts
  | [], [], _ => ⟨[], rfl, rfl⟩
  | [], t :: ts, h => nomatch h
  | v :: vs, [], h => nomatch h
  | v :: vs, t :: ts, h => by
    cases h with | cons r rs =>
    refine r.eStr fun k => ?_
    obtain ⟨l, h1, h2⟩ := RdL.strs rs
    exact ⟨(t, k) :: l, by rw [h1]; rfl, by simp [h2]⟩
theorem Fc.join {ls : List (List Nat)} (hz : ls.length ≤ 1000) (hl : ∀ l ∈ ls, l.length ≤ 100) : Fc w n (.builtin "str.join") [.str "", .list (ls.map fun l => .str (S l))] (.str (S ls.flatten)) := fun A hA F s vs E ok r => by
  refine r.e2 fun _ _ r1 r2 => ?_
  refine r1.eStr fun t => ?_
  refine r2.eList fun a xs k e rl => ?_
  rw [show (ls.map fun l => AV.str (S l)) = (ls.map S).map AV.str from by simp] at rl
  obtain ⟨l, h1, h2⟩ := rl.strs
  have hxs : xs = (strValues l).toArray := by rw [← h1]
  subst hxs
  refine SC.join (ok.isList e) h2 ?_ fun t' k' => ?_
  · unfold JoinOk Builtin.Str.tooLong
    have key : ∀ (ts : List Str) (acc : Nat), (∀ x ∈ ts, x.length ≤ 100) → ts.foldl (· + ·.length + ("" : Str).length) acc ≤ acc + 100 * ts.length := by
      intro ts
      induction ts with
      | nil => intro acc _; simp
      | cons x r ih =>
        intro acc h
        rw [List.foldl_cons]
        have h1 := ih (acc + x.length + ("" : Str).length) fun y m => h y (.tail _ m)
        have h2 := h x (.head _)
        have h3 : ("" : Str).length = 0 := rfl
        rw [h3] at h1 ⊢
        simp only [List.length_cons]
        omega
    have := key (ls.map S) 0 fun x m => by
      obtain ⟨l, hm, rfl⟩ := List.mem_map.mp m
      rw [S_length]; exact hl l hm
    rw [List.length_map] at this
    simp only [List.foldl_toArray', List.size_toArray]
    have hz' : sizeLine = 16777216 := rfl
    simp
    omega
  · rw [join_S]
    exact ⟨F, Fw.toks ok _, .str ..⟩
theorem Fc.bitlen {i : Int} : Fc w n (.builtin "int.bit_length") [.int i] (.int (Builtin.Int.intBits i : Nat)) := fun A hA F s vs E ok r => by
  refine r.e1 fun _ r1 => ?_
  refine r1.eInt fun t => ?_
  exact call_gives _root_.PySem.F.slot_int_bit_length (typeIs_int _ _ _) _root_.PySem.F.entry_int_bit_length (_root_.PySem.F.args_int_bit_length_1 _) (AutoIntG2.int_bit_length_int_0 i t) ⟨F, Fw.toks ok _, .int ..⟩
theorem Fc.len {l : List AV} (hz : l.length ≤ 100000) : Fc w n (.builtin "len") [.list l] (.int l.length) := fun A hA F s vs E ok r => by
  refine r.e1 fun _ r1 => ?_
  refine r1.eList fun a xs k e rl => ?_
  have hs : xs.size = l.length := by simpa using rl.length
  refine Calls.call_len_list (ok.isList e) (by rw [hs]; omega) ?_
  rw [hs]
  exact ⟨F, Fw.toks ok _, .int ..⟩
/-! dicts of texts -/
noncomputable def SD (w : World) (kvs : List (Str × Str)) (o : Obj) : Prop :=
  ∃ vs : List (Str × Value), o.IsDictOf (PySem.strKind prog w) vs ∧ vs.map (·.1) = kvs.map (·.1) ∧ ∀ k, valueAt vs k = none ∧ kvs.lookup k = none ∨ ∃ x t, valueAt vs k = some (.str x t) ∧ kvs.lookup k = some x
theorem HasT.dict {w' : World} {kvs : List (Str × Str)} : HasT "dict" (.obj (SD w' kvs)) := fun w F s v ok r => by
  cases r with | obj l7 e p =>
  obtain ⟨vs, ⟨es, ep, ⟨h1, h2, h3⟩, _⟩, _⟩ := p
  exact ⟨⟨_, (ok.sub _ _ e).2, h1⟩, fun b hb => by cases hb; exact ⟨_, (ok.sub _ _ e).2, h2⟩⟩
theorem Fc.dget {kvs : List (Str × Str)} {k d : Str} : Fc w n (.builtin "dict.get") [.obj (SD w kvs), .str k, .str d] (.str ((kvs.lookup k).getD d)) := fun A hA F s vs E ok r => by
  refine r.e3 fun _ _ _ r1 r2 r3 => ?_
  refine r1.eObj fun a o l7 e p => ?_
  refine r2.eStr fun t => ?_
  refine r3.eStr fun u => ?_
  obtain ⟨vs, hd, _, hv⟩ := p
  have hm : s.heap.DictOf (PySem.strKind prog w) a vs := Heap.dictOf_iff.mpr ⟨o, (ok.sub a o e).2, hd⟩
  have hT : s.TypeIs (.ref a) "dict" := by
    obtain ⟨es, ep, ⟨h1, _⟩, _⟩ := hd
    exact ⟨_, (ok.sub a o e).2, h1⟩
  have hds : (a == sysModules) = false := by
    have h : a ≠ sysModules := fun h => by rw [h] at l7; exact absurd l7 (by decide)
    simpa using h
  refine call_meetsIn _root_.PySem.F.slot_dict_get hT _root_.PySem.F.entry_dict_get (_root_.PySem.F.args_dict_get_3 _ _ _) (meets_dict_get_default (PySem.strKind prog w) a (k := k) (by simp [PySem.strKind, Value.isStrOf]) hds (.str d u)) ⟨_, hm.mapOf, ?_⟩
  refine ⟨F, Fw.toks ok _, ?_⟩
  rcases hv k with ⟨h1, h2⟩ | ⟨x, t', h1, h2⟩
  · rw [h1, h2]; exact .str ..
  · rw [h1, h2]; exact .str ..
/-- a dict display of three pairs of texts -/
theorem Ev.sdict3 {a1 a2 a3 b1 b2 b3 : Str} {k1 k2 k3 j1 j2 j3 : Nat} {p1 p2 p3 q1 q2 q3 pos : Pos} (hd : [a1, a2, a3].Nodup) :
    Ev w n env fr mc σ (.Dict [some (.Constant (.str a1) k1 p1), some (.Constant (.str a2) k2 p2), some (.Constant (.str a3) k3 p3)] [.Constant (.str b1) j1 q1, .Constant (.str b2) j2 q2, .Constant (.str b3) j3 q3] pos)
      (.obj (SD w [(a1, b1), (a2, b2), (a3, b3)])) := fun A hA F s E mu I => by
  refine wpAny_Dict_pairs (knd := PySem.strKind prog w) (pairs := [(eval (.Constant (.str a1) k1 p1) env, do let x ← eval (.Constant (.str b1) j1 q1) env; standAt pos; pure x),
    (eval (.Constant (.str a2) k2 p2) env, do let x ← eval (.Constant (.str b2) j2 q2) env; standAt pos; pure x), (eval (.Constant (.str a3) k3 p3) env, do let x ← eval (.Constant (.str b3) j3 q3) env; standAt pos; pure x)]) rfl (by simp) (by simp) ?_
  have step : ∀ {a b : Str} {k j : Nat} {p q : Pos} {rest : List (Sem Value × Sem Value)} {Q : List (Value × Value) → Shared → Prop} {s : Shared},
      (∀ t u tk, wpAny (model prog w) A (evalPairs rest) (fun vs s₃ => Q ((.str a t, .str b u) :: vs) s₃) E { s with toks := tk }) → wpAny (model prog w) A (evalPairs ((eval (.Constant (.str a) k p) env, do let x ← eval (.Constant (.str b) j q) env; standAt pos; pure x) :: rest)) Q E s := by
    intro a b k j p q rest Q s h
    exact evalPairs_cons (wpAny_Constant_str (wpAny_bind (wpAny_Constant_str (wpAny_bind (wpAny_standAt (wpAny_pure (h _ _ _)))))))
  refine step fun t1 u1 tk1 => step fun t2 u2 tk2 => step fun t3 u3 tk3 => evalPairs_nil ?_
  refine ⟨[(a1, .str b1 u1), (a2, .str b2 u2), (a3, .str b3 u3)], ⟨by simp [PySem.strKind, Value.isStrOf], rfl, by simp [PySem.strKind, Value.isStrOf], rfl, by simp [PySem.strKind, Value.isStrOf], rfl, trivial⟩, ?_, fun h' hm hsb => ?_⟩
  · exact ⟨_, #[], 0, Heap.get?_push_size _ rfl, ⟨rfl, rfl, rfl⟩, rfl, (fun _ m => by simp at m), .nil, List.nodup_nil⟩
  · rw [merged_nil_of_nodup _ (by simpa using hd)] at hm
    obtain ⟨o, ho, hd'⟩ := Heap.dictOf_iff.mp hm
    have hz : s.heap.objs.size + 1 ≤ h'.objs.size := by rw [hsb.1]; exact Nat.le_of_eq (Heap.size_push ..).symm
    have W : Fw w [] F s F { s with heap := h', toks := tk3 + 3 } := Fw.grow I.ok (fun b o e => (hsb.2 b (Nat.ne_of_lt (Heap.lt_size e))).trans (Heap.get?_push_of_some _ e)) (Nat.le_of_succ_le hz) rfl rfl
    have h207 := I.ok.sz
    refine ⟨F.put s.heap.objs.size o, W.freeze (I.ok.old (Nat.le_refl _)) (I.ok.notTab (Nat.le_refl _)) (.inl (Nat.le_refl _)) ho, .inl (.obj h207 (Part.put_self ..) ⟨_, hd', rfl, fun k => ?_⟩)⟩
    unfold valueAt
    by_cases e1 : a1 = k
    · subst e1; exact .inr ⟨b1, u1, by simp, by simp⟩
    · by_cases e2 : a2 = k
      · subst e2; exact .inr ⟨b2, u2, by simp [e1], by simp [List.lookup_cons, beq_eq_false_iff_ne.mpr (Ne.symm e1)]⟩
      · by_cases e3 : a3 = k
        · subst e3; exact .inr ⟨b3, u3, by simp [e1, e2], by simp [List.lookup_cons, beq_eq_false_iff_ne.mpr (Ne.symm e1), beq_eq_false_iff_ne.mpr (Ne.symm e2)]⟩
        · exact .inl ⟨by simp [e1, e2, e3], by simp [List.lookup_cons, beq_eq_false_iff_ne.mpr (Ne.symm e1), beq_eq_false_iff_ne.mpr (Ne.symm e2), beq_eq_false_iff_ne.mpr (Ne.symm e3)]⟩
noncomputable abbrev MForm (env : Env) (o : Expr) (name : Str) (apos pos : Pos) (args : List Expr) : Prop :=
  attributeBase o name env (eval o env) = eval o env ∧ ((backTo pos (starEach args env)).all (fun x => !x.1) && (backToKw pos (keywordEach [] env)).all (fun x => x.1.isSome)
      && decide (args.length + ([] : List Keyword).length + (if ([] : List Keyword).isEmpty then 0 else 1) < 30)) = true ∧ (apos.endLine == pos.line) = true
theorem Ev.join {e : Expr} {k : Nat} {p0 apos pos : Pos} {ls : List (List Nat)} (h : Ev w n env fr mc σ e (.list (ls.map fun l => .str (S l)))) (hz : ls.length ≤ 1000) (hl : ∀ l ∈ ls, l.length ≤ 100)
    (he : starEach [e] env = [(false, eval e env)]) (hf : MForm env (.Constant (.str "") k p0) (Str.ofString "join") apos pos [e]) :
    Ev w n env fr mc σ (.Call (.Attribute (.Constant (.str "") k p0) (Str.ofString "join") apos) [e] [] pos) (.str (S ls.flatten)) :=
  Ev.meth Ev.cstr (EvL.cons h EvL.nil (by intro h; cases h) he) HasT.str _root_.PySem.F.plainAttrs_str _root_.PySem.F.slot_str_join _root_.PySem.F.type_str_join (Fc.join hz hl) (by intro h; cases h) hf.1 hf.2.1 hf.2.2
theorem Ev.dget {o a b : Expr} {apos pos : Pos} {kvs : List (Str × Str)} {x d : Str} (h : Ev w n env fr mc σ o (.obj (SD w kvs))) (ha : EvL w n env fr mc σ [a, b] [.str x, .str d]) (hf : MForm env o (Str.ofString "get") apos pos [a, b]) :
    Ev w n env fr mc σ (.Call (.Attribute o (Str.ofString "get") apos) [a, b] [] pos) (.str ((kvs.lookup x).getD d)) :=
  Ev.meth h ha HasT.dict _root_.PySem.F.plainAttrs_dict _root_.PySem.F.slot_dict_get _root_.PySem.F.type_dict_get Fc.dget (by intro h; cases h) hf.1 hf.2.1 hf.2.2
theorem Ev.bitlen {o : Expr} {apos pos : Pos} {x : Int} (h : Ev w n env fr mc σ o (.int x)) (hf : MForm env o (Str.ofString "bit_length") apos pos []) :
    Ev w n env fr mc σ (.Call (.Attribute o (Str.ofString "bit_length") apos) [] [] pos) (.int (Builtin.Int.intBits x : Nat)) :=
  Ev.meth h EvL.nil HasT.int _root_.PySem.F.plainAttrs_int _root_.PySem.F.slot_int_bit_length _root_.PySem.F.type_int_bit_length Fc.bitlen (by intro h; cases h) hf.1 hf.2.1 hf.2.2
end
end Mine
namespace Mine
open PySem PySem.Calls PyProof.Rows PySem.W
section
variable {w : World} {n : Nat} {env : Env} {fr : List Addr} {mc : Option MC} {σ : Sto}
/-! dicts from int to int -/
noncomputable def ID (w : World) (f : Int → Option Int) (m : Nat) (o : Obj) : Prop :=
  ∃ vs : List (Int × Value), o.IsDictOf (PySem.intKind prog w) vs ∧ vs.length ≤ m ∧ ∀ k, valueAt vs k = none ∧ f k = none ∨ ∃ x t, valueAt vs k = some (.int x t) ∧ f k = some x
theorem intKind_is {k : Int} {t : Tok} : (PySem.intKind prog w).is k (.int k t) = true := by simp [PySem.intKind, Value.isInt]
theorem NewM.dict0 {pos : Pos} : NewM w n env fr mc σ (.Dict [] [] pos) (.obj (ID w (fun _ => none) 0)) := fun A hA F s E mu I =>
  wpAny_Dict_empty ⟨F, s.heap.objs.size, rfl, Fw.grow I.ok (fun _ _ e => Heap.get?_push_of_some _ e) (by show _ ≤ (Heap.push _ _).objs.size; rw [Heap.size_push]; exact Nat.le_succ _) rfl rfl, Nat.le_refl _,
    by show _ < (Heap.push _ _).objs.size; rw [Heap.size_push]; exact Nat.lt_succ_self _, I.ok.old (Nat.le_refl _), _, Heap.get?_push_size _ rfl, [], ⟨#[], 0, ⟨rfl, rfl, rfl⟩, rfl, (fun _ m => by simp at m), .nil, List.nodup_nil⟩, Nat.le_refl _, fun k => .inl ⟨rfl, rfl⟩⟩
theorem valueAt_append {K : Type} [DecidableEq K] {vs : List (K × Value)} {k k' : K} {v : Value} (h : valueAt vs k = none) : valueAt (vs ++ [(k, v)]) k' = if k' = k then some v else valueAt vs k' := by
  unfold valueAt at *
  rw [List.find?_append]
  by_cases e : k' = k
  · subst e
    rw [if_pos rfl]
    have : vs.find? (fun kv => decide (kv.1 = k')) = none := by simpa using h
    rw [this]; simp
  · rw [if_neg e]
    cases q : vs.find? (fun kv => decide (kv.1 = k')) with
    | some x => simp
    | none => simp [Ne.symm e]
theorem Es.setd {x : String} {np tpos pos : Pos} {i e : Expr} {f : Int → Option Int} {m : Nat} {k v : Int} (hx : (x, .mu) ∈ σ) (hi : Ev w n env fr (some (.obj (ID w f m))) σ i (.int k)) (he : Ev w n env fr (some (.obj (ID w f m))) σ e (.int v)) (hk : f k = none) (hm : m ≤ 1000)
    (hd : (Str.ofString x == ("__debug__" : Str)) = false) (hcc : (Str.ofString x == ("__classdict__" : Str)) = false) (hs : swapsWith e (some (.Subscript (.Name (Str.ofString x) np) i tpos)) pos.line env = pure false) :
    Es w n env fr (some (.obj (ID w f m))) σ (.Assign [.Subscript (.Name (Str.ofString x) np) i tpos] e pos) (.nxt (some (.obj (ID w (fun j => if j = k then some v else f j) (m + 1)))) σ) := fun A hA F s E mu I => by
  refine wpAny_Assign_Subscript ?_ hs
  refine he.use hA I (Fw.refl I.ok) fun ev s₁ F₁ I₁ W₁ L₁ R₁ => ?_
  refine (Ev.var hx hd hcc).use hA I₁ W₁ fun ov s₂ F₂ I₂ W₂ L₂ R₂ => ?_
  rcases R₂ with R₂ | ⟨_, b, rfl, rfl⟩
  · cases R₂
  refine hi.use hA I₂ W₂ fun iv s₃ F₃ I₃ W₃ L₃ R₃ => ?_
  obtain ⟨t, rfl⟩ := R₃.int
  obtain ⟨u, rfl⟩ := R₁.int
  obtain ⟨h1, h2, h3, h4, o, ho, vs, hdo, hlen, hv⟩ := I₃.mu0
  have hvk : valueAt vs k = none := by
    rcases hv k with h | ⟨x, t, _, h⟩
    · exact h.1
    · rw [hk] at h; cases h
  refine wpAny_setItem_pairs (knd := PySem.intKind prog w) (k := k) intKind_is (Heap.dictOf_iff.mpr ⟨o, ho, hdo⟩) (fun h' hm' hsb => ?_) (by have : sizeLine = 16777216 := rfl; omega)
  rw [stored_absent hvk] at hm'
  obtain ⟨o', ho', hd'⟩ := Heap.dictOf_iff.mp hm'
  obtain ⟨I₅, W₅⟩ := I₃.setmu (c' := .obj (ID w (fun j => if j = k then some v else f j) (m + 1))) (s₃.toks + 1) hsb ⟨o', ho', _, hd', by simp; omega, fun j => by
    rw [valueAt_append hvk]
    by_cases e : j = k
    · simp only [if_pos e]; exact .inr ⟨v, u, rfl, rfl⟩
    · simp only [if_neg e]; exact hv j⟩
  exact ⟨F₃, (W₃.wide (T := fr ++ (some b).toList)).trans (W₅.mono fun a m => by rw [List.mem_singleton.mp m]; simp), rfl, some b, I₅, fun _ e => .inl e⟩
theorem Et.notind {x : String} {np pos : Pos} {e : Expr} {f : Int → Option Int} {m : Nat} {k : Int} (hx : (x, .mu) ∈ σ) (he : Ev w n env fr (some (.obj (ID w f m))) σ e (.int k))
    (hd : (Str.ofString x == ("__debug__" : Str)) = false) (hcc : (Str.ofString x == ("__classdict__" : Str)) = false) :
    Et w n env fr (some (.obj (ID w f m))) σ (.Compare e [.NotIn] [.Name (Str.ofString x) np] pos) (!(f k).isSome) := fun A hA F s E mu I =>
  wpAny_isTrue_Compare1 (he.use hA I (Fw.refl I.ok) fun ev s₁ F₁ I₁ W₁ L₁ R₁ => (Ev.var hx hd hcc).use hA I₁ W₁ fun ov s₂ F₂ I₂ W₂ L₂ R₂ => by
    rcases R₂ with R₂ | ⟨_, b, rfl, rfl⟩
    · cases R₂
    obtain ⟨t, rfl⟩ := R₁.int
    obtain ⟨h1, h2, h3, h4, o, ho, vs, hdo, hlen, hv⟩ := I₂.mu0
    have hds : (b == sysModules) = false := by
      have h : b ≠ sysModules := fun h => by rw [h] at h1; exact absurd h1 (by decide)
      simpa using h
    refine wpAny_notIn_of (knd := PySem.intKind prog w) (k := k) intKind_is hds (Heap.dictOf_iff.mpr ⟨o, ho, hdo⟩).mapOf (wpAny_truthy_bool ⟨?_, F₂, W₂.trans (Fw.toks I₂.ok _)⟩)
    rcases hv k with ⟨h1, h2⟩ | ⟨x, t, h1, h2⟩
    · rw [h1, h2]; rfl
    · rw [h1, h2]; rfl) (by with_unfolding_all rfl)
theorem Es.retd {e : Expr} {pos : Pos} {P : Obj → Prop} (h : Ev w n env fr (some (.obj P)) σ e .mu) : Es w n env fr (some (.obj P)) σ (.Return (some e) pos) (.ret (.obj P)) := fun A hA F s E mu I =>
  wpAny_Return_some (h.use hA I (Fw.refl I.ok) fun v' s₁ F₁ I₁ W₁ L₁ R₁ => by
    rcases R₁ with R₁ | ⟨_, b, rfl, rfl⟩
    · cases R₁
    · obtain ⟨h1, h2, h3, h4, o, ho, hp⟩ := I₁.mu0
      exact ⟨F₁.put b o, (W₁.wide (T := fr ++ (some b).toList)).freeze h2 (ge_notTab h1) (.inr (by simp)) ho, .ref b, rfl, .obj h1 (Part.put_self ..) hp⟩)
theorem SubOp.dict {f : Int → Option Int} {m : Nat} {k v : Int} (h : f k = some v) : SubOp w n (.obj (ID w f m)) (.int k) (.int v) := fun A hA F s E mu x y ok hx hy => by
  obtain ⟨a, o, rfl, l7, hF, vs, hdo, hlen, hv⟩ := hx.obj
  obtain ⟨t, rfl⟩ := hy.int
  have ho := (ok.sub a o hF).2
  have hT : s.TypeIs (.ref a) "dict" := by
    obtain ⟨es, ep, ⟨h1, _⟩, _⟩ := hdo
    exact ⟨_, ho, h1⟩
  refine ⟨⟨"dict", _, hT, _root_.PySem.F.slot_dict_getitem.lookup⟩, ?_⟩
  rcases hv k with ⟨h1, h2⟩ | ⟨x, u, h1, h2⟩
  · rw [h] at h2; cases h2
  · rw [h] at h2; cases h2
    exact wpAny_getItem_of (knd := PySem.intKind prog w) (k := k) intKind_is (Heap.dictOf_iff.mpr ⟨o, ho, hdo⟩).mapOf h1 ⟨F, Fw.toks ok _, .int ..⟩
/-! lists of ints -/
theorem RdL.ints {F : Part} : ∀ {vs : List Value} {ns : List Int}, RdL F vs (ns.map .int) → IntsAre vs ns
  | [], [], _ => .nil
  | [], t :: ts, h => nomatch h
  | v :: vs, [], h => nomatch h
  | v :: vs, t :: ts, h => by
    cases h with | cons r rs =>
    cases r with | int _ k => exact .cons _ _ (RdL.ints rs)
theorem Op2.ninints {ns : List Int} {k : Int} : Op2 w n (compareOp .NotIn) (.int k) (.list (ns.map .int)) (.bool (!(ns.any (· == k)))) := fun A hA F s E mu u v ok hx hy => by
  obtain ⟨_, rfl⟩ := hx.int
  obtain ⟨a, xs, m, rfl, hF, hr⟩ := hy.list
  exact notin_list_ints (ok.isList hF) hr.ints ⟨F, Fw.refl ok, .bool _⟩
theorem Fc.min {ns : List Int} {m : Int} (hm : m ∈ ns) (hl : ∀ a ∈ ns, m ≤ a) : Fc w n (.builtin "min") [.list (ns.map .int)] (.int m) := fun A hA F s vs E ok r => by
  refine r.e1 fun _ r1 => ?_
  refine r1.eList fun a arr k e rl => ?_
  have hi := rl.ints
  obtain ⟨xs, ex⟩ := hi.allInts.items
  have hns : ns = xs.toList.map (·.1) := by rw [← hi.numsOf, ← nums_intItems, ← ex]
  have hsz : 0 < xs.size := by
    have : 0 < ns.length := List.length_pos_of_mem hm
    rw [hns] at this; simpa using this
  have hl' := ok.isList e
  rw [show arr = intItems xs from ex] at hl'
  refine with_gr (min_intList hA.2.2 hl' hsz fun v h' tk hv hk g => ?_)
  obtain ⟨t, rfl⟩ := intItems_at hv
  obtain ⟨h1, h2⟩ := argBest_lt (numAt xs) (xs.size - 1)
  have hmem : numAt xs (argBest (fun i j => decide (numAt xs i < numAt xs j)) (xs.size - 1)) ∈ ns := by
    rw [hns, numAt_eq]; exact getD_mem (by rw [List.length_map, Array.length_toList]; omega)
  have hle : numAt xs (argBest (fun i j => decide (numAt xs i < numAt xs j)) (xs.size - 1)) ≤ m := by
    rw [hns] at hm
    obtain ⟨j, hj, rfl⟩ := mem_getD hm
    rw [List.length_map, Array.length_toList] at hj
    rw [← numAt_eq]; exact h2 j (by omega)
  have := hl _ hmem
  have e : numAt xs (argBest (fun i j => decide (numAt xs i < numAt xs j)) (xs.size - 1)) = m := by omega
  rw [e]
  exact ⟨F, Fw.grow ok hk g.1 rfl rfl, .int ..⟩
theorem Itb.range' {e : Expr} {np pos : Pos} {N : Int} {m : Nat} (hf : Ev w n env fr mc σ (.Name "range" np) (.raw (.type "range"))) (h : Ev w n env fr mc σ e (.int N)) (hm : N.toNat = m) (hN : 0 ≤ N) (hN2 : N < 2 ^ 62)
    (he : starEach [e] env = [(false, eval e env)]) : Itb w n env fr mc σ (.Call (.Name "range" np) [e] [] pos) (natsL m) := hm ▸ Itb.range hf h hN hN2 he
theorem natsL_ne (N : Nat) : ∀ v ∈ natsL N, v ≠ .mu := fun v h e => by
  subst e
  obtain ⟨i, _, h⟩ := List.mem_map.mp h
  cases h
theorem natsL_get {N j : Nat} {v : AV} (h : (natsL N)[j]? = some v) : j < N ∧ v = .int j := by
  unfold natsL at h
  rw [List.getElem?_map] at h
  by_cases hj : j < N
  · rw [List.getElem?_range hj] at h
    exact ⟨hj, by simpa using h.symm⟩
  · rw [List.getElem?_eq_none (by simpa using hj)] at h
    cases h
theorem Es.forx {x : String} {px pos : Pos} {iter : Expr} {body : List Stmt} {l : List AV} (inv : Nat → Option MC × Sto) (mo : Option MC) (σo : Sto) (hi : Itb w n env fr mc σ iter l) (h0 : (inv 0).1 = mc) (h0' : ∀ p ∈ (inv 0).2, p ∈ σ)
    (hw : Wr env fr (Str.ofString x)) (hb : ∀ j v, l[j]? = some v → Ex w n env fr (inv j).1 (upd (inv j).2 x v) body (.nxt (inv (j + 1)).1 (inv (j + 1)).2))
    (hs : ∀ x, foldedSetIterable iter env x = pure x) (hlv : ∀ v ∈ l, v ≠ .mu) (hmo : (inv l.length).1 = mo) (hσo : ∀ p ∈ σo, p ∈ (inv l.length).2) :
    Es w n env fr mc σ (.For (.Name (Str.ofString x) px) iter body [] pos) (.nxt mo σo) := fun A hA F s E mu I =>
  wpAny_mono (Es.for inv hi h0 h0' hw hb hs hlv A hA F s E mu I) (fun fl s' ⟨F', W, hf, mu', I', hm⟩ => ⟨F', W, hf, mu', by subst hmo; exact I'.weaken hσo, hm⟩) fun _ _ y => y
theorem Op2.iadd {i j : Int} : Op2 w n (inplaceOp .Add) (.int i) (.int j) (.int (i + j)) := fun A hA F s E mu x y ok hx hy => by
  obtain ⟨_, rfl⟩ := hx.int; obtain ⟨_, rfl⟩ := hy.int
  exact PySem.P.iadd_int ⟨F, Fw.toks ok _, .int ..⟩
end
end Mine
namespace Mine
open PySem PySem.Calls PyProof.Rows PySem.W
theorem codeAmong_snoc_other {pos pos' : Pos} {c : Value} (h : ¬ (pos.line = pos'.line ∧ pos.col = pos'.col)) : ∀ l : List Value, TriplesOk l → codeAmong pos' (l ++ [rawInt pos.line, rawInt pos.col, c]) = codeAmong pos' l := fun l ht => by
  fun_induction TriplesOk l with
  | case1 =>
    simp only [List.nil_append, codeAmong, rawInt]
    rw [if_neg]
    intro e
    obtain ⟨e1, e2⟩ := Bool.and_eq_true_iff.mp e
    exact h ⟨Int.ofNat.inj (by simpa using e1), Int.ofNat.inj (by simpa using e2)⟩
  | case2 a t b u x rest ih =>
    simp only [List.cons_append, codeAmong]
    split
    · rfl
    · exact ih ht
  | case3 => exact ht.elim
theorem makers_P : ∀ m ∈ makers, ∀ m' ∈ makers, m.P = m'.P → m = m' := by
  intro m hm m' hm'
  simp only [makers, List.mem_cons, List.not_mem_nil, or_false] at hm hm'
  rcases hm with rfl | rfl | rfl | rfl | rfl <;> rcases hm' with rfl | rfl | rfl | rfl | rfl <;> intro h <;> first | rfl | exact absurd h (by decide)
theorem makers_q : ∀ m ∈ makers, ∀ p ∈ m.ql, ∀ q ∈ m.ql, p.1 = q.1 → p.2.1 = q.2.1 → p.2.2 = q.2.2 := by
  intro m hm
  simp only [makers, List.mem_cons, List.not_mem_nil, or_false] at hm
  rcases hm with rfl | rfl | rfl | rfl | rfl <;> decide
/-- the table of a maker grew by one code object -/
theorem OK.made {w : World} {F : Part} {s : Shared} (ok : OK w F s) {m : Maker} (hm : m ∈ makers) {pq : Nat × Nat × Str} (hpq : pq ∈ m.ql) {pos : Pos} (hl : pos.line = pq.1) (hc : pos.col = pq.2.1) {ps : Array Value} {c' : Addr} {h' : Heap} {tk : Nat}
    (hcode : s.heap.IsCode m.c m.P ps) (hold : ∀ pq ∈ m.ql, ∀ pos : Pos, pos.line = pq.1 → pos.col = pq.2.1 → ∀ c', codeAmong pos ps.toList = some c' → CodeIn F c' pq.2.2) (hnf : codeAmong pos ps.toList = none)
    (hx : Heap.ExtBut m.P s.heap h') (hge : s.heap.objs.size ≤ c') (hlt : c' < h'.objs.size) (hok' : h'.IsCode m.c m.P (ps ++ #[rawInt pos.line, rawInt pos.col, .ref c'])) (hrec : h'.CodeRec (.ref c') pq.2.2)
    (htab : h'.TableAt m.c m.P (ps ++ #[rawInt pos.line, rawInt pos.col, .ref c'])) : ∃ F', Fw w [] F s F' { s with heap := h', toks := tk } ∧ CodeIn F' (.ref c') pq.2.2 := by
  obtain ⟨c₂, o₂, vs₂, t₂, e₂, g₂, d₂, q₂⟩ := hrec
  cases e₂
  obtain ⟨hmc, hmP, hmcT, hmPT⟩ := makers_lt m hm
  have hn : F c' = none := ok.old hge
  have hT : c' ∉ TAB := ok.notTab hge
  have hsz : s.heap.objs.size ≤ h'.objs.size := Nat.le_of_lt (Nat.lt_of_le_of_lt hge hlt)
  have low : ∀ a, a ≠ m.P → ∀ o, s.heap.get? a = some o → h'.get? a = some o := fun a ha o e => hx a o ha e
  have lowT : ∀ a, a ∉ TAB → ∀ o, s.heap.get? a = some o → h'.get? a = some o := fun a ha => low a fun e => ha (e ▸ hmPT)
  have hcin : CodeIn (F.put c' o₂) (.ref c') pq.2.2 := ⟨c', o₂, vs₂, t₂, rfl, Part.put_self .., d₂, q₂⟩
  refine ⟨F.put c' o₂, ⟨Part.le_put hn, fun a o e => ?_, fun a ha _ o e => lowT a ha o e, hsz, fun i x _ e => e, Nat.le_refl _, rfl, ?_⟩, hcin⟩
  · by_cases h : a = c'
    · subst h; exact .inr (.inl hge)
    · rw [F.put_other o₂ h] at e; exact .inl e
  · refine ⟨fun a o e => ?_, fun a o e => lowT a (KF_lt e).2 o (ok.K a o e), ?_, ?_, ?_, ?_, fun m' hm' => ?_, Nat.le_trans ok.sz hsz, ok.bare⟩
    · by_cases h : a = c'
      · subst h; rw [F.put_self] at e; cases e; exact ⟨hT, g₂⟩
      · rw [F.put_other o₂ h] at e; obtain ⟨k1, k2⟩ := ok.sub a o e; exact ⟨k1, lowT a k1 o k2⟩
    · obtain ⟨mg, h⟩ := ok.glo; exact ⟨mg, ns_at h (lowT _ (by decide))⟩
    · obtain ⟨ob, h, r⟩ := ok.bm; exact ⟨ob, lowT _ (by decide) _ h, r⟩
    · obtain ⟨mb, h, r⟩ := ok.bui; exact ⟨mb, ns_at h (lowT _ (by decide)), r⟩
    · exact ok.lim.at (lowT _ (by decide))
    · by_cases hP : m'.P = m.P
      · have := makers_P m' hm' m hm hP
        subst this
        have htr : TriplesOk ps.toList := by
          obtain ⟨o, vs, file, tf, flags, tg, inF, text, tt, op, _, _, _, _, _, _, _, _, _, htr, _⟩ := hcode
          exact htr
        refine ⟨_, hok', htab, fun pq' hq' pos' h1 h2 x e => ?_⟩
        have el : (ps ++ #[rawInt pos.line, rawInt pos.col, Value.ref c']).toList = ps.toList ++ [rawInt pos.line, rawInt pos.col, .ref c'] := by simp
        rw [el] at e
        by_cases heq : pos.line = pos'.line ∧ pos.col = pos'.col
        · have e1 : codeAmong pos' ps.toList = none := by
            have : codeAmong pos' ps.toList = codeAmong pos ps.toList := by
              have aux : ∀ l, codeAmong pos' l = codeAmong pos l := by
                intro l
                fun_induction codeAmong pos l with
                | case1 line t col u c rest hc => simp only [codeAmong]; rw [if_pos]; rw [← heq.1, ← heq.2]; exact hc
                | case2 line t col u c rest hc ih => simp only [codeAmong]; rw [if_neg]; exact ih; rw [← heq.1, ← heq.2]; exact hc
                | case3 l h => unfold codeAmong; split <;> first | rfl | exact (h _ _ _ _ _ _ rfl).elim
              exact aux _
            rw [this, hnf]
          have e2 := codeAmong_snoc (pos := pos') (c := .ref c') ps.toList htr e1
          rw [← heq.1, ← heq.2] at e2
          rw [e2] at e
          cases e
          rw [makers_q _ hm _ hq' _ hpq (by rw [← h1, ← hl, heq.1]) (by rw [← h2, ← hc, heq.2])]
          exact hcin
        · rw [codeAmong_snoc_other heq _ htr] at e
          exact (hold pq' hq' pos' h1 h2 x e).mono (Part.le_put hn)
      · obtain ⟨ps', ⟨o, vs, file, tf, flags, tg, inF, text, tt, op, a1, r1, r2, r3, r4, r5, r6, a2, r⟩, ⟨⟨o', vs', b1, q⟩, t⟩, hc'⟩ := ok.mks m' hm'
        have k1 : m'.c ≠ m.P := fun e => (makers_lt m' hm').2.2.1 (e ▸ hmPT)
        exact ⟨ps', ⟨o, vs, file, tf, flags, tg, inF, text, tt, op, low _ k1 _ a1, r1, r2, r3, r4, r5, r6, low _ hP _ a2, r⟩, ⟨⟨o', vs', low _ k1 _ b1, q⟩, low _ hP _ t⟩, fun pq hq pos h1 h2 x e => (hc' pq hq pos h1 h2 x e).mono (Part.le_put hn)⟩
section
variable {w : World} {A : Around} {E : Value → Shared → Prop} {F : Part} {s : Shared} {env : Env}
theorem code_fn (ok : OK w F s) {m : Maker} (hm : m ∈ makers) {pq : Nat × Nat × Str} (hpq : pq ∈ m.ql) {pos : Pos} (hl : pos.line = pq.1) (hc : pos.col = pq.2.1) (he : env.code = .ref m.c) {fl : Nat} {name : Str} {p : Arguments} {scope : Scope} {body : FuncBody} {Q : Value → Shared → Prop}
    (hQ : ∀ c' s' F', Fw w [] F s F' s' → CodeIn F' c' pq.2.2 → Q c' s') : wpAny (model prog w) A (functionCode env pos fl name pq.2.2 p scope body) Q E s := by
  obtain ⟨ps, h1, h2, h3⟩ := ok.mks m hm
  cases e : codeAmong pos ps.toList with
  | some c' => exact wpAny_functionCode_hit he h1 e (hQ c' s F (Fw.refl ok) (h3 pq hpq pos hl hc c' e))
  | none =>
    refine wpAny_functionCodeX he h1 h2 e fun c' h' tk hx hge hlt hok' hrec htab _ => ?_
    obtain ⟨F', W, hin⟩ := ok.made hm hpq hl hc (tk := tk) h1 h3 e hx hge hlt hok' hrec htab
    exact hQ _ _ F' W hin
theorem code_gen (ok : OK w F s) {m : Maker} (hm : m ∈ makers) {pq : Nat × Nat × Str} (hpq : pq ∈ m.ql) {pos : Pos} (hl : pos.line = pq.1) (hc : pos.col = pq.2.1) (he : env.code = .ref m.c) {scope : Scope} {Q : Value → Shared → Prop}
    (hQ : ∀ c' s' F', Fw w [] F s F' s' → CodeIn F' c' pq.2.2 → Q c' s') : wpAny (model prog w) A (genexprCode env pos pq.2.2 scope) Q E s := by
  obtain ⟨ps, h1, h2, h3⟩ := ok.mks m hm
  cases e : codeAmong pos ps.toList with
  | some c' => exact wpAny_genexprCode_hit he h1 e (hQ c' s F (Fw.refl ok) (h3 pq hpq pos hl hc c' e))
  | none =>
    refine wpAny_genexprCodeX he h1 h2 e fun c' h' tk hx hge hlt hok' hrec htab _ => ?_
    obtain ⟨F', W, hin⟩ := ok.made hm hpq hl hc (tk := tk) h1 h3 e hx hge hlt hok' hrec htab
    exact hQ _ _ F' W hin
end
end Mine
namespace Mine
open PySem PySem.Calls PyProof.Rows PySem.W
section
variable {w : World} {A : Around} {E : Value → Shared → Prop} {F : Part} {s : Shared} {env : Env} {fr : List Addr} {mc : Option MC} {mu : Mu} {σ : Sto}
theorem makeFn (ok : OK w F s) (hg0 : env.globals = mainGlobals) {m : Maker} (hm : m ∈ makers) {pq : Nat × Nat × Str} (hpq : pq ∈ m.ql) {pos : Pos} (hl : pos.line = pq.1) (hc : pos.col = pq.2.1) (he : env.code = .ref m.c) {fl : Nat} {name : Str} {params : Arguments} {scope : Scope} {body : List Stmt}
    {Q : Value → Shared → Prop} (hfree : freeOk scope.names env = true) (hdoc : docOf body = none)
    (hQ : ∀ s' F' (a : Addr) fd, Fw w [] F s F' s' → s.heap.objs.size ≤ a → a < s'.heap.objs.size → F' a = none → s'.heap.get? a = some { cls := .type "function", data := .func fd } → FdOk F' fd pq.2.2 params body scope (clOf env scope.names []) → Q (.ref a) s') :
    wpAny (model prog w) A (makeFunction name pq.2.2 params (.stmts body) scope env [] [] [] pos fl) Q E s := by
  simp only [makeFunction, List.zip_nil_right, List.filterMap_nil, List.isEmpty_nil, if_true, pure_bind, closureFor_eq hfree, hdoc]
  have fin : ∀ (ct : Value) (s₁ : Shared), Fw w [] F s F s₁ → wpAny (model prog w) A (do
      let code ← functionCode env pos fl name pq.2.2 params scope (.stmts body)
      let b ← builtinsFor env.globals env.builtins
      let nm ← nsGet env.globals "__name__"
      newObj (.type "function") (.func { name, qualname := pq.2.2, params, body := .stmts body, scope, globals := env.globals, closure := clOf env scope.names [], closureTuple := ct, code, builtins := b, defaults := .none, kwdefaults := .none, annotations := none, pyModule := nm.getD .none, doc := .none })) Q E s₁ := fun ct s₁ W₁ => by
    refine wpAny_bind (code_fn W₁.ok hm hpq hl hc he fun c' s₂ F₂ W₂ hin => ?_)
    obtain ⟨mg, hmg⟩ := W₂.ok.glo
    obtain ⟨ob, hob, h1, h2, h3⟩ := W₂.ok.bm
    have hb : mg "__builtins__" = some (.ref 4) := mg_of W₂.ok.K hmg (v := .ref 4) (by rfl)
    rw [hg0]
    refine wpAny_bind (wpAny_builtinsFor hmg hb (by decide) hob h1 h2 h3 ?_)
    refine wpAny_bind (wpAny_nsGet hmg ?_)
    have W := W₁.trans W₂
    have W₃ : ∀ o : Obj, Fw w [] F s F₂ { s₂ with heap := s₂.heap.push o } := fun o => W.trans (Fw.grow W.ok (fun _ _ e => Heap.get?_push_of_some _ e) (by show _ ≤ (Heap.push _ _).objs.size; rw [Heap.size_push]; exact Nat.le_succ _) rfl rfl)
    refine wpAny_newObj_type ?_ (by size_fits)
    exact hQ _ F₂ s₂.heap.objs.size _ (W₃ _) W.size (by show _ < (Heap.push _ _).objs.size; rw [Heap.size_push]; exact Nat.lt_succ_self _) (W.ok.old (Nat.le_refl _)) (Heap.get?_push_size _ rfl) ⟨rfl, rfl, rfl, rfl, rfl, rfl, rfl, rfl, rfl, hin⟩
  by_cases hcl : (clOf env scope.names []).isEmpty = true
  · simp only [hcl, if_true, pure_bind]
    exact fin _ s (Fw.refl ok)
  · simp only [hcl, if_false, bind_assoc]
    refine wpAny_bind (wpAny_newTextTuple ?_)
    exact fin _ _ (Fw.grow ok (fun _ _ e => Heap.get?_push_of_some _ e) (by show _ ≤ (Heap.push _ _).objs.size; rw [Heap.size_push]; exact Nat.le_succ _) rfl rfl)
end
end Mine
namespace Mine
open PySem PySem.Calls PyProof.Rows PySem.W
open Builtin Builtin.ObjectAttr
theorem slot_function_setattr : Slot "function" "__setattr__" "object.__setattr__" :=
  .of (owner := "object") (n := "__setattr__") (by rw [typeLookup_type, builtinLookup_eq_fast]; kernel_rfl) (by decide +kernel) (by decide +kernel) (by decide +kernel)
    (by first | exact .inl (by decide +kernel) | exact .inr (by decide +kernel)) (by rw [isSubtype_type]; kernel_rfl)
theorem entry_setattr : entryFor table "object.__setattr__" = some Builtin.«object.__setattr__» := entryFor_of_tree (by kernel_rfl)
theorem args_setattr (a b c : Value) : argsOk "object.__setattr__" ⟨[a, b, c], []⟩ := by
  unfold argsOk; rw [signature?_of (id := "object.__setattr__") (n := "__setattr__".toList.reverse) (o := ['t', 'c', 'e', 'j', 'b', 'o']) (by kernel_rfl) _root_.PySem.F.owner_object]; kernel_rfl
theorem look_function_tag : typeLookup (.type "function") "tag" = pure none := by rw [typeLookup_type, builtinLookup_eq_fast]; kernel_rfl
section
variable {w : World} {A : Around} {E : Value → Shared → Prop} {s : Shared}
theorem setFnAttr {a : Addr} {fd : FuncData} {v : Value} {Q : Unit → Shared → Prop} (ha : s.heap.get? a = some { cls := .type "function", data := .func fd })
    (hQ : ∀ h' tk od es n, h'.get? a = some ⟨.type "function", some s.heap.objs.size, .func fd, #[]⟩ → h'.get? s.heap.objs.size = some od → od.data = .dict es n → StrKeys es → nsFind es "tag" = some v →
      (∀ b o, b ≠ a → s.heap.get? b = some o → h'.get? b = some o) → Q () { s with heap := h', toks := tk }) : wpAny (model prog w) A (setAttr (.ref a) "tag" v) Q E s := by
  have hT : s.TypeIs (.ref a) "function" := ⟨_, ha, rfl⟩
  unfold setAttr
  refine wpAny_bind (wpAny_mkText ?_)
  have hT' : ({ s with toks := s.toks + 1 } : Shared).TypeIs (.ref a) "function" := hT
  refine wpAny_bind (wpAny_callSpecial?_slot (name := Str.ofString "__setattr__") hT' slot_function_setattr
    (wpAny_call_entry slot_function_setattr hT' entry_setattr ?_ (args_setattr _ _ _)))
  obtain ⟨h, g, d, t, os⟩ := s
  have hx : h.get? a = some { cls := .type "function", data := .func fd } := ha
  unfold Builtin.«object.__setattr__»
  wp_walk using mro_function, look_function_tag
  rw [look_function_tag]
  refine wpAny_pure ?_
  show wpAny _ _ (storeInOwnDict (Value.ref a) (Value.type "function") (Value.str (Str.ofString "tag") t) (Str.ofString "tag") v false) _ _ _
  unfold storeInOwnDict
  refine wpAny_bind (m := ownStreamTells _ _) (wpAny_of_eq (a := ()) (by unfold ownStreamTells; rfl) ?_)
  rw [if_neg (show ¬ ((Value.type "function" == Value.type "module") = true) by decide)]
  show wpAny _ _ (instanceDict a true >>= _) _ _ _
  unfold instanceDict
  refine wpAny_bind (wpAny_bind (wpAny_loadPart hx ?_))
  have hx₁ : (h.push { cls := .type "dict", data := .dict #[] }).get? a = some { cls := .type "function", data := .func fd } := Heap.get?_push_of_some _ hx
  have hxs : a ≠ h.objs.size := Nat.ne_of_lt (Heap.lt_size hx)
  dsimp only
  rw [if_neg (show ¬ ((!true || !typeHasDict (Value.type "function")) = true) by decide +kernel)]
  refine wpAny_bind (wpAny_alloc' ?_)
  refine wpAny_bind (wpAny_update' hx₁ ?_)
  unfold dictMade
  dsimp only
  rw [if_neg (show ¬ (finalisedInACycleAlone "function" = true) by decide +kernel)]
  refine wpAny_pure ?_
  have hgd : ((h.push { cls := .type "dict", data := .dict #[] }).update a fun o => { cls := o.cls, dict := some h.objs.size, data := o.data, slots := o.slots }).get? h.objs.size
      = some { cls := .type "dict", data := .dict #[] } :=
    (Heap.get?_update_ne _ _ _ _ hxs.symm).trans (Heap.get?_push_at rfl rfl)
  have hnd : ((h.push { cls := .type "dict", data := .dict #[] }).update a fun o => { cls := o.cls, dict := some h.objs.size, data := o.data, slots := o.slots }).Ns h.objs.size (fun _ => none) :=
    ⟨_, #[], _, hgd, rfl, fun e he => absurd he (by simp), fun _ => rfl⟩
  show wpAny _ _ (storeInDict h.objs.size (.str (Str.ofString "tag") t) (Str.ofString "tag") v) _ _ _
  unfold storeInDict newKeyGuard
  refine wpAny_bind (wpAny_pure (wpAny_bind (wpAny_nsSet1 (Heap.Ns1.of_empty hnd) fun h' hn' hs => ?_)))
  obtain ⟨oD, esD, epD, hoD, hdD, hcD⟩ := hn'.count (Within.cons (Str.ofString "tag") v Within.nil)
  refine wpAny_bind (wpAny_lookBehind hoD (by rw [hdD]; exact pastItsLine_dict (Nat.le_trans hcD (by rw [List.length_cons, List.length_nil, sizeLine_eq]; omega))) ?_)
  refine wpAny_pure ⟨.none, rfl, wpAny_pure ?_⟩
  obtain ⟨o', es, ep, e1, e2, e3, eu, e4⟩ := hn'
  refine hQ h' _ o' es ep ?_ e1 e2 e3 (by rw [e4]; simp) fun b o hb e => (hs.2 b (Nat.ne_of_lt (Heap.lt_size e))).trans ((Heap.get?_update_ne _ _ _ _ hb).trans (Heap.get?_push_of_some _ e))
  refine (hs.2 a hxs).trans (Heap.get?_update_self _ hx₁ rfl)
end
end Mine
namespace Mine
open PySem PySem.Calls PyProof.Rows PySem.W
open Builtin Builtin.ObjectAttr
theorem slot_function_ga : Slot "function" "__getattribute__" "object.__getattribute__" :=
  .of (owner := "object") (n := "__getattribute__") (by rw [typeLookup_type, builtinLookup_eq_fast]; kernel_rfl) (by decide +kernel) (by decide +kernel) (by decide +kernel)
    (by first | exact .inl (by decide +kernel) | exact .inr (by decide +kernel)) (by rw [isSubtype_type]; kernel_rfl)
theorem entry_ga : entryFor table "object.__getattribute__" = some Builtin.«object.__getattribute__» := entryFor_of_tree (by kernel_rfl)
theorem args_ga (a b : Value) : argsOk "object.__getattribute__" ⟨[a, b], []⟩ := by
  unfold argsOk; rw [signature?_of (id := "object.__getattribute__") (n := "__getattribute__".toList.reverse) (o := ['t', 'c', 'e', 'j', 'b', 'o']) (by kernel_rfl) _root_.PySem.F.owner_object]; kernel_rfl
section
variable {w : World} {A : Around} {E : Value → Shared → Prop} {s : Shared}
theorem getFnAttr {a d : Addr} {fd : FuncData} {sl : Array (Option Value)} {od : Obj} {es : Array DictEntry} {n : Nat} {x : Value} {Q : Value → Shared → Prop} (ha : s.heap.get? a = some ⟨.type "function", some d, .func fd, sl⟩)
    (hd : s.heap.get? d = some od) (he : od.data = .dict es n) (hk : StrKeys es) (hx : nsFind es "tag" = some x) (hh : handedOut x = pure x) (hQ : Q x { s with toks := s.toks + 1 }) :
    wpAny (model prog w) A (getAttr (.ref a) "tag" true) Q E s := by
  have hn : s.heap.Ns d (nsFind es) := ⟨od, es, n, hd, he, hk, fun _ => rfl⟩
  have hT : ({ s with toks := s.toks + 1 } : Shared).TypeIs (.ref a) "function" := ⟨_, ha, rfl⟩
  unfold getAttr getAttrBy
  refine wpAny_bind (wpAny_mkText ?_)
  refine wpAny_holding (wpAny_bind (wpAny_typeOf hT ?_))
  rw [slot_function_ga.lookup]
  refine wpAny_bind (wpAny_pure ?_)
  show wpAny _ _ (getAttrByItsOwn (.ref a) (.str (Str.ofString "tag") s.toks) (.type "function") (.builtin "object.__getattribute__") true true) _ _ _
  unfold getAttrByItsOwn
  refine wpAny_bind (m := hookBefore _) (wpAny_pure (a := none) ?_)
  refine wpAny_bind (wpAny_attempt (wpAny_holding ?_))
  show wpAny _ _ (boundAndCalled (.builtin "object.__getattribute__") (.ref a) (.str (Str.ofString "tag") s.toks)) _ _ _
  unfold boundAndCalled
  rw [slot_function_ga.bind]
  refine wpAny_bind (wpAny_pure ?_)
  refine wpAny_call_entry slot_function_ga hT entry_ga ?_ (args_ga _ _)
  have fin : ∀ v : Value, v = x → wpAny (model prog w) A (handedOut v) Q E { s with toks := s.toks + 1 } := fun v e => by subst e; rw [hh]; exact wpAny_pure hQ
  obtain ⟨h, g, dr, t, os⟩ := s
  have hx' : h.get? a = some ⟨.type "function", some d, .func fd, sl⟩ := ha
  unfold Builtin.«object.__getattribute__»
  wp_walk
  rw [look_function_tag]
  refine wpAny_pure ?_
  refine wpAny_bind (m := getOf none) (wpAny_pure (a := none) ?_)
  refine wpAny_bind (m := dataDescriptor? none none) (wpAny_pure (a := none) ?_)
  show wpAny _ _ (ownThenClass (Value.ref a) (Str.ofString "tag") none none) _ _ _
  unfold ownThenClass
  refine wpAny_bind ?_
  show wpAny _ _ (ObjectAttr.ownDict a >>= fun o => inDict (Str.ofString "tag") o) _ _ _
  refine wpAny_bind ?_
  unfold ObjectAttr.ownDict
  refine wpAny_bind (wpAny_loadPart hx' ?_)
  show wpAny _ _ (instanceDict a false) _ _ _
  unfold instanceDict
  refine wpAny_bind (wpAny_loadPart hx' ?_)
  refine wpAny_pure (a := some d) ?_
  show wpAny _ _ (nsGet d (Str.ofString "tag")) _ _ _
  refine wpAny_nsGet hn ?_
  rw [hx]
  refine wpAny_bind (wpAny_rule (wpAny_pure ?_))
  refine wpAny_pure ⟨x, rfl, ?_⟩
  exact fin x rfl
end
end Mine
namespace Mine
open PySem PySem.Calls PyProof.Rows PySem.W
noncomputable def FnP (o : Obj) : Prop := ∃ fd, o = { cls := .type "function", data := .func fd }
section
variable {w : World} {n : Nat} {env : Env} {fr : List Addr} {mc : Option MC} {σ : Sto}
theorem Es.deffn {x : String} {params : Arguments} {body : List Stmt} {scope : Scope} {pos : Pos} (m : Maker) (pq : Nat × Nat × Str) (hm : m ∈ makers) (hpq : pq ∈ m.ql) (hl : pos.line = pq.1) (hc : pos.col = pq.2.1) (he : env.code = .ref m.c)
    (hg : env.globals = mainGlobals) (hfree : freeOk scope.names env = true) (hdoc : docOf body = none) (hq : qualnameIn env (Str.ofString x) (Str.ofString x) = pq.2.2) (hexec : PlainDefTree (Str.ofString x) params body scope pos) (hw : Wr env fr (Str.ofString x)) :
    Es w n env fr mc σ (.FunctionDef (Str.ofString x) params body [] none [] scope none (Str.ofString x) pos) (.nxt mc (upd σ x (.fn pq.2.2 params body scope (clOf env scope.names [])))) := fun A hA F s E mu I => by
  rw [hexec, hq]
  refine wpAny_bind (wpAny_standAt (wpAny_bind (wpAny_holding (makeFn I.ok hg hm hpq hl hc he hfree hdoc fun s₁ F₁ a fd W hz hlt hn hget hfd => ?_))))
  have h207 := Nat.le_trans I.ok.sz hz
  have W' := W.freeze hn (ge_notTab h207) (.inl hz) hget
  refine wpAny_bind (wpAny_standAt (wpAny_bind (wpAny_bindName ((I.step W').store hw (.inl (.fn h207 (Part.put_self ..) (hfd.mono (Part.le_put hn)))) fun s₂ I₂ W₂ _ => wpAny_pure ?_))))
  exact ⟨_, (W'.wide (T := fr ++ mu.toList)).trans (W₂.mono fun a m => List.mem_append.mpr (.inl m)), rfl, mu, I₂, fun _ e => .inl e⟩
theorem Es.defmu {x : String} {params : Arguments} {body : List Stmt} {scope : Scope} {pos : Pos} (m : Maker) (pq : Nat × Nat × Str) (hm : m ∈ makers) (hpq : pq ∈ m.ql) (hl : pos.line = pq.1) (hc : pos.col = pq.2.1) (he : env.code = .ref m.c)
    (hg : env.globals = mainGlobals) (hfree : freeOk scope.names env = true) (hdoc : docOf body = none) (hq : qualnameIn env (Str.ofString x) (Str.ofString x) = pq.2.2) (hexec : PlainDefTree (Str.ofString x) params body scope pos) (hw : Wr env fr (Str.ofString x)) :
    Es w n env fr none σ (.FunctionDef (Str.ofString x) params body [] none [] scope none (Str.ofString x) pos) (.nxt (some (.obj FnP)) (upd σ x .mu)) := fun A hA F s E mu I => by
  obtain rfl := muNone I
  rw [hexec, hq]
  refine wpAny_bind (wpAny_standAt (wpAny_bind (wpAny_holding (makeFn I.ok hg hm hpq hl hc he hfree hdoc fun s₁ F₁ a fd W hz hlt hn hget hfd => ?_))))
  refine wpAny_bind (wpAny_standAt (wpAny_bind (wpAny_bindName ((I.newmu W hz hlt hn (c := .obj FnP) ⟨_, hget, fd, rfl⟩).store hw (.inr ⟨rfl, a, rfl, rfl⟩) fun s₂ I₂ W₂ _ => wpAny_pure ?_))))
  exact ⟨_, (W.wide (T := fr ++ (none : Mu).toList)).trans (W₂.mono fun a m => List.mem_append.mpr (.inl m)), rfl, some a, I₂, fun b e => by cases e; exact .inr hz⟩
theorem Es.settag {x : String} {np tpos pos : Pos} {e : Expr} {t : AV} (hx : (x, .mu) ∈ σ) (he : Ev w n env fr (some (.obj FnP)) σ e t) (ht : t ≠ .mu)
    (hd : (Str.ofString x == ("__debug__" : Str)) = false) (hcc : (Str.ofString x == ("__classdict__" : Str)) = false) (hs : swapsWith e (some (.Attribute (.Name (Str.ofString x) np) (Str.ofString "tag") tpos)) pos.line env = pure false) :
    Es w n env fr (some (.obj FnP)) σ (.Assign [.Attribute (.Name (Str.ofString x) np) (Str.ofString "tag") tpos] e pos) (.nxt (some (.thing t)) σ) := fun A hA F s E mu I => by
  refine plainObj_wpAny_Assign_Attribute ?_ hs
  refine he.use hA I (Fw.refl I.ok) fun ev s₁ F₁ I₁ W₁ L₁ R₁ => ?_
  refine (Ev.var hx hd hcc).use hA I₁ W₁ fun ov s₂ F₂ I₂ W₂ L₂ R₂ => ?_
  rcases R₂ with R₂ | ⟨_, b, rfl, rfl⟩
  · cases R₂
  obtain ⟨h1, h2, h3, h4, o, ho, fd, rfl⟩ := I₂.mu0
  refine with_gr (setFnAttr ho fun h' tk od es k g1 g2 g3 g4 g5 g6 gr => ?_)
  have hz : s₂.heap.objs.size ≤ h'.objs.size := gr.1
  have h207 := I₂.ok.sz
  have W₃ : Fw w [b] F₂ s₂ F₂ { s₂ with heap := h', toks := tk } := Fw.change I₂.ok (fun a m => by rw [List.mem_singleton.mp m]; exact ⟨h1, h2⟩)
    (fun a m o e => g6 a o (fun h => m (by rw [h]; exact .head _)) e) hz rfl rfl
  have hnd : F₂ s₂.heap.objs.size = none := I₂.ok.old (Nat.le_refl _)
  have W₄ := W₃.freeze hnd (ge_notTab h207) (.inl (Nat.le_refl _)) g2
  have hbd : b ≠ s₂.heap.objs.size := Nat.ne_of_lt h4
  refine ⟨_, (W₂.wide (T := fr ++ (some b).toList)).trans (W₄.mono fun a m => by rw [List.mem_singleton.mp m]; simp), rfl, some b, ?_, fun _ e => .inl e⟩
  have keep : ∀ a : Nat, a ≠ b → ∀ o, s₂.heap.get? a = some o → h'.get? a = some o := fun a ha o e => g6 a o ha e
  refine { ok := W₄.ok, fro := I₂.fro, fr0 := fun a ha => ?_, mu0 := ⟨h1, by rw [Part.put_other _ _ hbd]; exact h2, h3, Nat.lt_of_lt_of_le h4 hz, ?_⟩, loc := ?_, cel := fun y c e => ?_, vars := fun p hp' => ?_ }
  · obtain ⟨q1, q2, q3⟩ := I₂.fr0 a ha
    exact ⟨q1, by rw [Part.put_other _ _ (Nat.ne_of_lt q3)]; exact q2, Nat.lt_of_lt_of_le q3 hz⟩
  · exact ⟨fd, _, od, es, k, ev, g1, Part.put_self .., g3, g4, g5, ((R₁.mono L₂).rd ht).mono (Part.le_put hnd)⟩
  · obtain ⟨m, hm⟩ := I₂.loc
    exact ⟨m, ns_at hm (keep _ fun e => h3 (e ▸ I₂.fro.lfr))⟩
  · obtain ⟨q1, q2, v, q3⟩ := I₂.cel y c e
    exact ⟨q1, q2, v, isCell_at q3 (keep _ (q2 b rfl))⟩
  · obtain ⟨v, q1, q2⟩ := I₂.vars p hp'
    refine ⟨v, ?_, q2.mono (Part.le_put hnd)⟩
    rcases q1 with ⟨hk1, m, hm, e⟩ | ⟨hk1, c, hc', hcell⟩
    · exact .inl ⟨hk1, m, ns_at hm (keep _ fun e => h3 (e ▸ I₂.fro.lfr)), e⟩
    · exact .inr ⟨hk1, c, hc', isCell_at hcell (keep _ ((I₂.cel _ c hc').2.1 b rfl))⟩
theorem Es.retthing {e : Expr} {pos : Pos} {t : AV} (h : Ev w n env fr (some (.thing t)) σ e .mu) : Es w n env fr (some (.thing t)) σ (.Return (some e) pos) (.ret (.thing t)) := fun A hA F s E mu I =>
  wpAny_Return_some (h.use hA I (Fw.refl I.ok) fun v' s₁ F₁ I₁ W₁ L₁ R₁ => by
    rcases R₁ with R₁ | ⟨_, b, rfl, rfl⟩
    · cases R₁
    · obtain ⟨h1, h2, h3, h4, fd, d, od, es, n, x, g1, g2, g3, g4, g5, g6⟩ := I₁.mu0
      have hl := Part.le_put (o := ⟨.type "function", some d, .func fd, #[]⟩) h2
      exact ⟨F₁.put b _, (W₁.wide (T := fr ++ (some b).toList)).freeze h2 (ge_notTab h1) (.inr (by simp)) g1, .ref b, rfl, .thing (Part.put_self ..) (hl _ _ g2) g3 g4 g5 (g6.mono hl)⟩)
noncomputable def PlainT : AV → Prop
  | .none => True
  | .str _ => True
  | _ => False
theorem Ev.tag {e : Expr} {pos : Pos} {t : AV} (h : Ev w n env fr mc σ e (.thing t)) (ht : PlainT t) (he : eval (.Attribute e (Str.ofString "tag") pos) env = (do
      let o ← eval e env
      standAt pos.atName
      let r ← holding [o] (getAttr o (Str.ofString "tag") true)
      letTemporaryGo e o r
      pure r)) (hgo : ∀ o r, letTemporaryGo e o r = pure ()) : Ev w n env fr mc σ (.Attribute e (Str.ofString "tag") pos) t := fun A hA F s E mu I => by
  rw [he]
  refine wpAny_bind (h.use hA I (Fw.refl I.ok) fun o s₁ F₁ I₁ W₁ L₁ R₁ => wpAny_bind (wpAny_standAt (wpAny_bind (wpAny_holding ?_))))
  have R := R₁.rd (by intro h; cases h)
  cases R with
  | thing e1 e2 e3 e4 e5 r =>
    rename_i xv
    have hh : handedOut xv = pure xv := by
      cases r with
      | none => rfl
      | str s t => rfl
      | _ => exact ht.elim
    refine getFnAttr (I₁.ok.sub _ _ e1).2 (I₁.ok.sub _ _ e2).2 e3 e4 e5 hh ?_
    rw [hgo]
    refine wpAny_bind (wpAny_pure (wpAny_pure ⟨F₁, W₁.trans (Fw.toks W₁.ok _), .inl r⟩))
end
end Mine
namespace Mine
open PySem PySem.Calls PyProof.Rows PySem.W
theorem nameAt {w : World} {env : Env} {fr : List Addr} {A : Around} {E : Value → Shared → Prop} {Q : Value → Shared → Prop} {s : Shared} {x : String} {v : Value} {pos : Pos} (fro : FrOK env fr) (hv : VarAt env s.heap (Str.ofString x) v)
    (hd : (Str.ofString x == ("__debug__" : Str)) = false) (hc : (Str.ofString x == ("__classdict__" : Str)) = false) (h : Q v s) : wpAny (model prog w) A (eval (.Name (Str.ofString x) pos) env) Q E s := by
  refine wpAny_Name ?_ hd
  rcases hv with ⟨hk, m, hm, e⟩ | ⟨hk | hk, c, hc', hcell⟩
  · exact wpAny_loadName_local fro.kind hk hm e h
  · exact wpAny_loadName_cell fro.kind hk hc' hcell h
  · exact wpAny_loadName_free fro.kind hk hc' hcell h hc
section
variable {w : World} {n : Nat} {env : Env} {fr : List Addr} {mc : Option MC} {σ : Sto}
theorem Es.try {body : List Stmt} {h₀ : ExceptHandler} {hs : List ExceptHandler} {pos : Pos} {v : AV} (h : Ex w n env fr mc σ body (.ret v)) : Es w n env fr mc σ (.Try body (h₀ :: hs) [] [] pos) (.ret v) := fun A hA F s E mu I =>
  wpAny_Try_except (wpAny_mono (h A hA F s _ mu I) (fun fl s₁ ⟨F₁, W₁, x, hfl, hr⟩ => by subst hfl; exact ⟨F₁, W₁, x, rfl, hr⟩) fun _ _ y => y)
theorem Es.ifrep {x : String} {c r X Y : Str} {k0 k1 k2 : Nat} {p0 np cp ap np2 app p1 p2 callp asp ip : Pos} (hx : (x, .str X) ∈ σ) (hw : Wr env fr (Str.ofString x))
    (hcr : (c == r) = false) (hb : X.length + (X.length + 1) * r.length ≤ 16777216)
    (h1 : (Builtin.Str.occurrences X c 0 X.length 1).isEmpty = false → Txt.replace X c r = Y) (h2 : (Builtin.Str.occurrences X c 0 X.length 1).isEmpty = true → X = Y)
    (hd : (Str.ofString x == ("__debug__" : Str)) = false) (hcc : (Str.ofString x == ("__classdict__" : Str)) = false)
    (hm : behindInMarks .In (.Name (Str.ofString x) np) = false)
    (hs : swapsWith (.Call (.Attribute (.Name (Str.ofString x) np2) (Str.ofString "replace") app) [.Constant (.str c) k1 p1, .Constant (.str r) k2 p2] [] callp) (some (.Name (Str.ofString x) ap)) asp.line env = pure false)
    (he : starEach [.Constant (.str c) k1 p1, .Constant (.str r) k2 p2] env = [(false, eval (.Constant (.str c) k1 p1) env), (false, eval (.Constant (.str r) k2 p2) env)])
    (hf : MForm env (.Name (Str.ofString x) np2) (Str.ofString "replace") app callp [.Constant (.str c) k1 p1, .Constant (.str r) k2 p2]) :
    Es w n env fr mc σ (.If (.Compare (.Constant (.str c) k0 p0) [.In] [.Name (Str.ofString x) np] cp)
      [.Assign [.Name (Str.ofString x) ap] (.Call (.Attribute (.Name (Str.ofString x) np2) (Str.ofString "replace") app) [.Constant (.str c) k1 p1, .Constant (.str r) k2 p2] [] callp) asp] [] ip) (.nxt mc (upd σ x (.str Y))) := fun A hA F s E mu I => by
  obtain ⟨val, hv, hr⟩ := I.vars _ hx
  obtain ⟨t, rfl⟩ := hr.str
  refine wpAny_If (wpAny_isTrue_Compare1 (wpAny_Constant_str (nameAt I.fro hv hd hcc (PySem.P.in_str (wpAny_truthy_bool ?_)))) hm)
  have I₁ := I.step (Fw.toks I.ok (s.toks + 1))
  cases hq : (Builtin.Str.occurrences X c 0 X.length 1).isEmpty with
  | true =>
    obtain rfl := h2 hq
    simp only [hq, Bool.not_true, Bool.false_eq_true, if_false]
    refine wpAny_execs_nil ⟨F, (Fw.toks I.ok _).wide, rfl, mu, ?_, fun _ e => .inl e⟩
    refine I₁.weaken fun p hp => ?_
    unfold upd at hp
    rcases List.mem_cons.mp hp with rfl | hp
    · exact hx
    · exact (List.mem_filter.mp hp).1
  | false =>
    simp only [hq, Bool.not_false, if_true]
    refine wpAny_execs_cons (wpAny_Assign_Name (wpAny_Call_method_lateS hf.1 hf.2.1 hf.2.2 (nameAt I₁.fro hv hd hcc ?_)) hs)
    refine ⟨"str", "str.replace", _root_.PySem.F.plainAttrs_str, _root_.PySem.F.slot_str_replace, _root_.PySem.F.type_str_replace, typeIs_str _ _ _, (fun _ e => nomatch e), ?_⟩
    rw [he]
    refine callWith_builtin rfl (evalArgs_plain ?_)
    refine spliced_cons (wpAny_Constant_str (k := k1) (pos := p1) (spliced_cons (wpAny_Constant_str (k := k2) (pos := p2) (spliced_nil ?_))))
    refine SC.replace (Nat.succ_ne_zero _) (Nat.succ_ne_zero _) (Nat.ne_of_lt (Nat.lt_succ_self _)) hcr hb fun t' k => ?_
    rw [h1 hq]
    have I₂ := I.step (Fw.toks I.ok k)
    exact I₂.store hw (.inl (.str Y t')) fun s₃ I₃ W₃ _ => wpAny_execs_nil ⟨F, (Fw.toks I.ok k).wide.trans (W₃.mono fun a m => List.mem_append.mpr (.inl m)), rfl, mu, I₃, fun _ e => .inl e⟩
end
end Mine
namespace Mine
open PySem PySem.Calls PyProof.Rows PySem.W
open Builtin Builtin.Str
section
variable {w : World} {A : Around} {E : Value → Shared → Prop} {s : Shared}
end
end Mine
namespace Mine
open PySem PySem.Calls PyProof.Rows PySem.W
structure ZA (z TI TO i1 i2 : Addr) : Prop where
  TIz : TI ≠ z
  TOz : TO ≠ z
  i1z : i1 ≠ z
  i2z : i2 ≠ z
  TITO : TI ≠ TO
  TIi1 : TI ≠ i1
  TIi2 : TI ≠ i2
  TOi1 : TO ≠ i1
  TOi2 : TO ≠ i2
  i12 : i1 ≠ i2
noncomputable abbrev SI (h : Heap) (it : Addr) (x : Str) (t : Tok) (i : Nat) : Prop := h.IsStrIter it "str_ascii_iterator" x t i
theorem SI.ext {h h' : Heap} {it b : Addr} {x : Str} {t : Tok} {i : Nat} (p : SI h it x t i) (hs : Heap.ExtBut b h h') (hab : it ≠ b) : SI h' it x t i := let ⟨o, ho, r⟩ := p; ⟨o, hs it o hab ho, r⟩
section
variable {w : World} {A : Around} {E : Value → Shared → Prop} {s : Shared}
theorem zipS_item {z TI TO i1 i2 : Addr} {x y : Str} {t u : Tok} {k c d : Nat} {a b : Value} {Q : Value → Shared → Prop} (D : ZA z TI TO i1 i2)
    (hz : IsZip s.heap z TI TO .none) (hTI : IsPair s.heap TI (.ref i1) (.ref i2)) (hTO : IsPair s.heap TO a b)
    (h1 : SI s.heap i1 x t k) (h2 : SI s.heap i2 y u k) (hx : x.cps[k]? = some c) (hy : y.cps[k]? = some d)
    (hQ : ∀ h' tk v v', IsZip h' z TI TO (rawInt s.heap.objs.size) → IsPair h' TO v v' → SI h' i1 x t (k + 1) → SI h' i2 y u (k + 1) → IsPair h' s.heap.objs.size v v' → (∃ p, v = .str ⟨#[c]⟩ p) → (∃ p, v' = .str ⟨#[d]⟩ p) →
      h'.objs.size = s.heap.objs.size + 1 → (∀ c o, c ≠ z → c ≠ TO → c ≠ i1 → c ≠ i2 → s.heap.get? c = some o → h'.get? c = some o) → Q (.ref s.heap.objs.size) { s with heap := h', toks := tk }) :
    wpAny (model prog w) A (Builtin.«zip.__next__» ⟨[.ref z], []⟩) (fun fin s' => ∃ v, fin = .done (.ret v) ∧ Q v s') E s := by
  obtain ⟨h0, g, dr, tk0, os⟩ := s
  show wpAny _ _ (field (.ref z) 2 >>= _) _ _ _
  refine wpAny_bind (wpAny_field hz rfl (x := .bool false) rfl ?_)
  show wpAny _ _ (field (.ref z) 3 >>= _) _ _ _
  refine wpAny_bind (wpAny_field hz rfl (x := .ref TI) rfl ?_)
  refine wpAny_bind (wpAny_seqItems hTI rfl ?_)
  show wpAny _ _ (Builtin.SmallTypes.ownedTupleIsFree (.ref z) >>= _) _ _ _
  refine wpAny_bind ?_
  unfold Builtin.SmallTypes.ownedTupleIsFree
  refine wpAny_bind (wpAny_field hz rfl (x := .none) rfl (wpAny_pure ?_))
  simp only [if_true]
  refine wpAny_bind (wpAny_rule ?_)
  refine wpAny_bind (wpAny_field hz rfl (x := .ref TO) rfl ?_)
  refine wpAny_bind (wpAny_setField_rec hz (by simp) fun h₁ hz₁ hs₁ => ?_)
  replace hz₁ : IsZip h₁ z TI TO .ellipsis := hz₁
  replace hs₁ : Heap.SameBut z h0 h₁ := hs₁
  refine wpAny_bind ?_
  simp only [List.zipIdx_cons, List.zipIdx_nil, List.forIn_cons, List.forIn_nil]
  refine wpAny_bind (wpAny_bind (wpAny_onRaise ?_))
  show wpAny _ _ (Builtin.SmallTypes.nextOf (.ref i1) >>= _) _ _ _
  refine wpAny_bind (wpAny_nextOf_ascii_item (x := x) (t := t) (SI.ext h1 hs₁.extBut D.i1z) hx fun h₂ h1₂ hs₂ => wpAny_pure ?_)
  replace hs₂ : Heap.SameBut i1 h₁ h₂ := hs₂
  have hTO₂ : IsPair h₂ TO a b := hs₂.extBut _ _ D.TOi1 (hs₁.extBut _ _ D.TOz hTO)
  refine wpAny_bind (wpAny_seqItems hTO₂ rfl ?_)
  refine wpAny_bind (wpAny_updateSeq_pair hTO₂ fun h₃ hTO₃ hs₃ => ?_)
  replace hTO₃ : IsPair h₃ TO (.str ⟨#[c]⟩ tk0) b := hTO₃
  replace hs₃ : Heap.SameBut TO h₂ h₃ := hs₃
  refine wpAny_bind (wpAny_letGo (wpAny_pure ?_))
  refine wpAny_bind (wpAny_bind (wpAny_onRaise ?_))
  show wpAny _ _ (Builtin.SmallTypes.nextOf (.ref i2) >>= _) _ _ _
  refine wpAny_bind (wpAny_nextOf_ascii_item (x := y) (t := u) (SI.ext (SI.ext (SI.ext h2 hs₁.extBut D.i2z) hs₂.extBut D.i12.symm) hs₃.extBut D.TOi2.symm) hy fun h₄ h2₄ hs₄ => wpAny_pure ?_)
  replace hs₄ : Heap.SameBut i2 h₃ h₄ := hs₄
  have hTO₄ : IsPair h₄ TO (.str ⟨#[c]⟩ tk0) b := hs₄.extBut _ _ D.TOi2 hTO₃
  refine wpAny_bind (wpAny_seqItems hTO₄ rfl ?_)
  refine wpAny_bind (wpAny_updateSeq_pair hTO₄ fun h₅ hTO₅ hs₅ => ?_)
  replace hTO₅ : IsPair h₅ TO (.str ⟨#[c]⟩ tk0) (.str ⟨#[d]⟩ (tk0 + 1)) := hTO₅
  replace hs₅ : Heap.SameBut TO h₄ h₅ := hs₅
  refine wpAny_bind (wpAny_letGo (wpAny_pure (wpAny_pure ?_)))
  refine wpAny_bind (wpAny_seqItems hTO₅ rfl ?_)
  refine wpAny_bind (wpAny_newTuple ?_)
  have hsz : h₅.objs.size = h0.objs.size := by rw [hs₅.1, hs₄.1, hs₃.1, hs₂.1, hs₁.1]
  have hz₅ : IsZip h₅ z TI TO .ellipsis := hs₅.extBut _ _ D.TOz.symm (hs₄.extBut _ _ D.i2z.symm (hs₃.extBut _ _ D.TOz.symm (hs₂.extBut _ _ D.i1z.symm hz₁)))
  have hk₅ : ∀ c o, c ≠ z → c ≠ TO → c ≠ i1 → c ≠ i2 → h0.get? c = some o → h₅.get? c = some o := fun c o c1 c2 c3 c4 e =>
    hs₅.extBut _ _ c2 (hs₄.extBut _ _ c4 (hs₃.extBut _ _ c2 (hs₂.extBut _ _ c3 (hs₁.extBut _ _ c1 e))))
  have h1₅ : SI h₅ i1 x t (k + 1) := SI.ext (SI.ext (SI.ext h1₂ hs₃.extBut D.TOi1.symm) hs₄.extBut D.i12) hs₅.extBut D.TOi1.symm
  have h2₅ : SI h₅ i2 y u (k + 1) := SI.ext h2₄ hs₅.extBut D.TOi2.symm
  have hzlt : z < h₅.objs.size := Heap.lt_size hz₅
  show wpAny _ _ (Builtin.SmallTypes.ownedTupleHandOut (.ref z) (.ref h₅.objs.size) >>= _) _ _ _
  refine wpAny_bind ?_
  unfold Builtin.SmallTypes.ownedTupleHandOut
  have hz₆ : IsZip (h₅.push { cls := .type "tuple", data := .seq #[.str ⟨#[c]⟩ tk0, .str ⟨#[d]⟩ (tk0 + 1)] }) z TI TO .ellipsis := Heap.get?_push_of_some _ hz₅
  refine wpAny_bind (wpAny_setField_rec hz₆ (by simp) fun h₇ hz₇ hs₇ => ?_)
  replace hz₇ : IsZip h₇ z TI TO (rawInt h₅.objs.size) := hz₇
  refine wpAny_setField_rec hz₇ (by simp) fun h₈ hz₈ hs₈ => ?_
  replace hz₈ : IsZip h₈ z TI TO (rawInt h₅.objs.size) := hz₈
  have up : ∀ c o, c ≠ z → h₅.get? c = some o → h₈.get? c = some o := fun c o c1 e => hs₈.extBut _ _ c1 (hs₇.extBut _ _ c1 (Heap.get?_push_of_some _ e))
  have hT₈ : IsPair h₈ h₅.objs.size (.str ⟨#[c]⟩ tk0) (.str ⟨#[d]⟩ (tk0 + 1)) := hs₈.extBut _ _ (Nat.ne_of_gt hzlt) (hs₇.extBut _ _ (Nat.ne_of_gt hzlt) (Heap.get?_push_size _ rfl))
  have hz8 : h₈.objs.size = h₅.objs.size + 1 := by rw [hs₈.1, hs₇.1, Heap.size_push]
  rw [hsz] at hz₈ hT₈ hz8
  refine wpAny_pure ⟨_, rfl, ?_⟩
  show Q (.ref h₅.objs.size) _
  rw [hsz]
  refine hQ h₈ (tk0 + 1 + 1) _ _ hz₈ (up _ _ D.TOz hTO₅) ?_ ?_ hT₈ ⟨_, rfl⟩ ⟨_, rfl⟩ hz8 fun c o c1 c2 c3 c4 e => up c o c1 (hk₅ c o c1 c2 c3 c4 e)
  · obtain ⟨o, ho, r⟩ := h1₅; exact ⟨o, up _ o D.i1z ho, r⟩
  · obtain ⟨o, ho, r⟩ := h2₅; exact ⟨o, up _ o D.i2z ho, r⟩
theorem zipS_end {z TI TO i1 i2 : Addr} {x y : Str} {t u : Tok} {k : Nat} {a b : Value} {Q : Fin → Shared → Prop} (hh : A.handled = none) (D : ZA z TI TO i1 i2)
    (hz : IsZip s.heap z TI TO .none) (hTI : IsPair s.heap TI (.ref i1) (.ref i2)) (hTO : IsPair s.heap TO a b)
    (h1 : SI s.heap i1 x t k) (h2 : SI s.heap i2 y u k) (hend : x.cps[k]? = none ∨ y.cps[k]? = none)
    (hE : ∀ h' tk e, (∀ c o, c ≠ z → c ≠ TO → c ≠ i1 → c ≠ i2 → s.heap.get? c = some o → h'.get? c = some o) → (∃ o, h'.get? e = some o ∧ o.cls = .type "StopIteration") → E (.ref e) { s with heap := h', toks := tk }) :
    wpAny (model prog w) A (Builtin.«zip.__next__» ⟨[.ref z], []⟩) Q E s := by
  obtain ⟨h0, g, dr, tk0, os⟩ := s
  show wpAny _ _ (field (.ref z) 2 >>= _) _ _ _
  refine wpAny_bind (wpAny_field hz rfl (x := .bool false) rfl ?_)
  show wpAny _ _ (field (.ref z) 3 >>= _) _ _ _
  refine wpAny_bind (wpAny_field hz rfl (x := .ref TI) rfl ?_)
  refine wpAny_bind (wpAny_seqItems hTI rfl ?_)
  show wpAny _ _ (Builtin.SmallTypes.ownedTupleIsFree (.ref z) >>= _) _ _ _
  refine wpAny_bind ?_
  unfold Builtin.SmallTypes.ownedTupleIsFree
  refine wpAny_bind (wpAny_field hz rfl (x := .none) rfl (wpAny_pure ?_))
  simp only [if_true]
  refine wpAny_bind (wpAny_rule ?_)
  refine wpAny_bind (wpAny_field hz rfl (x := .ref TO) rfl ?_)
  refine wpAny_bind (wpAny_setField_rec hz (by simp) fun h₁ hz₁ hs₁ => ?_)
  replace hz₁ : IsZip h₁ z TI TO .ellipsis := hz₁
  replace hs₁ : Heap.SameBut z h0 h₁ := hs₁
  refine wpAny_bind ?_
  simp only [List.zipIdx_cons, List.zipIdx_nil, List.forIn_cons, List.forIn_nil]
  refine wpAny_bind (wpAny_bind (wpAny_onRaise ?_))
  show wpAny _ _ (Builtin.SmallTypes.nextOf (.ref i1) >>= _) _ _ _
  cases hx : x.cps[k]? with
  | none =>
    refine wpAny_bind (wpAny_nextOf_ascii_end (x := x) (t := t) hh (SI.ext h1 hs₁.extBut D.i1z) hx fun h₂ e hs₂ he => ?_)
    replace hs₂ : Heap.ExtBut i1 h₁ h₂ := hs₂
    obtain ⟨oe, hoe, hce⟩ := he
    have hz₂ : IsZip h₂ z TI TO .ellipsis := hs₂ _ _ D.i1z.symm hz₁
    have hez : e ≠ z := fun x => by subst x; rw [hz₂] at hoe; cases hoe; simp at hce
    refine wpAny_setField_rec hz₂ (by simp) fun h₃ _ hs₃ => hE h₃ _ e (fun c o c1 _ c3 _ x => hs₃.extBut _ _ c1 (hs₂ _ _ c3 (hs₁.extBut _ _ c1 x))) ⟨oe, hs₃.extBut _ _ hez hoe, hce⟩
  | some c =>
    have hy : y.cps[k]? = none := by rcases hend with h | h; rw [hx] at h; cases h; exact h
    refine wpAny_bind (wpAny_nextOf_ascii_item (x := x) (t := t) (SI.ext h1 hs₁.extBut D.i1z) hx fun h₂ h1₂ hs₂ => wpAny_pure ?_)
    replace hs₂ : Heap.SameBut i1 h₁ h₂ := hs₂
    have hTO₂ : IsPair h₂ TO a b := hs₂.extBut _ _ D.TOi1 (hs₁.extBut _ _ D.TOz hTO)
    refine wpAny_bind (wpAny_seqItems hTO₂ rfl ?_)
    refine wpAny_bind (wpAny_updateSeq_pair hTO₂ fun h₃ hTO₃ hs₃ => ?_)
    replace hs₃ : Heap.SameBut TO h₂ h₃ := hs₃
    refine wpAny_bind (wpAny_letGo (wpAny_pure ?_))
    refine wpAny_bind (wpAny_bind (wpAny_onRaise ?_))
    show wpAny _ _ (Builtin.SmallTypes.nextOf (.ref i2) >>= _) _ _ _
    refine wpAny_bind (wpAny_nextOf_ascii_end (x := y) (t := u) hh (SI.ext (SI.ext (SI.ext h2 hs₁.extBut D.i2z) hs₂.extBut D.i12.symm) hs₃.extBut D.TOi2.symm) hy fun h₄ e hs₄ he => ?_)
    replace hs₄ : Heap.ExtBut i2 h₃ h₄ := hs₄
    obtain ⟨oe, hoe, hce⟩ := he
    have hz₄ : IsZip h₄ z TI TO .ellipsis := hs₄ _ _ D.i2z.symm (hs₃.extBut _ _ D.TOz.symm (hs₂.extBut _ _ D.i1z.symm hz₁))
    have hez : e ≠ z := fun x => by subst x; rw [hz₄] at hoe; cases hoe; simp at hce
    refine wpAny_setField_rec hz₄ (by simp) fun h₅ _ hs₅ => hE h₅ _ e (fun c o c1 c2 c3 c4 x => hs₅.extBut _ _ c1 (hs₄ _ _ c4 (hs₃.extBut _ _ c2 (hs₂.extBut _ _ c3 (hs₁.extBut _ _ c1 x))))) ⟨oe, hs₅.extBut _ _ hez hoe, hce⟩
end
section
variable {w : World} {A : Around}
/-- zip over two texts, as a walk of pairs -/
theorem walk_zipS (hh : A.handled = none) (z TI TO i1 i2 : Addr) (D : ZA z TI TO i1 i2) (x y : Str) (t u : Tok) :
    WalksU prog w A z [z, TI, TO, i1, i2] [z, TO, i1, i2] (min x.cps.size y.cps.size)
      (fun i vals => ∃ c d p q, x.cps[i]? = some c ∧ y.cps[i]? = some d ∧ vals = #[.str ⟨#[c]⟩ p, .str ⟨#[d]⟩ q])
      (fun i h => IsZip h z TI TO .none ∧ IsPair h TI (.ref i1) (.ref i2) ∧ (∃ a b, IsPair h TO a b) ∧ SI h i1 x t i ∧ SI h i2 y u i)
      (fun i T h => IsZip h z TI TO (rawInt T) ∧ IsPair h TI (.ref i1) (.ref i2) ∧ (∃ a b, IsPair h TO a b) ∧ SI h i1 x t (i + 1) ∧ SI h i2 y u (i + 1) ∧ T ≠ z ∧ T ≠ TO ∧ T ≠ i1 ∧ T ≠ i2) where
  sub := fun c hc => by simp at hc ⊢; rcases hc with rfl | rfl | rfl | rfl <;> simp
  frame := fun i h h' hst hk => by
    obtain ⟨hz, hTI, ⟨a, b, hTO⟩, ⟨o1, g1, r1⟩, ⟨o2, g2, r2⟩⟩ := hst
    exact ⟨hk z (by simp) _ hz, hk TI (by simp) _ hTI, ⟨a, b, hk TO (by simp) _ hTO⟩, ⟨o1, hk i1 (by simp) _ g1, r1⟩, ⟨o2, hk i2 (by simp) _ g2, r2⟩⟩
  item := fun i s Q E hi hst hQ => by
    obtain ⟨hz, hTI, ⟨a, b, hTO⟩, h1, h2⟩ := hst
    have hix : i < x.cps.size := Nat.lt_of_lt_of_le hi (Nat.min_le_left ..)
    have hiy : i < y.cps.size := Nat.lt_of_lt_of_le hi (Nat.min_le_right ..)
    have hT : s.TypeIs (.ref z) "zip" := ⟨_, hz, rfl⟩
    have lt : ∀ {c o}, s.heap.get? c = some o → s.heap.objs.size ≠ c := fun e => Nat.ne_of_gt (Heap.lt_size e)
    unfold pyNext
    refine wpAny_bind (wpAny_attempt (wpAny_callSpecial?_slot (name := Str.ofString "__next__") hT _root_.PySem.F.slot_zip_next
      (wpAny_call_entry _root_.PySem.F.slot_zip_next hT _root_.PySem.F.entry_zip_next
        (zipS_item D hz hTI hTO h1 h2 (Array.getElem?_eq_getElem hix) (Array.getElem?_eq_getElem hiy) fun h' tk v v' a1 a2 a3 a4 a5 ⟨p, hp⟩ ⟨q, hq⟩ a6 hk => wpAny_pure ?_) (_root_.PySem.F.args_zip_next_1 _))))
    subst hp; subst hq
    refine hQ s.heap.objs.size #[_, _] h' tk ⟨_, _, p, q, Array.getElem?_eq_getElem hix, Array.getElem?_eq_getElem hiy, rfl⟩ ⟨_, a5, rfl, _, rfl⟩
      ⟨a1, hk _ _ D.TIz D.TITO D.TIi1 D.TIi2 hTI, ⟨_, _, a2⟩, a3, a4, lt hz, lt hTO, (by obtain ⟨_, e, _⟩ := h1; exact lt e), (by obtain ⟨_, e, _⟩ := h2; exact lt e)⟩
      fun c o hc e => hk c o (fun x => hc (by simp [x])) (fun x => hc (by simp [x])) (fun x => hc (by simp [x])) (fun x => hc (by simp [x])) e
  go := fun elts k pos i T s Q E hm hQ => by
    obtain ⟨hz, hTI, ⟨a, b, hTO⟩, h1, h2, _⟩ := hm
    refine wpAny_letOwnedTupleGo_zip hz fun h' hz' hs' => hQ h' ⟨hz', hs'.extBut _ _ D.TIz hTI, ⟨a, b, hs'.extBut _ _ D.TOz hTO⟩, SI.ext h1 hs'.extBut D.i1z, SI.ext h2 hs'.extBut D.i2z⟩ fun c o hc e => hs'.extBut _ _ (fun x => hc (by simp [x])) e
  apart := fun i T h hm hT => by
    obtain ⟨_, _, _, _, _, t1, t2, t3, t4⟩ := hm
    simp at hT
    rcases hT with rfl | rfl | rfl | rfl
    · exact t1 rfl
    · exact t2 rfl
    · exact t3 rfl
    · exact t4 rfl
  done := fun s Q E hst hQ => by
    obtain ⟨hz, hTI, ⟨a, b, hTO⟩, h1, h2⟩ := hst
    have hend : x.cps[min x.cps.size y.cps.size]? = none ∨ y.cps[min x.cps.size y.cps.size]? = none := by
      rcases Nat.le_total x.cps.size y.cps.size with h | h
      · exact .inl (by rw [Nat.min_eq_left h]; exact Array.getElem?_eq_none (Nat.le_refl _))
      · exact .inr (by rw [Nat.min_eq_right h]; exact Array.getElem?_eq_none (Nat.le_refl _))
    have hT : s.TypeIs (.ref z) "zip" := ⟨_, hz, rfl⟩
    unfold pyNext
    refine wpAny_bind (wpAny_attempt (wpAny_callSpecial?_slot (name := Str.ofString "__next__") hT _root_.PySem.F.slot_zip_next
      (wpAny_call_entry _root_.PySem.F.slot_zip_next hT _root_.PySem.F.entry_zip_next (zipS_end hh D hz hTI hTO h1 h2 hend fun h' tk e hk he => ?_) (_root_.PySem.F.args_zip_next_1 _))))
    obtain ⟨o, ho, hc⟩ := he
    refine wpAny_bind (wpAny_isInstance (T := "StopIteration") (b := true) ⟨o, ho, hc⟩ isSubtype_stop ?_)
    exact wpAny_pure (hQ _ _ fun c o hc e => hk c o (fun x => hc (by simp [x])) (fun x => hc (by simp [x])) (fun x => hc (by simp [x])) (fun x => hc (by simp [x])) e)
  self := fun i s Q E hst hQ => wpAny_pyIter_zip hst.1 hQ
end
end Mine
namespace Mine
open PySem PySem.Calls PyProof.Rows PySem.W
noncomputable def sit (x : Str) (t : Tok) : Obj := { cls := .type "str_ascii_iterator", data := .fields #[.str x t, .int 0 0] }
noncomputable abbrev zH2 (h : Heap) (x y : Str) (t u : Tok) : Heap := (h.push (sit x t)).push (sit y u)
noncomputable abbrev zH3 (h : Heap) (x y : Str) (t u : Tok) : Heap := (zH2 h x y t u).push { cls := .type "tuple", data := .seq #[.ref h.objs.size, .ref (h.push (sit x t)).objs.size] }
noncomputable abbrev zH4 (h : Heap) (x y : Str) (t u : Tok) : Heap := (zH3 h x y t u).push { cls := .type "tuple", data := .seq #[.none, .none] }
noncomputable abbrev zH5 (h : Heap) (x y : Str) (t u : Tok) : Heap := (zH4 h x y t u).push { cls := .type "zip", data := .fields #[.none, .bool false, .bool false, .ref (zH2 h x y t u).objs.size, .ref (zH3 h x y t u).objs.size] }
theorem newClass_zip (xs : List Value) : Builtin.SmallTypes.newClass "zip" ⟨.type "zip" :: xs, []⟩ = pure (.type "zip", xs) := by
  have e : Builtin.SmallTypes.newClass "zip" ⟨.type "zip" :: xs, []⟩ = (do
      let b ← isSubtype (.type "zip") (.type "zip")
      if !b then
        rule s!"zip.__new__.no-subtype"
        raiseError "TypeError" s!"zip.__new__({← typeName (.type "zip")}): {← typeName (.type "zip")} is not a subtype of zip"
      return (.type "zip", xs)) := rfl
  rw [e, sub_zip]; rfl
theorem meets_zipS (x y : Str) (t u : Tok) (hx : x.cps.all (· < 128) = true) (hy : y.cps.all (· < 128) = true) :
    Meets (Builtin.«zip.__new__» ⟨[.type "zip", .str x t, .str y u], []⟩) (fun _ R s => R (.ok (.ret (.ref (zH4 s.heap x y t u).objs.size))) { s with heap := zH5 s.heap x y t u }) :=
  .of_wp fun prog w A R s h => by
    obtain ⟨hp, g, d, tk, os⟩ := s
    unfold Builtin.«zip.__new__»
    rw [newClass_zip]
    refine wpAny_bind (wpAny_pure ?_)
    show wpAny _ _ (Builtin.SmallTypes.iterAll [.str x t, .str y u] >>= fun its => do ret (← Builtin.SmallTypes.newRecord (.type "zip") (Builtin.SmallTypes.ownedTupleFields ++ [.bool false, ← newTuple its, ← newTuple (its.map fun _ => Value.none)]))) _ _ _
    refine wpAny_bind ?_
    unfold Builtin.SmallTypes.iterAll
    simp only [List.forIn_cons, List.forIn_nil]
    refine wpAny_bind (wpAny_bind (wpAny_bind (wpAny_holding (wpAny_pyIter_ascii hx (wpAny_pure ?_)))))
    refine wpAny_bind (wpAny_bind (wpAny_holding (wpAny_pyIter_ascii hy (wpAny_pure ?_))))
    refine wpAny_pure (wpAny_pure ?_)
    have h2 : 2 ≤ sizeLine := by decide
    refine wpAny_bind (wpAny_newTuple ?_ h2)
    refine wpAny_bind (wpAny_newTuple ?_ h2)
    refine wpAny_bind ?_
    unfold Builtin.SmallTypes.newRecord
    dsimp only
    refine wpAny_newObj_type ?_ (by show 5 ≤ sizeLine + 2; decide)
    exact wpAny_pure ⟨_, rfl, h⟩
section
variable {w : World} {A : Around} {E : Value → Shared → Prop} {s : Shared}
theorem call_zipS {x y : Str} {t u : Tok} {Q : Value → Shared → Prop} (hx : x.cps.all (· < 128) = true) (hy : y.cps.all (· < 128) = true)
    (h : ∀ h', IsZip h' (s.heap.objs.size + 4) (s.heap.objs.size + 2) (s.heap.objs.size + 3) .none → IsPair h' (s.heap.objs.size + 2) (.ref s.heap.objs.size) (.ref (s.heap.objs.size + 1)) →
      IsPair h' (s.heap.objs.size + 3) .none .none → SI h' s.heap.objs.size x t 0 → SI h' (s.heap.objs.size + 1) y u 0 → h'.objs.size = s.heap.objs.size + 5 →
      (∀ c o, s.heap.get? c = some o → h'.get? c = some o) → Q (.ref (s.heap.objs.size + 4)) { s with heap := h' }) :
    wpAny (model prog w) A (call (.type "zip") [.str x t, .str y u]) Q E s := by
  refine callType_new _root_.PySem.F.called_zip (by decide) (_root_.PySem.F.typeCall_zip_2 _ _) (_root_.PySem.F.newCall_zip_2 _ _) (fun obj => _root_.PySem.F.args_object_init_3 obj _ _) _root_.PySem.F.entry_zip_new
    (meets_zipS x y t u hx hy) ?_
  have z1 : (s.heap.push (sit x t)).objs.size = s.heap.objs.size + 1 := Heap.size_push ..
  have z2 : (zH2 s.heap x y t u).objs.size = s.heap.objs.size + 2 := by rw [Heap.size_push, z1]
  have z3 : (zH3 s.heap x y t u).objs.size = s.heap.objs.size + 3 := by rw [Heap.size_push, z2]
  have z4 : (zH4 s.heap x y t u).objs.size = s.heap.objs.size + 4 := by rw [Heap.size_push, z3]
  have z5 : (zH5 s.heap x y t u).objs.size = s.heap.objs.size + 5 := by rw [Heap.size_push, z4]
  have g5 : (zH5 s.heap x y t u).get? (zH4 s.heap x y t u).objs.size = some _ := Heap.get?_push_size _ rfl
  have g4 : (zH5 s.heap x y t u).get? (zH3 s.heap x y t u).objs.size = some _ := Heap.get?_push_of_some _ (Heap.get?_push_size _ rfl)
  have g3 : (zH5 s.heap x y t u).get? (zH2 s.heap x y t u).objs.size = some _ := Heap.get?_push_of_some _ (Heap.get?_push_of_some _ (Heap.get?_push_size _ rfl))
  have g2 : (zH5 s.heap x y t u).get? (s.heap.push (sit x t)).objs.size = some _ := Heap.get?_push_of_some _ (Heap.get?_push_of_some _ (Heap.get?_push_of_some _ (Heap.get?_push_size _ rfl)))
  have g1 : (zH5 s.heap x y t u).get? s.heap.objs.size = some _ := Heap.get?_push_of_some _ (Heap.get?_push_of_some _ (Heap.get?_push_of_some _ (Heap.get?_push_of_some _ (Heap.get?_push_size _ rfl))))
  show _ ∧ _
  rw [z2, z3, z4] at g5
  rw [z1, z2] at g3
  rw [z3] at g4
  rw [z1] at g2
  rw [z4]
  exact ⟨⟨_, g5, rfl⟩, h _ g5 g3 g4 ⟨_, g1, rfl, rfl⟩ ⟨_, g2, rfl, rfl⟩ z5 fun c o x =>
    Heap.get?_push_of_some _ (Heap.get?_push_of_some _ (Heap.get?_push_of_some _ (Heap.get?_push_of_some _ (Heap.get?_push_of_some _ x))))⟩
end
end Mine
namespace Mine
open PySem PySem.Calls PyProof.Rows PySem.W
section
variable {w : World} {n : Nat} {env : Env} {fr : List Addr} {mc : Option MC} {σ : Sto}
theorem Ev.rawint {e : Expr} {i : Int} {t : Tok} (h : Ev w n env fr mc σ e (.raw (.int i t))) : Ev w n env fr mc σ e (.int i) := fun A hA F s E mu I =>
  wpAny_mono (h A hA F s E mu I) (fun v s' ⟨F', W, R⟩ => ⟨F', W, by have := R.raw; subst this; exact .inl (.int ..)⟩) fun _ _ y => y
theorem Fc.divmod {a b : Int} (hb : b ≠ 0) (hl : b.natAbs.log2 < 9000) : Fc w n (.builtin "divmod") [.int a, .int b] (.tuple [.int (a.fdiv b), .int (a.fmod b)]) := fun A hA F s vs E ok r => by
  refine r.e2 fun _ _ r1 r2 => ?_
  refine r1.eInt fun t => ?_
  refine r2.eInt fun u => ?_
  refine divmod_int hb ?_ (.inl (PyProof.noPylong_of_log2 hl))
  exact ⟨F.put _ _, Fw.make ok (tupO #[.int (a.fdiv b) s.toks, .int (a.fmod b) (s.toks + 1)] 0) rfl _, .tuple (Part.put_self ..) (.cons (.int ..) (.cons (.int ..) .nil))⟩
end
end Mine
namespace Mine
open PySem PySem.Calls PyProof.Rows PySem.W
/-- what a nested def gives: its own variables from outside are those of σc -/
noncomputable def FcC (w : World) (n : Nat) (q : Str) (params : Arguments) (body : List Stmt) (scope : Scope) (cl : List (Str × Addr)) (σc : Sto) (args : List AV) (v : AV) : Prop :=
  ∀ A, Lim n A → ∀ F s fv vs E, OK w F s → Rd F fv (.fn q params body scope cl) → RdL F vs args → ClosOk cl none s →
    (∀ p ∈ σc, ∃ c val, cl.lookup (Str.ofString p.1) = some c ∧ s.heap.IsCell c (some val) ∧ Rd F val p.2) → wpAny (model prog w) A (call fv vs) (fun x s' => ∃ F', Fw w [] F s F' s' ∧ Rd F' x v) E s
theorem FcC.intro {w : World} {n : Nat} {q : Str} {params : Arguments} {body : List Stmt} {scope : Scope} {cl : List (Str × Addr)} {σc : Sto} {args : List AV} {out : Out} {v : AV} (xs : List String) (σ : Sto)
    (hb : ∀ f code L, Ex w n (fenv scope q f code cl L) (frOf L scope.names) none σ body out) (hσ : ∀ p ∈ σ, p ∈ bindsOf xs args σc) (hlen : args.length = xs.length)
    (hout : match out with | .ret u => u = v | .nxt _ _ => v = .none | .retm _ _ u => u = v)
    (hbind : ∀ fd : FuncData, fd.params = params → fd.defaults = .none → fd.kwdefaults = .none → ∀ vs : List Value, vs.length = xs.length → bindArgs fd ⟨vs, []⟩ = pure ((xs.map Str.ofString).zip vs))
    (hown : (xs.all fun x => own? scope (Str.ofString x)) = true) (hcap : ∀ p ∈ σc, capOk scope (Str.ofString p.1) = true) (hco : scope.isCoroutine = false) (hgen : scope.isGenerator = false) (hk : scope.kind = .function) :
    FcC w (n + 1) q params body scope cl σc args v := fun A hA F s fv vs E ok rf r hcl hcells => by
  cases rf with
  | fn l7 e x =>
  rename_i f fd
  have hcd : s.heap.CodeRec fd.code fd.qualname := by
    obtain ⟨c, o, vs', t, e1, e2, e3⟩ := x.code
    rw [x.qual]; exact ⟨c, o, vs', t, e1, (ok.sub _ _ e2).2, e3⟩
  refine wpAny_call (codeAny_call_function (o := { cls := .type "function", data := .func fd }) hA.room (ok.sub _ _ e).2 rfl (by rw [x.scope]; exact hco) (by rw [x.scope]; exact hgen) x.body hcd ?_)
  rw [hbind fd x.params x.dfl x.kwd vs (by rw [r.length, hlen]), x.clos, x.glo, x.bui, x.scope, x.qual]
  refine wpAny_pure (newEnv_rule ok fun h' W hn hcell hpw hkeep => ?_)
  have hc : (newEnv scope s.heap.objs.size mainGlobals (cellsFrom (s.heap.objs.size + 1) scope.names cl) (q ++ ".<locals>.") (some f) fd.code none builtinsNs) = fenv scope q f fd.code cl s.heap.objs.size := by
    unfold fenv newEnv ownC; rw [cellsFrom_append]
  have I : Inv w (fenv scope q f fd.code cl s.heap.objs.size) (frOf s.heap.objs.size scope.names) none none F σc { s with heap := h' } :=
    Inv.fresh (closure := cl) rfl rfl hk rfl rfl ok W hn hcell hpw hkeep hcl trivial fun p hp => by
      obtain ⟨c, val, k1, k2, k3⟩ := hcells p hp
      obtain ⟨k4, k5⟩ := Bool.and_eq_true_iff.mp (hcap p hp)
      exact ⟨ownC_none k5 _, .inr (by show scope.names.lookup _ = _; simpa using k4), c, val, k1, k2, .inl k3⟩
  rw [hc]
  refine bind_rule (n := n) _ (fun _ _ _ => rfl) xs vs args F σc _ r I (fun y m => Wr.fn (List.all_eq_true.mp hown y m)) fun s₁ I₁ W₁ => ⟨W₁.ok.lim, ?_⟩
  refine codeAny_func (wpAny_mono (hb f fd.code s.heap.objs.size _ (hA.deeper _) F s₁ _ none (I₁.weaken hσ)) (fun fl s₂ ⟨F₂, W₂, hp⟩ => ?_) fun _ _ y => y)
  have hfr : ∀ a ∈ frOf s.heap.objs.size scope.names, s.heap.objs.size ≤ a := fun a ha => by
    rcases List.mem_cons.mp ha with rfl | ha
    · exact Nat.le_refl _
    · obtain ⟨⟨y, c⟩, hm, rfl⟩ := List.mem_map.mp ha
      exact Nat.le_of_lt (hcell y c hm).1
  have W₃ : Fw w [] F s F₂ s₂ := ((W.wide (T := frOf s.heap.objs.size scope.names)).trans (W₁.trans (W₂.mono fun a m => by simpa using m))).drop (fun a m => .inr (hfr a m)) fun _ m => .inl m
  cases out with
  | ret u =>
    obtain ⟨x, rfl, hx⟩ := hp
    subst hout
    exact ⟨F₂, W₃, hx⟩
  | retm mc σ u =>
    obtain ⟨x, rfl, hx, _⟩ := hp
    subst hout
    exact ⟨F₂, W₃, hx⟩
  | nxt mc σ =>
    obtain ⟨rfl, _⟩ := hp
    subst hout
    exact ⟨F₂, W₃, .none⟩
section
variable {w : World} {n : Nat} {env : Env} {fr : List Addr} {mc : Option MC} {σ : Sto}
theorem Ev.callclo {x : String} {np pos : Pos} {es : List Expr} {q : Str} {params : Arguments} {body : List Stmt} {scope : Scope} {cl : List (Str × Addr)} {σc : Sto} {vs : List AV} {v : AV}
    (hf : Ev w n env fr mc σ (.Name (Str.ofString x) np) (.fn q params body scope cl)) (hs : EvL w n env fr mc σ es vs) (hc : FcC w n q params body scope cl σc vs v)
    (hcl : ∀ y c, cl.lookup y = some c → env.cells.lookup y = some c)
    (hσ : ∀ p ∈ σc, p ∈ σ ∧ p.2 ≠ .mu ∧ env.kindOf (Str.ofString p.1) ≠ some .local ∧ cl.lookup (Str.ofString p.1) = env.cells.lookup (Str.ofString p.1)) :
    Ev w n env fr mc σ (.Call (.Name (Str.ofString x) np) es [] pos) v := fun A hA F s E mu I => by
  refine wpAny_Call_NameR (hf.use hA I (Fw.refl I.ok) fun fv s₁ F₁ I₁ W₁ L₁ R₁ => ?_)
  have R := R₁.rd (by intro h; cases h)
  cases R with
  | fn l7 e x =>
  refine callWith_function (o := { cls := .type "function", data := .func _ }) (evalArgs_any (hs pos).1 (hs.use hA I₁ W₁ fun xs s₂ F₂ I₂ W₂ L₂ R₂ => ⟨⟨(I₂.ok.sub _ _ (L₂ _ _ e)).2, rfl⟩, ?_⟩))
  refine wpAny_mono (hc A hA F₂ s₂ _ xs E I₂.ok (.fn l7 (L₂ _ _ e) (x.mono L₂)) R₂ ⟨fun y c hy => ?_, fun y z c h1 h2 => I₂.fro.inj y z c (hcl _ _ h1) (hcl _ _ h2)⟩ fun p hp => ?_) (fun x s₃ ⟨F₃, W₃, R₃⟩ => ⟨F₃, W₂.trans W₃, .inl R₃⟩) fun _ _ y => y
  · obtain ⟨h1, _, v, o, ho, h3⟩ := I₂.cel y c (hcl _ _ hy)
    exact ⟨h1, Heap.lt_size ho, (fun _ h => by cases h), v, o, ho, h3⟩
  · obtain ⟨k1, k2, k3, k4⟩ := hσ p hp
    obtain ⟨val, hv, hr⟩ := I₂.vars p k1
    rcases hv with ⟨hv, _⟩ | ⟨_, c, hc', hcell⟩
    · exact absurd hv k3
    · exact ⟨c, val, by rw [k4]; exact hc', hcell, hr.rd k2⟩
end
end Mine
namespace Mine
open PySem PySem.Calls PyProof.Rows PySem.W
noncomputable def outOf (o : Out) (l : List AV) (y : String) : Prop :=
  match o with
  | .nxt mc σ => mc = some (.list l) ∧ (y, AV.mu) ∈ σ
  | .retm mc σ v => mc = some (.list l) ∧ (y, AV.mu) ∈ σ ∧ v = .none
  | .ret _ => False
/-- a nested def that changes the list of the frame around it -/
noncomputable def FcM (w : World) (n : Nat) (q : Str) (params : Arguments) (body : List Stmt) (scope : Scope) (cl : List (Str × Addr)) (σc : Sto) (args : List AV) (l l' : List AV) : Prop :=
  ∀ A, Lim n A → ∀ F s fv vs E b, OK w F s → Rd F fv (.fn q params body scope cl) → RdL F vs args → ClosOk cl (some b) s → MuPre F s (some (.list l)) (some b) →
    (∀ p ∈ σc, ∃ c val, cl.lookup (Str.ofString p.1) = some c ∧ s.heap.IsCell c (some val) ∧ RdM F (some b) val p.2) →
    wpAny (model prog w) A (call fv vs) (fun x s' => ∃ F', Fw w [b] F s F' s' ∧ Rd F' x .none ∧ F' b = none ∧ MHas F' s'.heap b (.list l')) E s
theorem FcM.intro {w : World} {n : Nat} {q : Str} {params : Arguments} {body : List Stmt} {scope : Scope} {cl : List (Str × Addr)} {σc : Sto} {args : List AV} {out : Out} {l l' : List AV} (y : String) (xs : List String) (σ : Sto)
    (hb : ∀ f code L, Ex w n (fenv scope q f code cl L) (frOf L scope.names) (some (.list l)) σ body out) (hσ : ∀ p ∈ σ, p ∈ bindsOf xs args σc) (hlen : args.length = xs.length)
    (hout : outOf out l' y) (hy : (y, .mu) ∈ σc)
    (hbind : ∀ fd : FuncData, fd.params = params → fd.defaults = .none → fd.kwdefaults = .none → ∀ vs : List Value, vs.length = xs.length → bindArgs fd ⟨vs, []⟩ = pure ((xs.map Str.ofString).zip vs))
    (hown : (xs.all fun x => own? scope (Str.ofString x)) = true) (hcap : ∀ p ∈ σc, capOk scope (Str.ofString p.1) = true) (hco : scope.isCoroutine = false) (hgen : scope.isGenerator = false) (hk : scope.kind = .function) :
    FcM w (n + 1) q params body scope cl σc args l l' := fun A hA F s fv vs E b ok rf r hcl hmu hcells => by
  cases rf with
  | fn l7 e x =>
  rename_i f fd
  have hcd : s.heap.CodeRec fd.code fd.qualname := by
    obtain ⟨c, o, vs', t, e1, e2, e3⟩ := x.code
    rw [x.qual]; exact ⟨c, o, vs', t, e1, (ok.sub _ _ e2).2, e3⟩
  refine wpAny_call (codeAny_call_function (o := { cls := .type "function", data := .func fd }) hA.room (ok.sub _ _ e).2 rfl (by rw [x.scope]; exact hco) (by rw [x.scope]; exact hgen) x.body hcd ?_)
  rw [hbind fd x.params x.dfl x.kwd vs (by rw [r.length, hlen]), x.clos, x.glo, x.bui, x.scope, x.qual]
  refine wpAny_pure (newEnv_rule ok fun h' W hn hcell hpw hkeep => ?_)
  have hc : (newEnv scope s.heap.objs.size mainGlobals (cellsFrom (s.heap.objs.size + 1) scope.names cl) (q ++ ".<locals>.") (some f) fd.code none builtinsNs) = fenv scope q f fd.code cl s.heap.objs.size := by
    unfold fenv newEnv ownC; rw [cellsFrom_append]
  have I : Inv w (fenv scope q f fd.code cl s.heap.objs.size) (frOf s.heap.objs.size scope.names) (some (.list l)) (some b) F σc { s with heap := h' } :=
    Inv.fresh (closure := cl) rfl rfl hk rfl rfl ok W hn hcell hpw hkeep hcl hmu fun p hp => by
      obtain ⟨c, val, k1, k2, k3⟩ := hcells p hp
      obtain ⟨k4, k5⟩ := Bool.and_eq_true_iff.mp (hcap p hp)
      exact ⟨ownC_none k5 _, .inr (by show scope.names.lookup _ = _; simpa using k4), c, val, k1, k2, k3⟩
  rw [hc]
  have hfr : ∀ a : Nat, a ∈ frOf s.heap.objs.size scope.names → s.heap.objs.size ≤ a := fun a ha => by
    rcases List.mem_cons.mp ha with rfl | ha
    · exact Nat.le_refl _
    · obtain ⟨⟨y, c⟩, hm, rfl⟩ := List.mem_map.mp ha
      exact Nat.le_of_lt (hcell y c hm).1
  refine bind_rule (n := n) _ (fun _ _ _ => rfl) xs vs args F σc _ r I (fun y m => Wr.fn (List.all_eq_true.mp hown y m)) fun s₁ I₁ W₁ => ⟨W₁.ok.lim, ?_⟩
  refine codeAny_func (wpAny_mono (hb f fd.code s.heap.objs.size _ (hA.deeper _) F s₁ _ (some b) (I₁.weaken hσ)) (fun fl s₂ ⟨F₂, W₂, hp⟩ => ?_) fun _ _ y => y)
  have W0 : FwG w (frOf s.heap.objs.size scope.names ++ [b]) [] F s F₂ s₂ := (W.wide (T := frOf s.heap.objs.size scope.names ++ [b])).trans ((W₁.mono fun a m => List.mem_append.mpr (.inl m)).trans W₂)
  have W₃ : Fw w [b] F s F₂ s₂ := W0.drop (fun a m => (List.mem_append.mp m).elim (fun h => .inr (hfr a h)) .inl) fun _ m => .inl m
  -- the list is the same one
  obtain ⟨c, val, k1, k2, k3⟩ := hcells _ hy
  obtain ⟨k4, k5⟩ := Bool.and_eq_true_iff.mp (hcap _ hy)
  have hvb : val = .ref b := by
    rcases k3 with k3 | ⟨_, b', e, rfl⟩
    · cases k3
    · cases e; rfl
  subst hvb
  obtain ⟨h207, hclt, hcb, _⟩ := hcl.cell _ c k1
  have hcT : c ∉ frOf s.heap.objs.size scope.names ++ [b] := fun m => by
    rcases List.mem_append.mp m with m | m
    · exact Nat.lt_irrefl _ (Nat.lt_of_lt_of_le hclt (hfr c m))
    · exact hcb b rfl (List.mem_singleton.mp m)
  have hcell2 : s₂.heap.IsCell c (some (.ref b)) := isCell_at k2 fun o e => W0.heap c (ge_notTab h207) hcT o e
  have key : ∀ {mc' mu' σ'}, Inv w (fenv scope q f fd.code cl s.heap.objs.size) (frOf s.heap.objs.size scope.names) mc' mu' F₂ σ' s₂ → mc' = some (.list l') → (y, AV.mu) ∈ σ' → F₂ b = none ∧ MHas F₂ s₂.heap b (.list l') := by
    intro mc' mu' σ' I' e hm
    obtain ⟨v, hv, hr⟩ := I'.vars _ hm
    have hfree : (fenv scope q f fd.code cl s.heap.objs.size).kindOf (Str.ofString y) = some .free := by show scope.names.lookup _ = _; simpa using k4
    have hvb : v = .ref b := by
      rcases hv with ⟨h, _⟩ | ⟨_, c', hc', hcell'⟩
      · rw [hfree] at h; cases h
      · have : c' = c := by
          have h1 : (ownC s.heap.objs.size scope.names ++ cl).lookup (Str.ofString y) = some c' := hc'
          rw [lookup_append, ownC_none k5 _] at h1
          exact Option.some.inj (h1.symm.trans k1)
        subst this
        obtain ⟨o1, g1, d1⟩ := hcell'
        obtain ⟨o2, g2, d2⟩ := hcell2
        rw [g1] at g2; cases g2
        rw [d1] at d2
        simpa using d2
    subst hvb
    rcases hr with hr | ⟨_, b', e', h⟩
    · cases hr
    · cases h
      subst e'
      subst e
      obtain ⟨_, m2, _, _, m5⟩ := I'.mu0
      exact ⟨m2, m5⟩
  cases out with
  | ret u => exact hout.elim
  | retm mc σ' u =>
    obtain ⟨x, rfl, hx, mu', I', _⟩ := hp
    obtain ⟨g1, g2, g3⟩ := hout
    subst g3
    exact ⟨F₂, W₃, hx, key I' g1 g2⟩
  | nxt mc σ' =>
    obtain ⟨rfl, mu', I', _⟩ := hp
    exact ⟨F₂, W₃, .none, key I' hout.1 hout.2⟩
end Mine
namespace Mine
open PySem PySem.Calls PyProof.Rows PySem.W
section
variable {w : World} {n : Nat} {env : Env} {fr : List Addr} {mc : Option MC} {σ : Sto}
theorem Es.callm {x : String} {np pos cpos : Pos} {es : List Expr} {q : Str} {params : Arguments} {body : List Stmt} {scope : Scope} {cl : List (Str × Addr)} {σc : Sto} {vs l l' : List AV}
    (hf : Ev w n env fr (some (.list l)) σ (.Name (Str.ofString x) np) (.fn q params body scope cl)) (hs : EvL w n env fr (some (.list l)) σ es vs) (hc : FcM w n q params body scope cl σc vs l l')
    (hcl : ∀ y c, cl.lookup y = some c → env.cells.lookup y = some c)
    (hσ : ∀ p ∈ σc, p ∈ σ ∧ env.kindOf (Str.ofString p.1) ≠ some .local ∧ cl.lookup (Str.ofString p.1) = env.cells.lookup (Str.ofString p.1))
    (hi : interactive env = false) (hsw : swapsWith (.Call (.Name (Str.ofString x) np) es [] cpos) none pos.line env = pure false) :
    Es w n env fr (some (.list l)) σ (.Expr (.Call (.Name (Str.ofString x) np) es [] cpos) pos) (.nxt (some (.list l')) σ) := fun A hA F s E mu I => by
  refine wpAny_Expr_any ?_ hi hsw
  refine wpAny_Call_NameR (hf.use hA I (Fw.refl I.ok) fun fv s₁ F₁ I₁ W₁ L₁ R₁ => ?_)
  have R := R₁.rd (by intro h; cases h)
  cases R with
  | fn l7 e x =>
  refine callWith_function (o := { cls := .type "function", data := .func _ }) (evalArgs_any (hs cpos).1 (hs.use hA I₁ W₁ fun xs s₂ F₂ I₂ W₂ L₂ R₂ => ⟨⟨(I₂.ok.sub _ _ (L₂ _ _ e)).2, rfl⟩, ?_⟩))
  have hmu := I₂.muPre
  cases mu with
  | none => exact hmu.elim
  | some b =>
  refine wpAny_mono (hc A hA F₂ s₂ _ xs E b I₂.ok (.fn l7 (L₂ _ _ e) (x.mono L₂)) R₂ ⟨fun y c hy => ?_, fun y z c h1 h2 => I₂.fro.inj y z c (hcl _ _ h1) (hcl _ _ h2)⟩ hmu fun p hp => ?_) (fun x s₃ ⟨F₃, W₃, R₃, hn, hm⟩ => ?_) fun _ _ y => y
  · obtain ⟨h1, h2, v, o, ho, h3⟩ := I₂.cel y c (hcl _ _ hy)
    exact ⟨h1, Heap.lt_size ho, h2, v, o, ho, h3⟩
  · obtain ⟨k1, k3, k4⟩ := hσ p hp
    obtain ⟨val, hv, hr⟩ := I₂.vars p k1
    rcases hv with ⟨hv, _⟩ | ⟨_, c, hc', hcell⟩
    · exact absurd hv k3
    · exact ⟨c, val, by rw [k4]; exact hc', hcell, hr⟩
  · obtain ⟨h1, h2, h3, h4, _⟩ := I₂.mu0
    refine ⟨F₃, (W₂.wide (T := fr ++ (some b).toList)).trans (W₃.mono fun a m => by rw [List.mem_singleton.mp m]; simp), rfl, some b, ?_, fun _ e => .inl e⟩
    have keep : ∀ a : Nat, 207 ≤ a → a ≠ b → ∀ o, s₂.heap.get? a = some o → s₃.heap.get? a = some o := fun a hg ha o e => W₃.heap a (ge_notTab hg) (fun m => ha (List.mem_singleton.mp m)) o e
    have hfb : ∀ a ∈ fr, a ≠ b := fun a m e => h3 (e ▸ m)
    refine { ok := W₃.ok, fro := I₂.fro, fr0 := fun a ha => ?_, mu0 := ⟨h1, hn, h3, Nat.lt_of_lt_of_le h4 W₃.size, hm⟩, loc := ?_, cel := fun y c e => ?_, vars := fun p hp' => ?_ }
    · obtain ⟨q1, q2, q3⟩ := I₂.fr0 a ha
      exact ⟨q1, I₂.nin W₃ q2 q3 (fun m => hfb a ha (List.mem_singleton.mp m)), Nat.lt_of_lt_of_le q3 W₃.size⟩
    · obtain ⟨m, hm⟩ := I₂.loc
      exact ⟨m, ns_at hm (keep _ (I₂.fr0 _ I₂.fro.lfr).1 (hfb _ I₂.fro.lfr))⟩
    · obtain ⟨q1, q2, v, q3⟩ := I₂.cel y c e
      exact ⟨q1, q2, v, isCell_at q3 (keep _ q1 (q2 b rfl))⟩
    · obtain ⟨v, q1, q2⟩ := I₂.vars p hp'
      refine ⟨v, ?_, q2.mono W₃.le⟩
      rcases q1 with ⟨hk1, m, hm, e⟩ | ⟨hk1, c, hc', hcell⟩
      · exact .inl ⟨hk1, m, ns_at hm (keep _ (I₂.fr0 _ I₂.fro.lfr).1 (hfb _ I₂.fro.lfr)), e⟩
      · exact .inr ⟨hk1, c, hc', isCell_at hcell (keep _ (I₂.cel _ c hc').1 ((I₂.cel _ c hc').2.1 b rfl))⟩
/-- x[i] = e, for the list that is being built -/
theorem Es.setsub {x : String} {np tpos pos : Pos} {i e : Expr} {l : List AV} {k : Int} {c : AV} (hx : (x, .mu) ∈ σ) (hi : Ev w n env fr (some (.list l)) σ i (.int k)) (he : Ev w n env fr (some (.list l)) σ e c) (h0 : 0 ≤ k) (hk : k < l.length) (hll : l.length ≤ 100000) (hcm : c ≠ .mu)
    (hd : (Str.ofString x == ("__debug__" : Str)) = false) (hcc : (Str.ofString x == ("__classdict__" : Str)) = false) (hs : swapsWith e (some (.Subscript (.Name (Str.ofString x) np) i tpos)) pos.line env = pure false) :
    Es w n env fr (some (.list l)) σ (.Assign [.Subscript (.Name (Str.ofString x) np) i tpos] e pos) (.nxt (some (.list (l.set k.toNat c))) σ) := fun A hA F s E mu I => by
  refine wpAny_Assign_Subscript ?_ hs
  refine he.use hA I (Fw.refl I.ok) fun ev s₁ F₁ I₁ W₁ L₁ R₁ => ?_
  refine (Ev.var hx hd hcc).use hA I₁ W₁ fun ov s₂ F₂ I₂ W₂ L₂ R₂ => ?_
  rcases R₂ with R₂ | ⟨_, b, rfl, rfl⟩
  · cases R₂
  refine hi.use hA I₂ W₂ fun iv s₃ F₃ I₃ W₃ L₃ R₃ => ?_
  obtain ⟨t, rfl⟩ := R₃.int
  obtain ⟨h1, h2, h3, h4, ys, ⟨k4, hp4⟩, hr4⟩ := I₃.mu0
  have hsz : ys.size = l.length := by simpa using hr4.length
  refine setItem_plain ⟨k4, hp4⟩ h0 (by rw [hsz]; exact hk) (by omega) fun h' hl' hsb => ?_
  obtain ⟨I₅, W₅⟩ := I₃.setmu (c' := .list (l.set k.toNat c)) s₃.toks hsb ⟨_, hl', by rw [Array.toList_setIfInBounds]; exact hr4.set _ (((R₁.mono L₂).mono L₃).rd hcm)⟩
  exact ⟨F₃, (W₃.wide (T := fr ++ (some b).toList)).trans (W₅.mono fun a m => by rw [List.mem_singleton.mp m]; simp), rfl, some b, I₅, fun _ e => .inl e⟩
end
end Mine
namespace Mine
open PySem PySem.Calls PyProof.Rows PySem.W
section
variable {w : World} {n : Nat} {env : Env} {fr : List Addr} {mc : Option MC} {σ : Sto}
theorem Ev.lenmu {x : String} {np xp pos : Pos} {l : List AV} (hf : Ev w n env fr (some (.list l)) σ (.Name (Str.ofString "len") np) (.raw (.builtin "len"))) (hx : (x, .mu) ∈ σ) (hll : l.length ≤ 100000)
    (hd : (Str.ofString x == ("__debug__" : Str)) = false) (hcc : (Str.ofString x == ("__classdict__" : Str)) = false) (he : starEach [.Name (Str.ofString x) xp] env = [(false, eval (.Name (Str.ofString x) xp) env)]) :
    Ev w n env fr (some (.list l)) σ (.Call (.Name (Str.ofString "len") np) [.Name (Str.ofString x) xp] [] pos) (.int l.length) := fun A hA F s E mu I => by
  refine wpAny_Call_NameR (hf.use hA I (Fw.refl I.ok) fun fv s₁ F₁ I₁ W₁ L₁ R₁ => ?_)
  obtain rfl := R₁.raw
  rw [he]
  refine callWith_builtin rfl (evalArgs_plain (spliced_cons ((Ev.var hx hd hcc).use hA I₁ W₁ fun ov s₂ F₂ I₂ W₂ L₂ R₂ => spliced_nil ?_)))
  rcases R₂ with R₂ | ⟨_, b, rfl, rfl⟩
  · cases R₂
  obtain ⟨h1, h2, h3, h4, ys, hp, hr⟩ := I₂.mu0
  have hsz : ys.size = l.length := by simpa using hr.length
  refine Calls.call_len_list hp.isList (by rw [hsz]; omega) ?_
  rw [hsz]
  exact ⟨F₂, W₂.trans (Fw.toks W₂.ok _), .inl (.int ..)⟩
end
end Mine
namespace Mine
open PySem PySem.Calls PyProof.Rows PySem.W
section
variable {w : World} {n : Nat}
theorem Fc.sum {ns : List Int} : Fc w n (.builtin "sum") [.list (ns.map .int)] (.int ns.sum) := fun A hA F s vs E ok r => by
  refine r.e1 fun _ r1 => ?_
  refine r1.eList fun a arr k e rl => ?_
  have hi := rl.ints
  obtain ⟨xs, ex⟩ := hi.allInts.items
  have hns : ns = xs.toList.map (·.1) := by rw [← hi.numsOf, ← nums_intItems, ← ex]
  have hl' := ok.isList e
  rw [show arr = intItems xs from ex] at hl'
  refine with_gr (sum_intListG hA.2.2 hl' fun h' tk t' hk g => ?_)
  rw [preSum_eq, List.take_of_length_le (by simp), ← hns]
  exact ⟨F, Fw.grow ok hk g.1 rfl rfl, .int ..⟩
theorem Fc.max {ns : List Int} {m : Int} (hm : m ∈ ns) (hl : ∀ a ∈ ns, a ≤ m) : Fc w n (.builtin "max") [.list (ns.map .int)] (.int m) := fun A hA F s vs E ok r => by
  refine r.e1 fun _ r1 => ?_
  refine r1.eList fun a arr k e rl => ?_
  have hi := rl.ints
  obtain ⟨xs, ex⟩ := hi.allInts.items
  have hns : ns = xs.toList.map (·.1) := by rw [← hi.numsOf, ← nums_intItems, ← ex]
  have hsz : 0 < xs.size := by
    have : 0 < ns.length := List.length_pos_of_mem hm
    rw [hns] at this; simpa using this
  have hl' := ok.isList e
  rw [show arr = intItems xs from ex] at hl'
  refine with_gr (max_intList hA.2.2 hl' hsz fun v h' tk hv hk g => ?_)
  obtain ⟨t, rfl⟩ := intItems_at hv
  obtain ⟨h1, h2⟩ := argBest_gt (numAt xs) (xs.size - 1)
  have hmem : numAt xs (argBest (fun i j => decide (numAt xs i > numAt xs j)) (xs.size - 1)) ∈ ns := by
    rw [hns, numAt_eq]; exact getD_mem (by rw [List.length_map, Array.length_toList]; omega)
  have hle : m ≤ numAt xs (argBest (fun i j => decide (numAt xs i > numAt xs j)) (xs.size - 1)) := by
    rw [hns] at hm
    obtain ⟨j, hj, rfl⟩ := mem_getD hm
    rw [List.length_map, Array.length_toList] at hj
    rw [← numAt_eq]; exact h2 j (by omega)
  have := hl _ hmem
  have e : numAt xs (argBest (fun i j => decide (numAt xs i > numAt xs j)) (xs.size - 1)) = m := by omega
  rw [e]
  exact ⟨F, Fw.grow ok hk g.1 rfl rfl, .int ..⟩
end
end Mine
namespace Mine
open PySem PySem.Calls PyProof.Rows PySem.W
theorem slot_rev_next : Slot "list_reverseiterator" "__next__" "list_reverseiterator.__next__" :=
  .of (owner := "list_reverseiterator") (n := "__next__") (by rw [typeLookup_type, builtinLookup_eq_fast]; kernel_rfl) (by decide +kernel) (by decide +kernel) (by decide +kernel)
    (by first | exact .inl (by decide +kernel) | exact .inr (by decide +kernel)) (by rw [isSubtype_type]; kernel_rfl)
theorem entry_rev_next : entryFor table "list_reverseiterator.__next__" = some Builtin.«list_reverseiterator.__next__» := entryFor_of_tree (by kernel_rfl)
/-- a reversed list's iterator, that stands at place i - 1 -/
noncomputable abbrev IsRev (h : Heap) (it l : Addr) (i : Nat) : Prop := h.get? it = some { cls := .type "list_reverseiterator", data := .fields #[.ref l, rawInt ((i : Int) - 1)] }
theorem owner_rev : Manifest.owners.lookup (String.ofList ("list_reverseiterator".toList.reverse).reverse) = some Manifest.sig_list_reverseiterator := by kernel_rfl
theorem args_rev_next (a : Value) : argsOk "list_reverseiterator.__next__" ⟨[a], []⟩ := by
  unfold argsOk; rw [signature?_of (id := "list_reverseiterator.__next__") (n := "__next__".toList.reverse) (o := "list_reverseiterator".toList.reverse) (by kernel_rfl) owner_rev]; kernel_rfl
section
variable {w : World} {A : Around} {E : Value → Shared → Prop} {s : Shared}
theorem rev_item {it l : Addr} {i : Nat} {items : Array Value} {x : Value} {Q : Option Value → Shared → Prop} (hit : IsRev s.heap it l (i + 1)) (hl : s.heap.IsList l items) (hx : items[i]? = some x)
    (hQ : ∀ h', IsRev h' it l i → Heap.SameBut it s.heap h' → Q (some x) { s with heap := h' }) : wpAny (model prog w) A (pyNext (.ref it)) Q E s := by
  have hT : s.TypeIs (.ref it) "list_reverseiterator" := ⟨_, hit, rfl⟩
  obtain ⟨ol, hol, _, nl, hdl⟩ := hl
  unfold pyNext
  refine wpAny_bind (wpAny_attempt (wpAny_callSpecial?_slot (name := Str.ofString "__next__") hT slot_rev_next
    (wpAny_call_entry slot_rev_next hT entry_rev_next ?_ (args_rev_next _))))
  show wpAny _ _ (field (.ref it) 1 >>= _) _ _ s
  refine wpAny_bind (wpAny_field hit rfl (x := rawInt (((i + 1 : Nat) : Int) - 1)) rfl ?_)
  rw [show (((i + 1 : Nat) : Int) - 1) = (i : Int) by omega]
  show wpAny _ _ (if (i : Int) < 0 then _ else (field (.ref it) 0 >>= _)) _ _ s
  rw [if_neg (by omega)]
  refine wpAny_bind (wpAny_field hit rfl (x := .ref l) rfl ?_)
  refine wpAny_bind (wpAny_seqItems hol hdl ?_)
  simp only [Int.toNat_natCast, hx]
  refine wpAny_bind (wpAny_setField_rec hit (by simp) fun h' hi' hs' => ?_)
  exact wpAny_pure ⟨x, rfl, wpAny_pure (hQ h' hi' hs')⟩
theorem rev_end {it l : Addr} {Q : Option Value → Shared → Prop} (hh : A.handled = none) (hit : IsRev s.heap it l 0)
    (hQ : ∀ h', Heap.ExtBut it s.heap h' → Q none { s with heap := h' }) : wpAny (model prog w) A (pyNext (.ref it)) Q E s := by
  have hT : s.TypeIs (.ref it) "list_reverseiterator" := ⟨_, hit, rfl⟩
  unfold pyNext
  refine wpAny_bind (wpAny_attempt (wpAny_callSpecial?_slot (name := Str.ofString "__next__") hT slot_rev_next
    (wpAny_call_entry slot_rev_next hT entry_rev_next ?_ (args_rev_next _))))
  show wpAny _ _ (field (.ref it) 1 >>= _) _ _ s
  refine wpAny_bind (wpAny_field hit rfl (x := rawInt (((0 : Nat) : Int) - 1)) rfl ?_)
  refine wpAny_bind (wpAny_rule ?_)
  show wpAny _ _ ((newExc (.type "StopIteration") [] >>= _) >>= _) _ _ _
  refine wpAny_bind (wpAny_bind ?_)
  simp only [newExc, newTuple]
  refine wpAny_bind (wpAny_newObj_type ?_ (by size_fits))
  refine wpAny_bind (m := firstArgMember _ _) (wpAny_of_eq (a := Value.none) (by first | rfl | (simp only [firstArgMember]; rfl)) ?_)
  refine wpAny_newObj_type ?_ (by size_fits)
  refine wpAny_raiseNew_none (A := A.in1) hh ?_
  refine wpAny_bind (wpAny_isInstance (T := "StopIteration") (b := true) ⟨_, Heap.get?_push_size _ rfl, rfl⟩ isSubtype_stop ?_)
  exact wpAny_pure (hQ _ fun b o hb e => Heap.get?_push_of_some _ (Heap.get?_push_of_some _ e))
end
end Mine
namespace Mine
open PySem PySem.Calls PyProof.Rows PySem.W
section
variable {w : World} {A : Around} {E : Value → Shared → Prop} {s : Shared}
/-- a type whose __new__ gives an object of another type -/
theorem callType_other {T T' newId initId : String} {Bn : Builtin} {args : List Value} {S : PySem.Spec} {Q : Value → Shared → Prop} (ft : TypeCalled T newId initId)
    (hct : checkTypeCall T ⟨args, []⟩ = pure ()) (hcn : checkBuiltinCall newId ⟨.type T :: args, []⟩ = pure ())
    (entryN : entryFor table newId = some Bn) (g : Meets (Bn ⟨.type T :: args, []⟩) S) (hsub' : isSubtype (.type T') (.type T) = pure false)
    (h : S A.in1 (wants (fun obj s₁ => s₁.TypeIs obj T' ∧ Q obj s₁) E) s) :
    wpAny (model prog w) A (call (.type T) args) Q E s := by
  obtain ⟨c, tl, hmro⟩ := ft.mro
  have hmade := ft.made
  have hsub := ft.sub
  refine wpAny_call (codeAny_of_tree ?_)
  show wpAny _ _ (callAny (.type T) _) _ _ _
  refine wpAny_pure ⟨Code.quiet_builtin _ (by decide +kernel), codeAny_builtin _root_.PySem.F.entry_type_call ?_⟩
  rw [Around.under_plain (weight_type_call_type T args []) (units_type_call_type T args [])]
  have h1 := ft.notType
  have h2 := ft.canCreate
  repeat (any_goals (first | assumption | wp_step))
  refine codeAny_mono (codeAny_call_builtin ft.plain entryN (wpAny_of_eq hcn (g prog w A.in1 _ s h))) fun r s₁ hr => ?_
  cases r with
  | error e => exact hr
  | ok fl =>
    cases fl with
    | ret obj =>
      obtain ⟨hT, hq⟩ := hr
      repeat (any_goals (first | assumption | wp_step))
    | _ => exact hr.elim
theorem slot_list_reversed : Slot "list" "__reversed__" "list.__reversed__" :=
  .of (owner := "list") (n := "__reversed__") (by rw [typeLookup_type, builtinLookup_eq_fast]; kernel_rfl) (by decide +kernel) (by decide +kernel) (by decide +kernel)
    (by first | exact .inl (by decide +kernel) | exact .inr (by decide +kernel)) (by rw [isSubtype_type]; kernel_rfl)
theorem entry_list_reversed : entryFor table "list.__reversed__" = some Builtin.«list.__reversed__» := entryFor_of_tree (by kernel_rfl)
theorem args_list_reversed (a : Value) : argsOk "list.__reversed__" ⟨[a], []⟩ := by
  unfold argsOk; rw [signature?_of (id := "list.__reversed__") (n := "__reversed__".toList.reverse) (o := "list".toList.reverse) (by kernel_rfl) _root_.PySem.F.owner_list]; kernel_rfl
theorem mro_reversed : mroOf (.type "reversed") = pure [.type "reversed", .type "object"] := by rw [mroOf_type]; kernel_rfl
theorem lookup_reversed_new : typeLookup (.type "reversed") "__new__" = pure (some (.builtin "reversed.__new__")) := by rw [typeLookup_type, builtinLookup_eq_fast]; kernel_rfl
theorem slot_reversed_init : Slot "reversed" "__init__" "object.__init__" :=
  .of (owner := "object") (n := "__init__") (by rw [typeLookup_type, builtinLookup_eq_fast]; kernel_rfl) (by decide +kernel) (by decide +kernel) (by decide +kernel)
    (by first | exact .inl (by decide +kernel) | exact .inr (by decide +kernel)) (by rw [isSubtype_type]; kernel_rfl)
theorem called_reversed : TypeCalled "reversed" "reversed.__new__" "object.__init__" :=
  ⟨by decide +kernel, by decide +kernel, ⟨_, _, mro_reversed⟩, madeBy_type mro_reversed lookup_reversed_new (by decide +kernel), by decide +kernel, by rw [isSubtype_type]; kernel_rfl, slot_reversed_init⟩
theorem typeCall_reversed (a : Value) : checkTypeCall "reversed" ⟨[a], []⟩ = pure () := by kernel_rfl
theorem newCall_reversed (a : Value) : checkBuiltinCall "reversed.__new__" ⟨[.type "reversed", a], []⟩ = pure () := by kernel_rfl
theorem entry_reversed_new : entryFor table "reversed.__new__" = some Builtin.«reversed.__new__» := entryFor_of_tree (by kernel_rfl)
theorem sub_reversed : isSubtype (.type "reversed") (.type "reversed") = pure true := by rw [isSubtype_type]; kernel_rfl
theorem sub_rev_reversed : isSubtype (.type "list_reverseiterator") (.type "reversed") = pure false := by rw [isSubtype_type]; kernel_rfl
theorem newClass_reversed (xs : List Value) : Builtin.SmallTypes.newClass "reversed" ⟨.type "reversed" :: xs, []⟩ = pure (.type "reversed", xs) := by
  have e : Builtin.SmallTypes.newClass "reversed" ⟨.type "reversed" :: xs, []⟩ = (do
      let b ← isSubtype (.type "reversed") (.type "reversed")
      if !b then
        rule s!"reversed.__new__.no-subtype"
        raiseError "TypeError" s!"reversed.__new__({← typeName (.type "reversed")}): {← typeName (.type "reversed")} is not a subtype of reversed"
      return (.type "reversed", xs)) := rfl
  rw [e, sub_reversed]; rfl
theorem meets_reversed (l : Addr) (items : Array Value) (n : Nat) :
    Meets (Builtin.«reversed.__new__» ⟨[.type "reversed", .ref l], []⟩) (fun _ R s => s.heap.get? l = some { cls := .type "list", data := .seq items n } ∧ R (.ok (.ret (.ref s.heap.objs.size)))
      { s with heap := s.heap.push { cls := .type "list_reverseiterator", data := .fields #[.ref l, rawInt (((items.size : Nat) : Int) - 1)] } }) :=
  .of_wp fun prog w A R s h => by
    obtain ⟨hp, g, d, tk, os⟩ := s
    obtain ⟨hl, h⟩ := h
    have hT : (⟨hp, g, d, tk, os⟩ : Shared).TypeIs (.ref l) "list" := ⟨_, hl, rfl⟩
    unfold Builtin.«reversed.__new__»
    rw [newClass_reversed]
    refine wpAny_bind (wpAny_pure ?_)
    refine wpAny_bind (wpAny_pure (a := ()) ?_)
    refine wpAny_bind (wpAny_pure (a := ()) ?_)
    show wpAny _ _ (specialOf (.ref l) "__reversed__" >>= _) _ _ _
    refine wpAny_bind (wpAny_specialOf hT slot_list_reversed.lookup ?_)
    show wpAny _ _ (bindSpecial (.builtin "list.__reversed__") (.ref l) >>= _) _ _ _
    rw [slot_list_reversed.bind]
    refine wpAny_bind (wpAny_pure ?_)
    show wpAny _ _ (if (Value.builtin "list.__reversed__" == Value.none) = true then _ else _) _ _ _
    rw [if_neg (by decide)]
    refine wpAny_bind (wpAny_rule ?_)
    show wpAny _ _ (call (.builtin "list.__reversed__") [.ref l] >>= _) _ _ _
    refine wpAny_bind (call_meets slot_list_reversed hT entry_list_reversed (args_list_reversed _) (AutoListH.list___reversed___list_0 l items n) ⟨hl, ?_⟩)
    exact wpAny_pure ⟨_, rfl, h⟩
theorem call_reversed {l : Addr} {items : Array Value} {n : Nat} {Q : Value → Shared → Prop} (hl : s.heap.get? l = some (listO items n))
    (hQ : Q (.ref s.heap.objs.size) { s with heap := s.heap.push { cls := .type "list_reverseiterator", data := .fields #[.ref l, rawInt ((items.size : Int) - 1)] } }) :
    wpAny (model prog w) A (call (.type "reversed") [.ref l]) Q E s := by
  refine callType_other called_reversed (typeCall_reversed _) (newCall_reversed _) entry_reversed_new (meets_reversed l items n) sub_rev_reversed ⟨hl, ⟨_, Heap.get?_push_size _ rfl, rfl⟩, hQ⟩
end
end Mine
namespace Mine
open PySem PySem.Calls PyProof.Rows PySem.W
theorem slot_rev_iter : Slot "list_reverseiterator" "__iter__" "list_reverseiterator.__iter__" :=
  .of (owner := "list_reverseiterator") (n := "__iter__") (by rw [typeLookup_type, builtinLookup_eq_fast]; kernel_rfl) (by decide +kernel) (by decide +kernel) (by decide +kernel)
    (by first | exact .inl (by decide +kernel) | exact .inr (by decide +kernel)) (by rw [isSubtype_type]; kernel_rfl)
theorem entry_rev_iter : entryFor table "list_reverseiterator.__iter__" = some Builtin.«dict_keyiterator.__iter__» :=
  entryFor_alias (id' := "dict_keyiterator.__iter__") (by kernel_rfl) (by first | rfl | decide +kernel | (unfold String.splitOn; simp +decide [String.splitOnAux])) (by decide +kernel) (by kernel_rfl)
theorem args_rev_iter (a : Value) : argsOk "list_reverseiterator.__iter__" ⟨[a], []⟩ := by
  unfold argsOk; rw [signature?_of (id := "list_reverseiterator.__iter__") (n := "__iter__".toList.reverse) (o := "list_reverseiterator".toList.reverse) (by kernel_rfl) owner_rev]; kernel_rfl
section
variable {w : World} {A : Around} {E : Value → Shared → Prop} {s : Shared}
theorem rev_iter {it l : Addr} {i : Nat} {Q : Value → Shared → Prop} (hz : IsRev s.heap it l i) (h : Q (.ref it) s) : wpAny (model prog w) A (pyIter (.ref it)) Q E s := by
  have hT : s.TypeIs (.ref it) "list_reverseiterator" := ⟨_, hz, rfl⟩
  refine wpAny_pyIter_slot hT slot_rev_iter (wpAny_call_entry slot_rev_iter hT entry_rev_iter ?_ (args_rev_iter _))
  show wpAny _ _ (ret (.ref it)) _ _ s
  exact wpAny_pure ⟨_, rfl, "list_reverseiterator", _, hT, slot_rev_next.lookup, h⟩
theorem walks_rev (hh : A.handled = none) (I ax : Addr) (hne : ax ≠ I) (items : Array Value) :
    Walks prog w A I [I, ax] [I] items.size (fun i v => items.toList.reverse[i]? = some v) (fun i h => IsRev h I ax (items.size - i) ∧ h.IsList ax items) where
  sub := fun b hb => by simp at hb; simp [hb]
  frame := fun _ _ _ st hk => ⟨hk I (by simp) _ st.1, st.2.at fun o e => hk ax (by simp) o e⟩
  item := fun i s Q E hi st hQ => by
    have e : items.size - i = (items.size - (i + 1)) + 1 := by omega
    have hit := st.1
    rw [e] at hit
    refine rev_item hit st.2 (x := items[items.size - (i + 1)]'(by omega)) (by simp) fun h' hit' hs' => ?_
    exact hQ _ h' s.toks (by rw [List.getElem?_reverse (by simpa using hi)]; simp; rw [show items.size - 1 - i = items.size - (i + 1) by omega, Array.getElem?_eq_getElem (by omega)]) ⟨hit', st.2.extBut hs'.extBut hne⟩ fun b o hb e => hs'.extBut b o (fun h => hb (by simp [h])) e
  done := fun s Q E st hQ => by
    have hit := st.1
    rw [Nat.sub_self] at hit
    exact rev_end hh hit fun h' he' => hQ h' s.toks fun b o hb e => he' b o (fun h => hb (by simp [h])) e
  self := fun _ _ _ _ st hQ => rev_iter st.1 hQ
end
section
variable {w : World} {n : Nat} {env : Env} {fr : List Addr} {mc : Option MC} {σ : Sto}
theorem Itb.rev {e : Expr} {np pos : Pos} {l : List AV} (hf : Ev w n env fr mc σ (.Name "reversed" np) (.raw (.type "reversed"))) (h : Ev w n env fr mc σ e (.list l)) 
    (he : starEach [e] env = [(false, eval e env)]) :
    Itb w n env fr mc σ (.Call (.Name "reversed" np) [e] [] pos) l.reverse := fun A hA F s E mu I => by
  refine wpAny_Call_NameR (hf.use hA I (Fw.refl I.ok) fun fv s₁ F₁ I₁ W₁ L₁ R₁ => ?_)
  obtain rfl := R₁.raw
  rw [he]
  refine PyProof.Rows.callWith_type rfl (Calls.evalArgs_plain (Calls.spliced_cons (h.use hA I₁ W₁ fun nv s₂ F₂ I₂ W₂ L₂ R₂ => Calls.spliced_nil ?_)))
  obtain ⟨a, xs, k, rfl, hF, hr⟩ := R₂.list
  refine call_reversed (I₂.ok.sub a _ hF).2 ?_
  have hit : IsRev (s₂.heap.push { cls := .type "list_reverseiterator", data := .fields #[.ref a, rawInt ((xs.size : Int) - 1)] }) s₂.heap.objs.size a xs.size := Heap.get?_push_size _ rfl
  refine rev_iter hit ?_
  have W₃ : Fw w [] F₂ s₂ F₂ { s₂ with heap := s₂.heap.push { cls := .type "list_reverseiterator", data := .fields #[.ref a, rawInt ((xs.size : Int) - 1)] } } :=
    Fw.grow I₂.ok (fun _ _ e => Heap.get?_push_of_some _ e) (by rw [Heap.size_push]; exact Nat.le_succ _) rfl rfl
  have hne : a ≠ s₂.heap.objs.size := Nat.ne_of_lt (I₂.ok.lt hF)
  refine ⟨F₂, [s₂.heap.objs.size], [], W₂.trans W₃, (fun b m => by rw [List.mem_singleton.mp m]; exact W₂.size), (fun _ m => nomatch m), ?_⟩
  refine Ys.of_walks (L := l.reverse) (N := xs.size) (fun A hA => walks_rev hA.2.2 s₂.heap.objs.size a hne xs) (by rw [List.length_reverse, ← hr.length]; simp) xs.size 0 F₂ _ rfl (Nat.zero_le _) W₃.ok
      ⟨hit, W₃.ok.isList hF⟩ (fun b m => ?_) (fun b m => ?_) fun i v hi hv => ?_
  · rw [List.mem_singleton.mp m]
    exact ⟨I₂.ok.sz, I₂.ok.old (Nat.le_refl _), by show _ < (s₂.heap.push _).objs.size; rw [Heap.size_push]; exact Nat.lt_succ_self _⟩
  · rcases List.mem_cons.mp m with rfl | m
    · exact .inl (.head _)
    · rw [List.mem_singleton.mp m]; exact .inr ⟨_, hF⟩
  · exact hr.rev.get' hv
end
end Mine
namespace Mine
open PySem PySem.Calls PyProof.Rows PySem.W
noncomputable def isspN (c : Nat) : Bool := Txt.isspace (S [c])
noncomputable def keep1 (c d : Nat) : Nat := if d = 32 ∧ isspN c = true then c else d
noncomputable def keepL (a b : List Nat) : List Nat := List.zipWith keep1 a b
noncomputable def kscope : Scope := { kind := .function, names := [(Str.ofString ".0", .local), (Str.ofString "c", .local), (Str.ofString "tag_c", .local)], isGenerator := true, isCoroutine := false, more := [] }
noncomputable def kelt (p : Nat → Pos) : Expr := .IfExp (.BoolOp .And [.Compare (.Name (Str.ofString "tag_c") (p 0)) [.Eq] [.Constant (.str (Str.ofString " ")) 0 (p 1)] (p 2), .Call (.Attribute (.Name (Str.ofString "c") (p 3)) (Str.ofString "isspace") (p 4)) [] [] (p 5)] (p 6)) (.Name (Str.ofString "c") (p 7)) (.Name (Str.ofString "tag_c") (p 8)) (p 9)
theorem S_sing (c : Nat) : S [c] = ⟨#[c]⟩ := rfl
section
variable {w : World}
theorem kelt_walk {p : Nat → Pos} (hp : (p 4).endLine = (p 5).line) {cenv : Env} (hk : cenv.scope = kscope) {A : Around} {E : Value → Shared → Prop} {s : Shared} {m : Str → Option Value} {c d : Nat} {t u : Tok}
    (hn : s.heap.Ns cenv.locals m) (hc : m (Str.ofString "c") = some (.str ⟨#[c]⟩ t)) (hd : m (Str.ofString "tag_c") = some (.str ⟨#[d]⟩ u)) {Q : Value → Shared → Prop}
    (hQ : ∀ v tk, Q (.str ⟨#[keep1 c d]⟩ v) { s with toks := tk }) : wpAny (model prog w) A (eval (kelt p) cenv) Q E s := by
  have k1 : cenv.kindOf (Str.ofString "c") = some .local := by unfold Env.kindOf; rw [hk]; rfl
  have k2 : cenv.kindOf (Str.ofString "tag_c") = some .local := by unfold Env.kindOf; rw [hk]; rfl
  have kk : cenv.scope.kind = .function := by rw [hk]; rfl
  have nc : ∀ (pos : Pos) (Q : Value → Shared → Prop) (E : Value → Shared → Prop) (tk : Nat), Q (.str ⟨#[c]⟩ t) { s with toks := tk } → wpAny (model prog w) A (eval (.Name (Str.ofString "c") pos) cenv) Q E { s with toks := tk } := fun pos Q E tk h =>
    wpAny_Name (wpAny_loadName_local kk k1 hn hc h) (by decide)
  have nd : ∀ (pos : Pos) (Q : Value → Shared → Prop) (E : Value → Shared → Prop) (tk : Nat), Q (.str ⟨#[d]⟩ u) { s with toks := tk } → wpAny (model prog w) A (eval (.Name (Str.ofString "tag_c") pos) cenv) Q E { s with toks := tk } := fun pos Q E tk h =>
    wpAny_Name (wpAny_loadName_local kk k2 hn hd h) (by decide)
  unfold kelt
  refine IfExp_ (isTrue_and (wpAny_isTrue_Compare1 (nd (p 0) _ _ s.toks (wpAny_Constant_str (PySem.P.eq_str (wpAny_truthy_bool ?_)))) (by with_unfolding_all rfl)))
  have hb : ((⟨#[d]⟩ : Str).cps.toList == (Str.ofString " ").cps.toList) = decide (d = 32) := by
    have : (Str.ofString " ").cps.toList = [32] := by rfl
    rw [this]; simp
    by_cases h : d = 32 <;> simp [h]
  rw [hb]
  by_cases h : d = 32
  · subst h
    simp only [decide_true, if_true]
    refine isTrue_and (isTrue_plain (wpAny_Call_method_lateS (by rfl) (by rfl) (by simpa using hp) (nc (p 3) _ _ _ ?_)) (by rfl))
    refine ⟨"str", "str.isspace", _root_.PySem.F.plainAttrs_str, _root_.PySem.F.slot_str_isspace, _root_.PySem.F.type_str_isspace, typeIs_str _ _ _, (fun _ e => nomatch e), callWith_builtin rfl (evalArgs_any rfl (spliced_nil ?_))⟩
    refine SC.isspace (wpAny_truthy_bool ?_)
    cases hsp : Txt.isspace ⟨#[c]⟩ with
    | true =>
      simp only [if_true]
      refine isTrue_and_nil ?_
      simp only [if_true]
      refine nc (p 7) _ _ _ ?_
      have : keep1 c 32 = c := by unfold keep1 isspN; rw [S_sing, hsp]; simp
      rw [this] at hQ
      exact hQ _ _
    | false =>
      simp only [Bool.false_eq_true, if_false]
      refine nd (p 8) _ _ _ ?_
      have : keep1 c 32 = 32 := by unfold keep1 isspN; rw [S_sing, hsp]; simp
      rw [this] at hQ
      exact hQ _ _
  · simp only [h, decide_false, Bool.false_eq_true, if_false]
    refine nd (p 8) _ _ _ ?_
    have : keep1 c d = d := by unfold keep1; simp [h]
    rw [this] at hQ
    exact hQ _ _
end
end Mine
namespace Mine
open PySem PySem.Calls PyProof.Rows PySem.W
theorem S_cps (a : List Nat) (i : Nat) : (S a).cps[i]? = a[i]? := by simp [S]
theorem S_size (a : List Nat) : (S a).cps.size = a.length := by simp [S]
theorem S_ascii {a : List Nat} (h : ∀ c ∈ a, c < 128) : (S a).cps.all (· < 128) = true := by
  rw [Array.all_eq_true]
  intro i hi
  have : (S a).cps[i] ∈ a := by simp [S]
  simpa using h _ this
theorem ne_nat {a b : Nat} (h : a < b ∨ b < a) : a ≠ b := by omega
theorem za5 (Z : Nat) : ZA (Z + 4) (Z + 2) (Z + 3) Z (Z + 1) :=
  ⟨ne_nat (by omega), ne_nat (by omega), ne_nat (by omega), ne_nat (by omega), ne_nat (by omega), ne_nat (by omega), ne_nat (by omega), ne_nat (by omega), ne_nat (by omega), ne_nat (by omega)⟩
theorem mem5 {Z c : Nat} (h : c ∈ [Z + 4, Z + 2, Z + 3, Z, Z + 1]) : c < Z + 5 := by
  simp only [List.mem_cons, List.not_mem_nil, or_false] at h
  omega
theorem mem4 {Z c : Nat} (h : c ∈ [Z + 4, Z + 3, Z, Z + 1]) : Z ≤ c := by
  simp only [List.mem_cons, List.not_mem_nil, or_false] at h
  omega
theorem mem4' {Z c : Nat} (h : c ∈ [Z + 4, Z + 3, Z, Z + 1]) : c < Z + 5 := by
  simp only [List.mem_cons, List.not_mem_nil, or_false] at h
  omega
theorem joinOk_S {ls : List (List Nat)} (hz : ls.length ≤ 1000) (hl : ∀ l ∈ ls, l.length ≤ 100) : JoinOk "" (ls.map S) = true := by
  unfold JoinOk Builtin.Str.tooLong
  have key : ∀ (ts : List Str) (acc : Nat), (∀ x ∈ ts, x.length ≤ 100) → ts.foldl (· + ·.length + ("" : Str).length) acc ≤ acc + 100 * ts.length := by
    intro ts
    induction ts with
    | nil => intro acc _; simp
    | cons x r ih =>
      intro acc h
      rw [List.foldl_cons]
      have h1 := ih (acc + x.length + ("" : Str).length) fun y m => h y (.tail _ m)
      have h2 := h x (.head _)
      have h3 : ("" : Str).length = 0 := rfl
      rw [h3] at h1 ⊢
      simp only [List.length_cons]
      omega
  have := key (ls.map S) 0 fun x m => by
    obtain ⟨l, hm, rfl⟩ := List.mem_map.mp m
    rw [S_length]; exact hl l hm
  rw [List.length_map] at this
  simp only [List.foldl_toArray', List.size_toArray]
  have hz' : sizeLine = 16777216 := rfl
  simp
  omega
theorem items_keep {a b : List Nat} {n : Nat} {l : List (Str × Tok)} (hn : n = min a.length b.length)
    (hit : ItemsOf (fun j y => ∃ i, (List.range n)[j]? = some i ∧ ∃ c d t, a[i]? = some c ∧ b[i]? = some d ∧ y = .str ⟨#[keep1 c d]⟩ t) (strValues l).toArray n) : l.map (·.1) = ((keepL a b).map fun c => [c]).map S := by
  obtain ⟨h1, h2⟩ := hit
  have hlen : l.length = n := by simpa [strValues] using h1
  apply List.ext_getElem?
  intro j
  by_cases hj : j < n
  · have hj' : j < l.length := by omega
    obtain ⟨i, hi, c, d, t, e1, e2, e3⟩ := h2 j (.str l[j].1 l[j].2) (by simp [strValues, hj'])
    rw [List.getElem?_range hj] at hi
    cases hi
    have e4 : l[j].1 = ⟨#[keep1 c d]⟩ := by injection e3
    rw [List.getElem?_map, List.getElem?_eq_getElem hj', List.getElem?_map, List.getElem?_map, keepL, List.getElem?_zipWith, e1, e2]
    show some l[j].1 = some (S [keep1 c d])
    rw [e4]; rfl
  · rw [List.getElem?_eq_none (by simp; omega), List.getElem?_eq_none (by simp [keepL]; omega)]
theorem passing_all (n : Nat) : passing (fun _ => true) n 0 = List.range n := by
  unfold passing
  simp [List.range_eq_range']
section
variable {w : World} {n : Nat} {env : Env} {fr : List Addr} {mc : Option MC} {σ : Sto}
theorem Ev.joinkeep {p : Nat → Pos} {e1 e2 : Expr} {k : Nat} {p0 apos pos np zpos pa pb pt gpos : Pos} {a b : List Nat} (hp : (p 4).endLine = (p 5).line)
    (hf : Ev w n env fr mc σ (.Name (Str.ofString "zip") np) (.raw (.type "zip"))) (hs : EvL w n env fr mc σ [e1, e2] [.str (S a), .str (S b)]) (ha : ∀ c ∈ a, c < 128) (hb : ∀ c ∈ b, c < 128) (hla : a.length ≤ 100)
    (m : Maker) (pq : Nat × Nat × Str) (hm : m ∈ makers) (hpq : pq ∈ m.ql) (hl : gpos.line = pq.1) (hc : gpos.col = pq.2.1) (hcode : env.code = .ref m.c) (hqual : env.qual ++ "<genexpr>" = pq.2.2)
    (hg0 : env.globals = mainGlobals)
    (hfold : ∀ x, genFold (.Call (.Name (Str.ofString "zip") np) [e1, e2] [] zpos) env x = pure x)
    (hst : starEach [.GeneratorExp (kelt p) [⟨.Tuple [.Name (Str.ofString "c") pa, .Name (Str.ofString "tag_c") pb] 0 pt, .Call (.Name (Str.ofString "zip") np) [e1, e2] [] zpos, [], 0⟩] kscope gpos] env =
      [(false, eval (.GeneratorExp (kelt p) [⟨.Tuple [.Name (Str.ofString "c") pa, .Name (Str.ofString "tag_c") pb] 0 pt, .Call (.Name (Str.ofString "zip") np) [e1, e2] [] zpos, [], 0⟩] kscope gpos) env)])
    (hmf : MForm env (.Constant (.str "") k p0) (Str.ofString "join") apos pos [.GeneratorExp (kelt p) [⟨.Tuple [.Name (Str.ofString "c") pa, .Name (Str.ofString "tag_c") pb] 0 pt, .Call (.Name (Str.ofString "zip") np) [e1, e2] [] zpos, [], 0⟩] kscope gpos]) :
    Ev w n env fr mc σ (.Call (.Attribute (.Constant (.str "") k p0) (Str.ofString "join") apos) [.GeneratorExp (kelt p) [⟨.Tuple [.Name (Str.ofString "c") pa, .Name (Str.ofString "tag_c") pb] 0 pt, .Call (.Name (Str.ofString "zip") np) [e1, e2] [] zpos, [], 0⟩] kscope gpos] [] pos)
      (.str (S (keepL a b))) := fun A hA F s E mu I => by
  refine wpAny_Call_method_lateS hmf.1 hmf.2.1 hmf.2.2 (wpAny_Constant_str ?_)
  have W0 : Fw w [] F s F { s with toks := s.toks + 1 } := Fw.toks I.ok _
  have I0 := I.step W0
  refine ⟨"str", "str.join", _root_.PySem.F.plainAttrs_str, _root_.PySem.F.slot_str_join, _root_.PySem.F.type_str_join, typeIs_str _ _ _, (fun _ e => nomatch e), ?_⟩
  rw [hst]
  refine callWith_builtin rfl (evalArgs_any rfl (spliced_cons ?_))
  refine wpAny_GeneratorExp_walksQT hA.2.2 rfl (cl := []) (by rfl) (by decide) (by rfl) (by rfl) (by rfl) (by decide) rfl hA.room ?_ hfold
  refine wpAny_Call_NameR (hf.use hA I0 W0 fun fv s₁ F₁ I₁ W₁ L₁ R₁ => ?_)
  obtain rfl := R₁.raw
  refine PyProof.Rows.callWith_type (hs zpos).1 (evalArgs_any (hs zpos).1 (hs.use hA I₁ W₁ fun xs s₂ F₂ I₂ W₂ L₂ R₂ => ?_))
  obtain ⟨t, u, rfl⟩ : ∃ t u, xs = [.str (S a) t, .str (S b) u] := by
    cases R₂ with | cons r rs => cases rs with | cons r2 rs => cases rs with | nil =>
    cases r with | str _ t => cases r2 with | str _ u => exact ⟨t, u, rfl⟩
  refine call_zipS (S_ascii ha) (S_ascii hb) fun h' z1 z2 z3 z4 z5 hz hk => ?_
  have W₃ : Fw w [] F s F₂ { s₂ with heap := h' } := W₂.trans (Fw.grow I₂.ok hk (by show _ ≤ h'.objs.size; omega) rfl rfl)
  refine wpAny_pyIter_zip z1 ⟨W₃.ok.lim, ?_⟩
  rw [hqual]
  refine code_gen W₃.ok hm hpq hl hc hcode fun c' s₄ F₄ W₄ hin => ?_
  have W := W₃.trans W₄
  obtain ⟨mg, hmg⟩ := W.ok.glo
  obtain ⟨ob, hob, hb1, hb2, hb3⟩ := W.ok.bm
  have hbi : mg "__builtins__" = some (.ref 4) := mg_of W.ok.K hmg (v := .ref 4) (by rfl)
  rw [hg0]
  refine wpAny_builtinsFor hmg hbi (by decide) hob hb1 hb2 hb3 ?_
  have h207 := I₂.ok.sz
  have hs4 : s₂.heap.objs.size + 5 ≤ s₄.heap.objs.size := by have := W₄.size; have e : ({ s₂ with heap := h' } : Shared).heap.objs.size = s₂.heap.objs.size + 5 := hz; omega
  have keep4 : ∀ c : Nat, s₂.heap.objs.size ≤ c → ∀ o, h'.get? c = some o → s₄.heap.get? c = some o := fun c hc o e => W₄.heap c (ge_notTab (Nat.le_trans h207 hc)) (fun m => nomatch m) o e
  generalize hZ : s₂.heap.objs.size = Z at z1 z2 z3 z4 z5 hz hs4 keep4 h207
  refine ⟨Z + 4, [Z + 4, Z + 2, Z + 3, Z, Z + 1], [Z + 4, Z + 3, Z, Z + 1], _, _, _, _, fun _ => true, fun i y => ∃ c d t, a[i]? = some c ∧ b[i]? = some d ∧ y = .str ⟨#[keep1 c d]⟩ t, rfl,
    fun A' hA' => walk_zipS hA' (Z + 4) (Z + 2) (Z + 3) Z (Z + 1) (za5 Z) (S a) (S b) t u,
    (fun i vals ⟨c, d, p, q, _, _, e⟩ => ⟨_, _, e⟩), ?_, ?_, W.ok.lim, ?_, ?_, ?_⟩
  · obtain ⟨o1, g1, r1⟩ := z4
    obtain ⟨o2, g2, r2⟩ := z5
    exact ⟨keep4 _ (by omega) _ z1, keep4 _ (by omega) _ z2, ⟨_, _, keep4 _ (by omega) _ z3⟩, ⟨o1, keep4 _ (by omega) _ g1, r1⟩, ⟨o2, keep4 _ (by omega) _ g2, r2⟩⟩
  · exact fun c hc => Nat.lt_of_lt_of_le (mem5 hc) hs4
  · intro hc
    have h0 : cStatics < 207 := by decide
    exact absurd (Nat.lt_of_lt_of_le h0 (Nat.le_trans h207 (mem4 hc))) (Nat.lt_irrefl _)
  · intro href _
    refine ⟨fun A' E' i va vb s₅ m₂ hh' hP hns h1 h2 hk' => ?_, fun A' E' i va vb s₅ m₂ hh' hP _ hns h1 h2 hk' => ?_⟩
    · rw [List.forIn_nil]
      exact wpAny_pure ⟨rfl, _, _, rfl, fun _ _ e => e⟩
    · obtain ⟨c, d, q1, q2, e1, e2, e3⟩ := hP
      have ev : va = .str ⟨#[c]⟩ q1 ∧ vb = .str ⟨#[d]⟩ q2 := by
        have := congrArg Array.toList e3
        simpa using this
      obtain ⟨rfl, rfl⟩ := ev
      rw [S_cps] at e1 e2
      exact kelt_walk hp rfl hns h1 h2 fun v tk => ⟨⟨c, d, v, e1, e2, rfl⟩, _, _, rfl, fun _ _ e => e⟩
  · intro ga h₅ tk gs hbare hlt hsz5 hk5 WS st
    refine spliced_nil ?_
    rw [S_size, S_size, passing_all] at WS
    rw [List.length_range] at WS
    have hW : s.heap.objs.size ≤ Z := by rw [← hZ]; exact W₂.size
    have h45' : s₄.heap.objs.size < h₅.objs.size := by rw [hsz5]; exact Nat.lt_succ_of_lt hlt
    refine with_gr (SC.joinGen WS.of_in1.of_in1 (fun i s' hst => ?_) st (fun c hc => ?_) (List.mem_cons_self ..) (fun i v ⟨j, _, c, d, t, _, _, e⟩ => ⟨_, _, e⟩) (fun s' l hmv hit => ⟨?_, fun t' tk' gr => ?_⟩) ?_)
    · obtain ⟨⟨o, x, y, h1, h2, _⟩, _⟩ := hst
      exact ⟨o, h1, h2⟩
    · show c < h₅.objs.size
      rcases List.mem_cons.mp hc with rfl | hc
      · rw [hsz5]; exact Nat.lt_succ_self _
      · rcases List.mem_cons.mp hc with rfl | hc
        · exact h45'
        · exact Nat.lt_trans (List.mem_range.mp hc) h45'
    · rw [items_keep rfl hit]
      exact joinOk_S (by rw [List.length_map, keepL, List.length_zipWith]; omega) fun l hl => by
        obtain ⟨c, _, rfl⟩ := List.mem_map.mp hl
        exact Nat.le_of_ble_eq_true rfl
    · rw [items_keep rfl hit, join_S]
      have ef : ((keepL a b).map fun c => [c]).flatten = keepL a b := by
        induction keepL a b with
        | nil => rfl
        | cons c r ih => rw [List.map_cons, List.flatten_cons, ih]; rfl
      rw [ef]
      refine ⟨F₄, ?_, .inl (.str ..)⟩
      have hgs : s.gens.size ≤ s₄.gens.size := W.gsz
      have h4s : s.heap.objs.size ≤ s₄.heap.objs.size := W.size
      have h45 : s₄.heap.objs.size ≤ h₅.objs.size := Nat.le_of_lt h45'
      have hwr : ∀ c : Nat, c ∈ s₄.heap.objs.size :: [Z + 4, Z + 3, Z, Z + 1] → Z ≤ c := fun c hc => by
        rcases List.mem_cons.mp hc with rfl | hc
        · omega
        · exact mem4 hc
      have hmid : ∀ c : Nat, c ∉ s₄.heap.objs.size :: [Z + 4, Z + 3, Z, Z + 1] → ∀ o, s₄.heap.get? c = some o → s'.heap.get? c = some o := fun c hc o e => hmv.heap c o hc (hk5 c o e)
      refine ⟨W.le, W.new, fun c h1 h2 o e => hmid c (fun m => ?_) o (W.heap c h1 h2 o e), Nat.le_trans h4s (Nat.le_trans h45 gr.1), fun i x _ e => ?_, ?_, ?_, ?_⟩
      · exact Nat.lt_irrefl _ (Nat.lt_of_lt_of_le (Heap.lt_size e) (Nat.le_trans hW (hwr c m)))
      · have e4 := W.gens i x (fun m => nomatch m) e
        have hi : i < s₄.gens.size := (Array.getElem?_eq_some_iff.mp e4).1
        have e5 : (s₄.gens.push gs)[i]? = some x := by rw [Array.getElem?_push, if_neg (by omega)]; exact e4
        rcases hmv.gens with h | ⟨⟨_, ho⟩, _⟩
        · show s'.gens[i]? = _
          rw [h]; exact e5
        · show s'.gens[i]? = _
          rw [ho i (by omega)]; exact e5
      · refine Nat.le_trans (Nat.le_trans hgs ?_) gr.2.1
        show _ ≤ (s₄.gens.push gs).size
        rw [Array.size_push]; exact Nat.le_succ _
      · show s'.os = s.os
        rw [hmv.os]; exact W.os
      · refine W.ok.step (T := s₄.heap.objs.size :: [Z + 4, Z + 3, Z, Z + 1]) (fun c hc => ⟨Nat.le_trans h207 (hwr c hc), ?_⟩) hmid (Nat.le_trans h45 gr.1) ((W.ok.bare.push hbare).moved hmv.gens)
        cases ee : F₄ c with
        | none => rfl
        | some o =>
          rcases W₄.new c o ee with h | h | h
          · exact absurd (I₂.ok.lt h) (Nat.not_lt.mpr (by rw [hZ]; exact hwr c hc))
          · have h5 : Z + 5 ≤ c := by rw [← hz]; exact h
            rcases List.mem_cons.mp hc with hc | hc
            · exact absurd (W.ok.lt ee) (by rw [hc]; exact Nat.lt_irrefl _)
            · exact absurd (mem4' hc) (Nat.not_lt.mpr h5)
          · exact nomatch h
    · have : sizeLine = 16777216 := rfl
      omega
end
end Mine
namespace Mine
open PySem PySem.Calls PyProof.Rows PySem.W
section
variable {w : World} {n : Nat} {env : Env} {fr : List Addr} {mc : Option MC} {σ : Sto}
theorem Op2.mulS {c k : Nat} (hk : k ≤ 1) : Op2 w n (binaryOp .Mult) (.str (S [c])) (.int (k : Nat)) (.str (S (List.replicate k c))) := fun A hA F s E mu x y ok hx hy => by
  obtain ⟨_, rfl⟩ := hx.str; obtain ⟨_, rfl⟩ := hy.int
  have : k = 0 ∨ k = 1 := by omega
  rcases this with rfl | rfl
  · exact PySem.P.mul_str_none (by decide) (by decide) ⟨F, Fw.toks ok _, .str ..⟩
  · exact PySem.P.mul_str (by decide) (fun _ h => nomatch h) (fun _ h => nomatch h) ⟨F, Fw.refl ok, .str ..⟩
theorem Op2.instr {x y : Str} {b : Bool} (h : (!(Builtin.Str.occurrences x y 0 x.length 1).isEmpty) = b) : Op2 w n (compareOp .In) (.str y) (.str x) (.bool b) := fun A hA F s E mu u v ok hx hy => by
  obtain ⟨_, rfl⟩ := hx.str; obtain ⟨_, rfl⟩ := hy.str
  exact PySem.P.in_str ⟨F, Fw.refl ok, by rw [h]; exact .bool _⟩
end
end Mine
namespace Mine
open PySem PySem.Calls PyProof.Rows PySem.W
section
variable {w : World} {n : Nat} {env : Env} {fr : List Addr} {mc : Option MC} {σ : Sto}
noncomputable def braceL (a b : List Nat) : List Nat := 123 :: (a ++ (125 :: b))
theorem Ev.brace {ex ey : Expr} {k0 k1 : Nat} {p0 p1 q0 q1 pos : Pos} {a b : List Nat} (hx : Ev w n env fr mc σ ex (.str (S a))) (hy : Ev w n env fr mc σ ey (.str (S b))) (ha : a.length ≤ 1000) (hb : b.length ≤ 1000) :
    Ev w n env fr mc σ (.JoinedStr [.Constant (.str (Str.ofString "{")) k0 p0, .FormattedValue ex 115 none q0, .Constant (.str (Str.ofString "}")) k1 p1, .FormattedValue ey 115 none q1] pos) (.str (S (braceL a b))) := fun A hA F s E mu I => by
  have e1 : Str.empty ++ Str.ofString "{" = S [123] := by rw [show Str.empty = S [] from rfl, show Str.ofString "{" = S [123] from rfl, S_append]; rfl
  have e2 : S [123] ++ S a = S (123 :: a) := by rw [S_append]; rfl
  have e3 : S (123 :: a) ++ Str.ofString "}" = S (123 :: (a ++ [125])) := by rw [show Str.ofString "}" = S [125] from rfl, S_append]; rfl
  have e4 : S (123 :: (a ++ [125])) ++ S b = S (braceL a b) := by rw [S_append, braceL]; simp
  have hsz : sizeLine = 16777216 := rfl
  refine JoinedStr_many (joinParts_cons (wpAny_Constant_str ⟨by rw [e1, S_length]; decide, ?_⟩))
  rw [e1]
  have W0 : Fw w [] F s F { s with toks := s.toks + 1 } := Fw.toks I.ok _
  refine joinParts_cons (wpAny_FormattedValue_s (hx.use hA (I.step W0) W0 fun v s₁ F₁ I₁ W₁ L₁ R₁ => ?_))
  obtain ⟨t, rfl⟩ := R₁.str
  refine SB.convS_str (hsz := by rw [S_length, hsz]; omega) fun t' k => formatField_str (hsz := by rw [S_length, hsz]; omega) fun t'' k' => ?_
  refine ⟨by rw [e2, S_length, List.length_cons, hsz]; omega, ?_⟩
  rw [e2]
  have W2 := W₁.trans (Fw.toks W₁.ok k')
  have I2 := I₁.step (Fw.toks W₁.ok k')
  refine joinParts_cons (wpAny_Constant_str ⟨by rw [e3, S_length, List.length_cons, List.length_append, hsz]; simp; omega, ?_⟩)
  rw [e3]
  have W3 := W2.trans (Fw.toks W2.ok (k' + 1))
  have I3 := I2.step (Fw.toks W2.ok (k' + 1))
  refine joinParts_cons (wpAny_FormattedValue_s (hy.use hA I3 W3 fun v s₄ F₄ I₄ W₄ L₄ R₄ => ?_))
  obtain ⟨t, rfl⟩ := R₄.str
  refine SB.convS_str (hsz := by rw [S_length, hsz]; omega) fun t' k2 => formatField_str (hsz := by rw [S_length, hsz]; omega) fun t'' k3 => ?_
  have l4 : (S (braceL a b)).length ≤ sizeLine := by rw [S_length, braceL, List.length_cons, List.length_append, List.length_cons, hsz]; omega
  refine ⟨by rw [e4]; exact l4, ?_⟩
  rw [e4]
  refine joinParts_nil (hsz := l4) ?_
  exact ⟨F₄, W₄.trans (Fw.toks W₄.ok _), .inl (.str ..)⟩
end
theorem ns_some_of {K : Frag} {h : Heap} {N : Addr} {mg : Str → Option Value} {n : Str} {v : Value} (X : K.In h) (G : h.Ns N mg) (e : nsIn K N n = some (some v)) : mg n = some v := by
  obtain ⟨o, es, ep, ho, hd, _, hf⟩ := G
  unfold nsIn at e
  split at e
  · rename_i c d es' n' sl q
    have := X _ _ q
    rw [ho] at this
    cases this
    cases hd
    split at e
    · rename_i en he
      rw [← hf]
      unfold nsFind findBy
      rw [← Array.find?_toList, he]
      exact Option.some.inj e
    · split at e <;> cases e
  · cases e
theorem Lim.under {n : Nat} {A : Around} (h : Lim (n + 1) A) (C : Addr) (vals : List Value) : Lim n (A.under (.builtin "type.__call__" ⟨.ref C :: vals, []⟩)) :=
  ⟨by have := h.1; show A.depth + 1 + n < 1000; omega, by have := h.2.1; show A.units + 1 + 10 * n < 9900; omega, h.2.2⟩
end Mine
namespace Mine
open PySem PySem.Calls PyProof.Rows PySem.W
theorem q_cls (w : World) : ∃ o, (KF w).lookup 137 = some o ∧ ∃ nm q bs sn sub col dd k0 k1 k2 k3 k5, o = (excClassObj nm q 137 136 bs [.type "object"] true sn sub false col dd k0 k1 k2 k3 k5 "object.__new__") := ⟨_, rfl, _, _, _, _, _, _, _, _, _, _, _, _, rfl⟩
theorem q_nsOk (w : World) : nsOkIn (KF w) 136 = true := by kernel_rfl
theorem OK.step2 {w : World} {F₀ F : Part} {s₀ s s' : Shared} (ok₀ : OK w F₀ s₀) (ok : OK w F s) {T : List Addr} (hT : ∀ a ∈ T, s₀.heap.get? a = none ∧ F a = none)
    (hk : ∀ a, a ∉ T → ∀ o, s.heap.get? a = some o → s'.heap.get? a = some o) (hsz : s.heap.objs.size ≤ s'.heap.objs.size) (hb : AllBare s'.gens) : OK w F s' := by
  have nT : ∀ a o, s₀.heap.get? a = some o → a ∉ T := fun a o e m => by rw [(hT a m).1] at e; cases e
  refine ⟨fun a o e => ⟨(ok.sub a o e).1, hk a (fun m => by rw [(hT a m).2] at e; cases e) o (ok.sub a o e).2⟩, fun a o e => hk a (nT a o (ok₀.K a o e)) o (ok.K a o e), ?_, ?_, ?_, ?_, ?_, Nat.le_trans ok.sz hsz, hb⟩
  · obtain ⟨mg, h⟩ := ok.glo
    obtain ⟨_, o, _, _, e, _⟩ := ok₀.glo
    exact ⟨mg, ns_at h (hk _ (nT _ _ e))⟩
  · obtain ⟨ob, h, r⟩ := ok.bm
    obtain ⟨_, e, _⟩ := ok₀.bm
    exact ⟨ob, hk _ (nT _ _ e) _ h, r⟩
  · obtain ⟨mb, h, r⟩ := ok.bui
    obtain ⟨_, ⟨o, _, _, e, _⟩, _⟩ := ok₀.bui
    exact ⟨mb, ns_at h (hk _ (nT _ _ e)), r⟩
  · obtain ⟨_, ⟨o, _, _, e, _⟩, _⟩ := ok₀.lim
    exact ok.lim.at (hk _ (nT _ _ e))
  · intro m hm
    obtain ⟨_, ⟨o, vs, file, tf, flags, tg, inF, text, tt, op, a1, r1, r2, r3, r4, r5, r6, a2, r⟩, _⟩ := ok₀.mks m hm
    have k1 := nT _ _ a1
    have k2 := nT _ _ a2
    obtain ⟨ps, ⟨o, vs, file, tf, flags, tg, inF, text, tt, op, a1, r1, r2, r3, r4, r5, r6, a2, r⟩, ⟨⟨o', vs', b1, q⟩, t⟩, hc⟩ := ok.mks m hm
    exact ⟨ps, ⟨o, vs, file, tf, flags, tg, inF, text, tt, op, hk _ k1 _ a1, r1, r2, r3, r4, r5, r6, hk _ k2 _ a2, r⟩, ⟨⟨o', vs', hk _ k1 _ b1, q⟩, hk _ k2 _ t⟩, hc⟩
theorem tab_some {w : World} {F : Part} {s : Shared} (ok : OK w F s) {a : Addr} (h : a ∈ TAB) : ∃ o, s.heap.get? a = some o := by
  have : ∃ m ∈ makers, m.P = a := by
    simp only [TAB, List.mem_cons, List.not_mem_nil, or_false] at h
    rcases h with rfl | rfl | rfl | rfl | rfl <;> simp [makers]
  obtain ⟨m, hm, rfl⟩ := this
  obtain ⟨_, ⟨o, vs, file, tf, flags, tg, inF, text, tt, op, a1, r1, r2, r3, r4, r5, r6, a2, r⟩, _⟩ := ok.mks m hm
  exact ⟨_, a2⟩
section
variable {w : World}
theorem callWith_q {A : Around} {E : Value → Shared → Prop} {s : Shared} {pos : Pos} {args : List (Bool × Sem Value)} {Q : Value → Shared → Prop} (hp : args.any (·.1) = false)
    (h : wpAny (model prog w) A (spliced args) (fun vs s₁ => (∃ F, OK w F s₁) ∧ wpAny (model prog w) A (call (.ref 137) vs) Q E s₁) E s) : wpAny (model prog w) A (callWith pos (.ref 137) [] args []) Q E s := by
  have hst : (args.any (fun x => x.fst) || ([] : List (Option Str × Sem Value)).any fun x => x.fst.isNone) = false := by
    rw [hp]; rfl
  unfold callWith
  refine wpAny_bind (wpAny_holding (evalArgs_any hp (wpAny_mono h (fun vs s₁ h₁ => ?_) fun _ _ x => x)))
  obtain ⟨⟨F, ok⟩, h₁⟩ := h₁
  obtain ⟨hh, g, d, t, os⟩ := s₁
  obtain ⟨o, ho, nm, q, bs, sn, sub, col, dd, k0, k1, k2, k3, k5, rfl⟩ := q_cls w
  have hC := ok.K _ _ ho
  have f1 := tc_lookup
  have hT : (⟨hh, g, d, t, os⟩ : Shared).TypeIs (.ref 137) "type" := ⟨_, hC, rfl⟩
  refine wpAny_bind (wpAny_standAt ?_)
  show wpAny _ _ (keeperOf (.ref 137) >>= _) _ _ _
  unfold keeperOf specialOf
  repeat (any_goals (first | assumption | with_reducible refine wpAny_loadPart_at hC ?_ | with_reducible refine wpAny_load' hC ?_ | wp_step))
  rw [if_pos (by rfl), hst]
  show wpAny _ _ (call (.ref 137) vs [] >>= fun r => do holding [r] point; pure r) _ _ _
  exact wpAny_bind (wpAny_mono h₁ (fun r s' hr => wpAny_bind (wpAny_holding (wpAny_point (wpAny_pure hr)))) fun _ _ x => x)
theorem fnEnter {n : Nat} {A : Around} {F : Part} {s : Shared} {f : Addr} {o : Obj} {fd : FuncData} {body : List Stmt} {R : Result → Shared → Prop} {vs : List Value} {avs : List AV} (xs : List String) (ok : OK w F s) (hA : Lim (n + 1) A) (r : RdL F vs avs)
    (ho : (KF w).lookup f = some o) (hd : o.data = .func fd) (hbody : fd.body = .stmts body)
    (hbind : ∀ (Q : List (Str × Value) → Shared → Prop) (E : Value → Shared → Prop), Q ((xs.map Str.ofString).zip vs) s → wpAny (model prog w) A.in1 (bindArgs fd ⟨vs, []⟩) Q E s)
    (hown : (xs.all fun x => own? fd.scope (Str.ofString x)) = true) (hcode : codeIn (KF w) fd.code fd.qualname = true)
    (hclo : fd.closure = []) (hgl : fd.globals = mainGlobals) (hbu : fd.builtins = builtinsNs) (hco : fd.scope.isCoroutine = false) (hgen : fd.scope.isGenerator = false) (hk : fd.scope.kind = .function)
    (hb : ∀ s₁, Inv w (fenv fd.scope fd.qualname f fd.code [] s.heap.objs.size) (frOf s.heap.objs.size fd.scope.names) none none F (bindsOf xs avs []) s₁ → (∀ a ∈ frOf s.heap.objs.size fd.scope.names, s.heap.objs.size ≤ a) →
      Fw w (frOf s.heap.objs.size fd.scope.names) F s F s₁ →
      wpAny (model prog w) (A.deeper (fenv fd.scope fd.qualname f fd.code [] s.heap.objs.size)) (execs body (fenv fd.scope fd.qualname f fd.code [] s.heap.objs.size)) (fun fl s₂ => R (.ok (.ret (match fl with | .ret v => v | _ => .none))) s₂) (fun _ _ => False) s₁) :
    codeAny (model prog w) A (.call (.ref f) ⟨vs, []⟩) R s := by
  refine codeAny_call_function hA.room (ok.K _ _ ho) hd hco hgen hbody (codeRec_of ok.K hcode) (hbind _ _ ?_)
  rw [hclo, hgl, hbu]
  refine newEnv_rule ok fun h' W hn hcell hpw hkeep => ?_
  have hc : (newEnv fd.scope s.heap.objs.size mainGlobals (cellsFrom (s.heap.objs.size + 1) fd.scope.names []) (fd.qualname ++ ".<locals>.") (some f) fd.code none builtinsNs) = fenv fd.scope fd.qualname f fd.code [] s.heap.objs.size := by
    unfold fenv newEnv ownC; simp
  have I : Inv w (fenv fd.scope fd.qualname f fd.code [] s.heap.objs.size) (frOf s.heap.objs.size fd.scope.names) none none F [] { s with heap := h' } :=
    Inv.fresh (closure := []) rfl rfl hk rfl rfl ok W hn hcell hpw hkeep ClosOk.nil trivial fun _ m => nomatch m
  rw [hc]
  have hfr : ∀ a ∈ frOf s.heap.objs.size fd.scope.names, s.heap.objs.size ≤ a := fun a ha => by
    rcases List.mem_cons.mp ha with rfl | ha
    · exact Nat.le_refl _
    · obtain ⟨⟨y, c⟩, hm, rfl⟩ := List.mem_map.mp ha
      exact Nat.le_of_lt (hcell y c hm).1
  refine bind_rule (n := n) _ (fun _ _ _ => rfl) xs vs avs F [] _ r I (fun x m => Wr.fn (List.all_eq_true.mp hown x m)) fun s₁ I₁ W₁ => ⟨W₁.ok.lim, ?_⟩
  refine codeAny_func (wpAny_mono (hb s₁ I₁ hfr ((W.wide (T := frOf s.heap.objs.size fd.scope.names)).trans W₁)) (fun fl s₂ hp => ?_) fun _ _ h => h.elim)
  cases fl <;> exact hp
end
end Mine
namespace Mine
open PySem PySem.Calls PyProof.Rows PySem.W
section
variable {w : World} {n : Nat} {env : Env} {fr : List Addr} {mc : Option MC} {σ : Sto}
theorem Op2.addlist {a b : List AV} (hz : a.length + b.length ≤ 100000) : Op2 w n (binaryOp .Add) (.list a) (.list b) (.list (a ++ b)) := fun A hA F s E mu x y ok hx hy => by
  obtain ⟨p, xs, k, rfl, hF, hr⟩ := hx.list
  obtain ⟨q, ys, k', rfl, hG, hr'⟩ := hy.list
  have h1 : xs.size = a.length := by simpa using hr.length
  have h2 : ys.size = b.length := by simpa using hr'.length
  have hsz : sizeLine = 16777216 := rfl
  refine PySem.P.add_list (ok.sub _ _ hF).2 (ok.sub _ _ hG).2 ?_ (by rw [h1, h2, hsz]; omega)
  exact ⟨F.put _ _, Fw.make ok (listO (xs ++ ys) 0) rfl s.toks, .list (Part.put_self ..) ((by simpa using hr.append hr' : RdL F (xs ++ ys).toList (a ++ b)).mono (Part.le_put (ok.old (Nat.le_refl _))))⟩
end
end Mine
namespace Mine
open PySem PySem.Calls PyProof.Rows PySem.W
/-- a segment of a generator's run: it ends, and its end is as Φ says -/
noncomputable def Sg (M : Model) (A : Around) (Φ : End → Shared → Prop) (c : Code) (t : Sem Fin) (fs : List Frame) (s : Shared) : Prop :=
  ∀ Γ p, Γ.code = c → Γ.Woken A → ∃ e s', Runs M Γ p t fs s e s' ∧ Φ e s'
section
variable {M : Model} {A : Around} {Φ : End → Shared → Prop} {c : Code} {fs : List Frame} {s : Shared}
theorem sg_wrap {α : Type} {m : Sem α} {K : α → Sem Fin} {H : Value → Sem Fin} {gd lv}
    (h : wpAny M (A.over c fs) m (fun a s' => Sg M A Φ c (K a) fs s') (fun _ _ => False) s) : Sg M A Φ c (m.wrap K H gd lv) fs s := by
  rintro Γ p rfl hΓ
  exact runs_wrap_of_wp K H gd lv m (h (Γ.over fs) p (hΓ.over fs)) (fun a p' s' h' => h' Γ p' rfl hΓ) (fun x p' s' h' => h'.elim)
theorem sg_bw {α β : Type} {m : Sem α} {K : α → Sem β} {K' : β → Sem Fin} {H' : Value → Sem Fin} {gd lv}
    (h : wpAny M (A.over c fs) m (fun a s' => Sg M A Φ c ((K a).wrap K' H' gd lv) fs s') (fun _ _ => False) s) : Sg M A Φ c ((m >>= K).wrap K' H' gd lv) fs s := by
  rw [Sem.bind_eq_wrap', Sem.wrap_wrap]; exact sg_wrap h
theorem sg_at {p' : Pos} {k : Unit → Sem Fin} (h : Sg M A Φ c (k ()) fs s) : Sg M A Φ c (.at p' k) fs s :=
  sg_wrap (m := standAt p') (K := k) (H := .raise) (gd := id) (lv := id) (wpAny_standAt h)
theorem sg_point {l : List Value} {k : Unit → Sem Fin} (h : Sg M A Φ c (k ()) fs s) : Sg M A Φ c (.point l k) fs s :=
  sg_wrap (m := point) (K := k) (H := .raise) (gd := id) (lv := fun _ => l) (wpAny_point h)
theorem sg_call {c' : Code} {h g l} {k : Result → Sem Fin} (hc : ∀ p, Sg M A Φ c' (M.den c') (.ret k h g l c p [] :: fs) s) : Sg M A Φ c (.call c' h g l k) fs s := by
  rintro Γ p rfl hΓ
  obtain ⟨e, s', hr, he⟩ := hc p (Γ.goto c') p rfl (hΓ.goto c')
  exact ⟨e, s', runs_call_seg hr, he⟩
theorem sg_leaf {k h g l c₁ p₁ kp} (r : Result) (hk : Sg M A Φ c₁ (k r) fs s) : Sg M A Φ c (leafOf r) (.ret k h g l c₁ p₁ kp :: fs) s := by
  rintro Γ p rfl hΓ
  obtain ⟨e, s', hr, he⟩ := hk (Γ.goto c₁) p₁ rfl (hΓ.goto c₁)
  exact ⟨e, s', Runs.pop r hr, he⟩
theorem sg_again {c' : Code} (hq : c'.quiet = true) (hc : Sg M A Φ c' (M.den c') fs s) : Sg M A Φ c (.pure (.again c')) fs s := by
  rintro Γ p rfl hΓ
  obtain ⟨e, s', hr, he⟩ := hc (Γ.goto c') p rfl (hΓ.goto c')
  exact ⟨e, s', Runs.head (c₁ := c') (fun _ _ x => .again hq x) hr, he⟩
theorem sg_end (r : Result) (h : Φ (.ret r) s) : Sg M A Φ c (leafOf r) [] s := by
  rintro Γ p rfl _
  exact ⟨.ret r, s, Runs.leaf r, h⟩
theorem sg_yield {v g l} {k : Resume → Sem Fin} (hfs : splitAtGen fs = none) (h : ∀ p, Φ (.susp v g l k c p fs) s) : Sg M A Φ c (.yield v g l k) fs s := by
  rintro Γ p rfl _
  exact ⟨_, s, Runs.yield' fs hfs, h p⟩
/-- a generator's state goes on -/
noncomputable def Wk (M : Model) (A : Around) (Φ : End → Shared → Prop) (gs : GenState) (s : Shared) : Prop :=
  match gs with
  | .fresh c => Sg M A Φ c (M.den c) [] s
  | .suspended k _ c _ fs _ => Sg M A Φ c (k (.send .none)) fs s
  | _ => False
theorem wake1 {A : Around} {E : Value → Shared → Prop} {g : Nat} {gs : GenState} {l : List Value} {α : Type} {k : GenResult → Sem α} {Q : α → Shared → Prop} (hg : s.gens[g]? = some gs)
    (hw : Wk M A Φ gs (s.setGen g .running)) (hq : ∀ e s', Φ e s' → e.quiet = true) (h : ∀ e s₁, Φ e s₁ → wpAny M A (k e.result) Q E (s₁.setGen g e.genState)) : wpAny M A (.resume g (.send .none) l k) Q E s := by
  intro Γ p hΓ
  rw [Sem.wp_resume]
  have hB : ∀ c, (Γ.wake c p).Woken A := fun c => hΓ.wake c p
  cases gs with
  | fresh c =>
    obtain ⟨e₁, s₁, hr, he⟩ := hw (Γ.wake c p) p rfl (hB c)
    exact ⟨_, _, by unfold Wakes; rw [hg]; exact ⟨e₁, s₁, hr, hq e₁ s₁ he, rfl, rfl⟩, h e₁ s₁ he Γ p hΓ⟩
  | suspended k₀ l₀ c₀ p₀ fs₀ cl =>
    obtain ⟨e₁, s₁, hr, he⟩ := hw (Γ.wake c₀ p) p₀ rfl (hB c₀)
    exact ⟨_, _, by unfold Wakes; rw [hg]; exact ⟨e₁, s₁, hr, hq e₁ s₁ he, rfl, rfl⟩, h e₁ s₁ he Γ p hΓ⟩
  | running => exact hw.elim
  | finished => exact hw.elim
end
section
variable {w : World} {A : Around} {E : Value → Shared → Prop} {s : Shared} {Φ : End → Shared → Prop}
theorem next_gen {a : Addr} {g : Nat} {gs : GenState} {Q : Option Value → Shared → Prop} (hh : A.handled = none) (hl : s.heap.NoLimit) (hroom : A.depth < recursionLimit) (hg : s.heap.IsGen a g) (hgs : s.gens[g]? = some gs)
    (hw : Wk (model prog w) A.in1 Φ gs (s.setGen g .running)) (hq : ∀ e s', Φ e s' → e.quiet = true)
    (hΦ : ∀ e s₁, Φ e s₁ → match e with
      | .ret r => r = .ok (.ret .none) ∧ ∀ h', (∀ b o, s₁.heap.get? b = some o → h'.get? b = some o) → Q none { s₁.setGen g .finished with heap := h' }
      | .susp v g₀ l k c p fs => Q (some v) (s₁.setGen g (End.susp v g₀ l k c p fs).genState)) : wpAny (model prog w) A (pyNext (.ref a)) Q E s := by
  unfold pyNext
  refine wpAny_bind (wpAny_attempt (wpAny_callSpecial?_slot (name := Str.ofString "__next__") hg.typeIs slot_gen_next
    (wpAny_call_entry slot_gen_next hg.typeIs entry_gen_next ?_ (args_gen_next _))))
  show wpAny _ A.in1 (Builtin.Generator.genWake (.ref a) (.send .none)) _ _ s
  unfold Builtin.Generator.genWake
  refine wpAny_bind (wpAny_holding (wpAny_genNumber hg (wpAny_bind (wpAny_genState hgs ?_))))
  cases gs with
  | running => exact hw.elim
  | finished => exact hw.elim
  | _ =>
    refine wpAny_bind (wpAny_roomToWake hl hroom ?_)
    show wpAny _ A.in1 (.resume g (.send .none) [] _) _ _ s
    refine wake1 hgs hw hq fun e s₁ he => ?_
    have hx := hΦ e s₁ he
    cases e with
    | susp v g₀ l k c p fs => exact wpAny_pure ⟨v, rfl, wpAny_pure hx⟩
    | ret r =>
      obtain ⟨rfl, hp⟩ := hx
      show wpAny _ A.in1 (newExc (.type "StopIteration") [] >>= _) _ _ _
      refine wpAny_bind ?_
      simp only [newExc, newTuple]
      refine wpAny_bind (wpAny_newObj_type ?_ (by size_fits))
      refine wpAny_bind (m := firstArgMember _ _) (wpAny_of_eq (a := Value.none) (by first | rfl | (simp only [firstArgMember]; rfl)) ?_)
      refine wpAny_newObj_type ?_ (by size_fits)
      simp only [raiseNew]
      refine wpAny_bind (wpAny_bind (wpAny_handled ?_))
      first | rw [show A.in1.handled = none from hh] | rw [hh]
      refine wpAny_throw ?_
      refine wpAny_bind (wpAny_isInstance (T := "StopIteration") (b := true) ⟨_, Heap.get?_push_size _ rfl, rfl⟩ isSubtype_stop ?_)
      exact wpAny_pure (hp _ fun b o hb => Heap.get?_push_of_some _ (Heap.get?_push_of_some _ hb))
end
/-- what a generator still gives -/
noncomputable def GY (w : World) (n : Nat) (g : Nat) : List AV → List Addr → GenState → Part → Shared → Prop
  | [], wr, gs, F, s => ItOk wr [] F s ∧ ∀ s₁ F₁, Fut w wr [] F s F₁ s₁ → ∀ A, Lim n A →
      Wk (model prog w) A (fun e s₂ => e = .ret (.ok (.ret .none)) ∧ ∃ F₂, FwG w wr [g] F₁ s₁ F₂ s₂) gs (s₁.setGen g .running)
  | v :: l, wr, gs, F, s => ItOk wr [] F s ∧ ∀ s₁ F₁, Fut w wr [] F s F₁ s₁ → ∀ A, Lim n A →
      Wk (model prog w) A (fun e s₂ => ∃ x g₀ l₀ k c p fs F₂ wr', e = .susp x g₀ l₀ k c p fs ∧ e.quiet = true ∧ FwG w wr [g] F₁ s₁ F₂ s₂ ∧ Rd F₂ x v ∧ (∀ a ∈ wr', a ∈ wr ∨ s₁.heap.objs.size ≤ a) ∧ GY w n g l wr' e.genState F₂ s₂) gs (s₁.setGen g .running)
end Mine
namespace Mine
open PySem PySem.Calls PyProof.Rows PySem.W
section
variable {w : World} {n : Nat} {wr : List Addr} {g : Nat} {F F' F'' : Part} {s s' s'' : Shared} {l : List AV} {gs : GenState}
theorem GY.ok (y : GY w n g l wr gs F s) : ItOk wr [] F s := by
  cases l <;> exact y.1
theorem GY.fut (y : GY w n g l wr gs F s) (h : Fut w wr [] F s F' s') : GY w n g l wr gs F' s' := by
  cases l with
  | nil => exact ⟨y.1.fut h, fun s₁ F₁ h₁ => y.2 s₁ F₁ (h.trans y.1 h₁)⟩
  | cons v l => exact ⟨y.1.fut h, fun s₁ F₁ h₁ => y.2 s₁ F₁ (h.trans y.1 h₁)⟩
theorem AllBare.set {gens : Array GenState} (x : AllBare gens) {g : Nat} {y : GenState} (hy : y.bare = true) : AllBare (gens.setIfInBounds g y) := fun z hz => by
  obtain ⟨i, hi, rfl⟩ := Array.mem_iff_getElem.mp hz
  have hi' : i < gens.size := by rw [Array.size_setIfInBounds] at hi; exact hi
  rw [Array.getElem_setIfInBounds hi']
  split
  · exact hy
  · exact x _ (Array.getElem_mem hi')
theorem setG_self {g : Nat} {y : GenState} (h : g < s.gens.size) : (s.setGen g y).gens[g]? = some y := by simp [Shared.setGen, h]
theorem FwG.setG (ok : OK w F s) (g : Nat) {y : GenState} (hy : y.bare = true) : FwG w [] [g] F s F (s.setGen g y) where
  le := .refl F
  new := fun _ _ e => .inl e
  heap := fun _ _ _ _ e => e
  size := Nat.le_refl _
  gens := fun i x hi e => by
    show (s.gens.setIfInBounds g y)[i]? = some x
    rw [Array.getElem?_setIfInBounds, if_neg (fun h => hi (by simp [h]))]; exact e
  gsz := by show _ ≤ (s.gens.setIfInBounds g y).size; rw [Array.size_setIfInBounds]; exact Nat.le_refl _
  os := rfl
  ok := { ok with bare := AllBare.set ok.bare hy }
theorem OK.stepz (ok : OK w F s) (hk : ∀ a o, s.heap.get? a = some o → s'.heap.get? a = some o) (hsz : 207 ≤ s'.heap.objs.size) (hb : AllBare s'.gens) : OK w F s' := by
  refine ⟨fun a o e => ⟨(ok.sub a o e).1, hk a o (ok.sub a o e).2⟩, fun a o e => hk a o (ok.K a o e), ?_, ?_, ?_, ?_, ?_, hsz, hb⟩
  · obtain ⟨mg, h⟩ := ok.glo; exact ⟨mg, ns_at h (hk _)⟩
  · obtain ⟨ob, h, r⟩ := ok.bm; exact ⟨ob, hk _ _ h, r⟩
  · obtain ⟨mb, h, r⟩ := ok.bui; exact ⟨mb, ns_at h (hk _), r⟩
  · exact ok.lim.at (hk _)
  · exact fun m hm => (ok.mks m hm).keep (fun a _ => hk a) ⟨(makers_lt m hm).1, (makers_lt m hm).2.1⟩
theorem Yg.of_gen {a : Addr} {o : Obj} {nm qn : Value} (hc : o.cls = .type "generator") (hd : o.data = .fields #[.int g 0, nm, qn]) (hsl : o.slots = #[]) : ∀ (l : List AV) (gs : GenState) (wr : List Addr) (F : Part) (s : Shared), OK w F s → F a = some o →
    s.gens[g]? = some gs → GY w n g l wr gs F s → Yg w (n + 1) (.ref a) [g] l wr F s := by
  have ig : ∀ {F s}, OK w F s → F a = some o → s.heap.IsGen a g := fun ok e => ⟨o, nm, qn, (ok.sub a o e).2, hc, hd, hsl⟩
  have itok : ∀ {wr F s gs}, ItOk wr [] F s → s.gens[g]? = some gs → ItOk wr [g] F s := fun h e => ⟨h.wr, fun i hi => by rw [List.mem_singleton.mp hi]; exact (Array.getElem?_eq_some_iff.mp e).1⟩
  have fut : ∀ {wr F s F₁ s₁ gs}, Fut w wr [g] F s F₁ s₁ → s.gens[g]? = some gs → s₁.gens[g]? = some gs ∧ Fut w wr [] F s F₁ s₁ ∧ OK w F₁ s₁ ∧ F.Le F₁ := fun ⟨T, G', x, hT, hG⟩ e =>
    ⟨x.gens g _ (fun m => hG g m (.head _)) e, ⟨T, G', x, hT, fun _ _ h => nomatch h⟩, x.ok, x.le⟩
  intro l
  induction l with
  | nil =>
    intro gs wr F s ok hF hgs y
    refine ⟨itok y.ok hgs, fun s₁ F₁ hf A hA E => ?_⟩
    obtain ⟨hgs₁, hf', ok₁, hle⟩ := fut hf hgs
    refine with_gr (next_gen hA.2.2 ok₁.lim hA.room (ig ok₁ (hle _ _ hF)) hgs₁ (y.2 s₁ F₁ hf' A.in1 hA.in1) (fun e s' h => by rw [h.1]; rfl) fun e s₂ h => ?_)
    obtain ⟨rfl, F₂, W⟩ := h
    refine ⟨rfl, fun h' hk gr => ⟨rfl, F₂, ?_⟩⟩
    have W2 := W.trans ((FwG.setG W.ok g (y := .finished) rfl).mono (fun _ m => nomatch m) fun _ m => m)
    exact ⟨W2.le, W2.new, fun c h1 h2 oo e => hk c oo (W2.heap c h1 h2 oo e), gr.1, W2.gens, W2.gsz, W2.os, W2.ok.stepz (fun c oo e => hk c oo e) (Nat.le_trans ok₁.sz gr.1) W2.ok.bare⟩
  | cons v l ih =>
    intro gs wr F s ok hF hgs y
    refine ⟨itok y.ok hgs, fun s₁ F₁ hf A hA E => ?_⟩
    obtain ⟨hgs₁, hf', ok₁, hle⟩ := fut hf hgs
    refine next_gen hA.2.2 ok₁.lim hA.room (ig ok₁ (hle _ _ hF)) hgs₁ (y.2 s₁ F₁ hf' A.in1 hA.in1) (fun e s' ⟨_, _, _, _, _, _, _, _, _, _, h, _⟩ => h) fun e s₂ h => ?_
    obtain ⟨x, g₀, l₀, k, c, p, fs, F₂, wr', rfl, hq, W, hr, hwr, y'⟩ := h
    have hb := End.bare_of_quiet hq
    have W2 := W.trans ((FwG.setG W.ok g hb).mono (fun _ m => nomatch m) fun _ m => m)
    have hlt : g < s₂.gens.size := Nat.lt_of_lt_of_le (Array.getElem?_eq_some_iff.mp hgs₁).1 W.gsz
    exact ⟨x, F₂, wr', rfl, W2, hr, hwr, ih _ wr' F₂ _ W2.ok (W.le _ _ (hle _ _ hF)) (setG_self hlt) (y'.fut (Fut.of (FwG.setG W.ok g hb) (fun _ m => nomatch m) fun _ _ h => nomatch h))⟩
end
end Mine
namespace Mine
open PySem PySem.Calls PyProof.Rows PySem.W
noncomputable def PhiG (w : World) (n g : Nat) : List AV → List Addr → Part → Shared → End → Shared → Prop
  | [], wr, F₁, s₁ => fun e s₂ => e = .ret (.ok (.ret .none)) ∧ ∃ F₂, FwG w wr [g] F₁ s₁ F₂ s₂
  | v :: l, wr, F₁, s₁ => fun e s₂ => ∃ x g₀ l₀ k c p fs F₂ wr', e = .susp x g₀ l₀ k c p fs ∧ e.quiet = true ∧ FwG w wr [g] F₁ s₁ F₂ s₂ ∧ Rd F₂ x v ∧ (∀ a ∈ wr', a ∈ wr ∨ s₁.heap.objs.size ≤ a) ∧ GY w n g l wr' e.genState F₂ s₂
theorem GY.of {w : World} {n g : Nat} {l : List AV} {wr : List Addr} {gs : GenState} {F : Part} {s : Shared} (h0 : ItOk wr [] F s)
    (h : ∀ s₁ F₁, Fut w wr [] F s F₁ s₁ → ∀ A, Lim n A → Wk (model prog w) A (PhiG w n g l wr F₁ s₁) gs (s₁.setGen g .running)) : GY w n g l wr gs F s := by
  cases l with
  | nil => exact ⟨h0, h⟩
  | cons v l => exact ⟨h0, h⟩
noncomputable def ClF (env : Env) (fr : List Addr) (F : Part) : Prop := ∀ y c, env.cells.lookup y = some c → c ∈ fr ∨ ∃ o, F c = some o
theorem ClF.mono {env : Env} {fr : List Addr} {F F' : Part} (h : ClF env fr F) (hl : F.Le F') : ClF env fr F' := fun y c e => (h y c e).imp id fun ⟨o, e⟩ => ⟨o, hl _ _ e⟩
theorem Inv.stepG {w : World} {env : Env} {fr : List Addr} {F F' : Part} {σ : Sto} {s s' : Shared} (I : Inv w env fr none none F σ s) {T : List Addr} {G : List Nat} (x : FwG w T G F s F' s') (hT : ∀ a ∈ T, a ∉ fr) (hcl : ClF env fr F) : Inv w env fr none none F' σ s' := by
  have hk : ∀ a, 207 ≤ a → a ∉ T → ∀ o, s.heap.get? a = some o → s'.heap.get? a = some o := fun a ha => x.heap a (ge_notTab ha)
  have hloc : 207 ≤ env.locals := (I.fr0 _ I.fro.lfr).1
  have hlT : env.locals ∉ T := fun m => hT _ m I.fro.lfr
  have hcT : ∀ y c, env.cells.lookup y = some c → ∀ o, s.heap.get? c = some o → s'.heap.get? c = some o := fun y c e o ho => by
    rcases hcl y c e with h | ⟨o', h⟩
    · exact hk c (I.cel y c e).1 (fun m => hT _ m h) o ho
    · have := (I.ok.sub c o' h).2
      rw [ho] at this; cases this
      exact (x.ok.sub c o (x.le _ _ h)).2
  refine ⟨x.ok, I.fro, fun a ha => ?_, trivial, ?_, fun y c e => ?_, fun p hp => ?_⟩
  · obtain ⟨h1, h2, h3⟩ := I.fr0 a ha
    exact ⟨h1, I.nin x h2 h3 (fun m => hT a m ha), Nat.lt_of_lt_of_le h3 x.size⟩
  · obtain ⟨m, h⟩ := I.loc
    exact ⟨m, ns_at h (hk _ hloc hlT)⟩
  · obtain ⟨h1, h2, v, h3⟩ := I.cel y c e
    exact ⟨h1, h2, v, isCell_at h3 (hcT y c e)⟩
  · obtain ⟨v, h1, h2⟩ := I.vars p hp
    refine ⟨v, ?_, h2.mono x.le⟩
    rcases h1 with ⟨hk1, m, hm, e⟩ | ⟨hk1, c, hc, hcell⟩
    · exact .inl ⟨hk1, m, ns_at hm (hk _ hloc hlT), e⟩
    · exact .inr ⟨hk1, c, hc, isCell_at hcell (hcT _ c hc)⟩
section
variable {w : World} {n g : Nat} {genv : Env} {fr wr : List Addr} {σ : Sto} {it : Value} {fs : List Frame} {x : String} {px yp ep ip : Pos} {stA : Stmt} {test ye : Expr} {p : AV → Bool} {σ' : AV → Sto}
noncomputable abbrev gbody (stA : Stmt) (test ye : Expr) (yp ep ip : Pos) : List Stmt := [stA, .If test [.Expr (.Yield (some ye) yp) ep] [] ip]
theorem loopG (hfs : splitAtGen fs = none) (hfg : fs.any Frame.guarded = false)
    (hov : ∀ A, Lim (n + 2) A → Lim n (A.over (.forLoop (.Name (Str.ofString x) px) it (gbody stA test ye yp ep ip) [] genv) fs))
    (hend : ∀ A Φ s c, Φ (.ret (.ok (.ret .none))) s → Sg (model prog w) A Φ c (.pure (.done .next)) fs s)
    (hw : Wr genv fr (Str.ofString x)) (hco : genv.scope.isCoroutine = false) (hi : interactive genv = false) :
    ∀ (its : List AV) (F : Part) (s : Shared) (F₀ : Part) (s₀ : Shared) (wrS : List Addr) (A : Around),
    (∀ v ∈ its, Es w n genv fr none (upd σ x v) stA (.nxt none (σ' v)) ∧ (∀ q ∈ σ, q ∈ σ' v) ∧ Et w n genv fr none (σ' v) test (p v) ∧ (p v = true → Ev w n genv fr none (σ' v) ye v) ∧ v ≠ .mu) →
    Lim (n + 2) A → Inv w genv fr none none F σ s → Ys w n it wr [] its F s → FwG w wrS [g] F₀ s₀ F s → (∀ a ∈ fr, a ∈ wrS) → (∀ a ∈ wr, a ∈ wrS ∨ s₀.heap.objs.size ≤ a) → (∀ a ∈ wr, a ∉ fr) → ClF genv fr F →
    Sg (model prog w) A (PhiG w (n + 2) g (its.filter p) wrS F₀ s₀) (.forLoop (.Name (Str.ofString x) px) it (gbody stA test ye yp ep ip) [] genv)
      ((model prog w).den (.forLoop (.Name (Str.ofString x) px) it (gbody stA test ye yp ep ip) [] genv)) fs s := by
  intro its
  induction its with
  | nil =>
    intro F s F₀ s₀ wrS A hv hA I Y W hfrS hwS hwf hcl
    show Sg _ A _ _ ((forTurn (.Name (Str.ofString x) px) it (gbody stA test ye yp ep ip) [] genv).onRaise (fun x => do noteFrame x genv; theTreesLotGoes x)) fs s
    unfold forTurn
    rw [Sem.onRaise_eq_wrap]
    refine sg_bw (wpAny_standAt ?_)
    refine sg_bw (wpAny_onRaise (wpAny_mono (Y.2 s F (Fut.here I.ok) _ (hov A hA) (fun _ _ => False)) (fun r s₂ ⟨hr, F₂, W₂⟩ => ?_) fun _ _ h => h.elim))
    subst hr
    refine sg_again rfl ?_
    refine hend _ _ _ _ ⟨rfl, F₂, ?_⟩
    exact W.trans' (W₂.mono (G' := [g]) (fun _ m => m) (fun _ m => nomatch m)) hwS (fun _ m => .inl m)
  | cons v its ih =>
    intro F s F₀ s₀ wrS A hv hA I Y W hfrS hwS hwf hcl
    obtain ⟨h1, h2, h3, h4, h5⟩ := hv v (.head _)
    have hv' := fun u m => hv u (List.mem_cons_of_mem _ m)
    show Sg _ A _ _ ((forTurn (.Name (Str.ofString x) px) it (gbody stA test ye yp ep ip) [] genv).onRaise (fun x => do noteFrame x genv; theTreesLotGoes x)) fs s
    unfold forTurn
    rw [Sem.onRaise_eq_wrap]
    refine sg_bw (wpAny_standAt ?_)
    refine sg_bw (wpAny_onRaise (wpAny_mono (Y.2 s F (Fut.here I.ok) _ (hov A hA) (fun _ _ => False)) (fun r s₁ ⟨xv, F₁, hr, W₁, R₁, Y₁⟩ => ?_) fun _ _ h => h.elim))
    subst hr
    have I₁ := I.stepG W₁ hwf hcl
    have hcl₁ := hcl.mono W₁.le
    refine sg_bw (wpAny_of_eq (rfl : letOwnedTupleGo (.Name (Str.ofString x) px) it xv = pure ()) ?_)
    refine sg_bw (wpAny_assign_Name (I₁.store hw (.inl R₁) fun s₂ I₂ W₂ _ => ?_))
    have hW1 : FwG w wrS [g] F₀ s₀ F₁ s₁ := W.trans' (W₁.mono (G' := [g]) (fun _ m => m) (fun _ m => nomatch m)) hwS (fun _ m => .inl m)
    have hW2 : FwG w wrS [g] F₀ s₀ F₁ s₂ := hW1.trans (W₂.mono (G' := [g]) hfrS (fun _ m => nomatch m))
    rw [Sem.bind_eq_wrap', Sem.wrap_wrap, execs_cons_wrap]
    refine sg_wrap (wpAny_mono (h1 _ (hov A hA) F₁ s₂ (fun _ _ => False) none I₂) (fun fl s₃ ⟨F₃, W₃, hfl, mu', I₃, _⟩ => ?_) fun _ _ h => h)
    subst hfl
    obtain rfl := muNone I₃
    have W₃' : Fw w fr F₁ s₂ F₃ s₃ := W₃.mono fun a m => by simpa using m
    have hW3 : FwG w wrS [g] F₀ s₀ F₃ s₃ := hW2.trans (W₃'.mono (G' := [g]) hfrS (fun _ m => nomatch m))
    dsimp only
    rw [execs_cons_wrap, exec_If]
    refine sg_bw (wpAny_standAt ?_)
    refine sg_bw (wpAny_mono (h3 _ (hov A hA) F₃ s₃ (fun _ _ => False) none I₃) (fun b s₄ ⟨hb, F₄, W₄⟩ => ?_) fun _ _ h => h)
    subst hb
    have I₄ := I₃.step W₄
    have hW4 : FwG w wrS [g] F₀ s₀ F₄ s₄ := hW3.trans W₄.wide
    have hfrwr : ∀ a ∈ fr, a ∉ wr := fun a m h => hwf a h m
    have Y₄ : Ys w n it wr [] its F₄ s₄ := ((Y₁.fut (Fut.of W₂ hfrwr (fun _ m => nomatch m))).fut (Fut.of W₃' hfrwr (fun _ m => nomatch m))).fut (Fut.of W₄ (fun _ m => nomatch m) (fun _ m => nomatch m))
    have hcl₄ := ((hcl₁.mono W₂.le).mono W₃.le).mono W₄.le
    have I₄' := I₄.weaken h2
    cases hpv : p v with
    | false =>
      simp only [Bool.false_eq_true, if_false]
      rw [List.filter_cons_of_neg (by simp [hpv])]
      exact sg_again rfl (ih F₄ s₄ F₀ s₀ wrS A hv' hA I₄' Y₄ hW4 hfrS hwS hwf hcl₄)
    | true =>
      simp only [if_true]
      rw [List.filter_cons_of_pos hpv]
      rw [execs_cons_wrap]
      rw [exec_Expr genv _ ep hi rfl]
      have hy : ∀ v, yieldOut genv v = yieldValue v := fun v => by simp only [yieldOut, hco, Bool.false_eq_true, if_false]
      refine sg_bw (wpAny_standAt ?_)
      show Sg _ A _ _ (Sem.wrap _ _ _ _ ((eval ye genv >>= fun v => (standAt yp >>= fun _ => yieldOut genv v)) >>= fun x => dropValue (.Yield (some ye) yp) ep x)) fs s₄
      simp only [hy]
      rw [Sem.bind_eq_wrap', Sem.bind_eq_wrap', Sem.wrap_wrap, Sem.wrap_wrap]
      refine sg_wrap (wpAny_mono (h4 hpv _ (hov A hA) F₄ s₄ (fun _ _ => False) none I₄) (fun yv s₅ ⟨F₅, W₅, R₅⟩ => ?_) fun _ _ h => h)
      have I₅ := I₄'.step W₅
      have hW5 : FwG w wrS [g] F₀ s₀ F₅ s₅ := hW4.trans W₅.wide
      have Y₅ : Ys w n it wr [] its F₅ s₅ := Y₄.fut (Fut.of W₅ (fun _ m => nomatch m) (fun _ m => nomatch m))
      have hcl₅ := hcl₄.mono W₅.le
      refine sg_at (sg_yield hfs fun pp => ?_)
      refine ⟨_, _, _, _, _, _, _, F₅, fr ++ wr, rfl, by simp [End.quiet, hfg], hW5, R₅.rd h5, fun a m => ?_, GY.of ?_ fun s₆ F₆ hf A' hA' => ?_⟩
      · rcases List.mem_append.mp m with m | m
        · exact .inl (hfrS a m)
        · exact hwS a m
      · refine ⟨fun a m => ?_, fun _ m => nomatch m⟩
        rcases List.mem_append.mp m with m | m
        · exact I₅.fr0 a m
        · exact Y₅.ok.wr a m
      · obtain ⟨T, G', X, hT, _⟩ := hf
        have S6 := FwG.setG X.ok g (y := .running) rfl
        have X' := (X.mono (T' := T) (G' := G' ++ [g]) (fun _ m => m) (fun _ m => List.mem_append.mpr (.inl m))).trans (S6.mono (T' := T) (G' := G' ++ [g]) (fun _ m => nomatch m) (fun _ m => List.mem_append.mpr (.inr m)))
        have hTf : ∀ a ∈ T, a ∉ fr := fun a m h => hT a m (List.mem_append.mpr (.inl h))
        have I₆ := I₅.stepG X' hTf hcl₅
        have Y₆ := Y₅.fut (Fut.of X' (fun a m h => hT a m (List.mem_append.mpr (.inr h))) (fun _ _ h => nomatch h))
        exact sg_again rfl (ih F₆ (s₆.setGen g .running) F₆ s₆ (fr ++ wr) A' hv' hA' I₆ Y₆ (S6.mono (fun _ m => nomatch m) fun _ m => m) (fun a m => List.mem_append.mpr (.inl m)) (fun a m => .inl (List.mem_append.mpr (.inr m))) hwf (hcl₅.mono X'.le))
end
end Mine
namespace Mine
open PySem PySem.Calls PyProof.Rows PySem.W
section
variable {w : World} {n : Nat} {env : Env} {fr : List Addr} {mc : Option MC} {σ : Sto}
theorem itl {e : Expr} {l : List AV} (h : Ev w n env fr mc σ e (.list l)) {A : Around} (hA : Lim n A) {F : Part} {s : Shared} {E : Value → Shared → Prop} {mu : Mu} (I : Inv w env fr mc mu F σ s) :
    wpAny (model prog w) A (eval e env) (fun xv s₁ => wpAny (model prog w) A (pyIter xv) (fun it s₂ => ∃ F₂ wr, Fw w [] F s F₂ s₂ ∧ (∀ a ∈ wr, s.heap.objs.size ≤ a) ∧ Ys w n it wr [] l F₂ s₂) E s₁) E s :=
  h.use hA I (Fw.refl I.ok) fun v s₁ F₁ I₁ W₁ L₁ R₁ => by
    obtain ⟨a, xs, k, rfl, hF, hr⟩ := R₁.list
    have hl := I₁.ok.isList hF
    refine wpAny_pyIter_list hl ?_
    have W₂ : Fw w [] F₁ s₁ F₁ { s₁ with heap := s₁.heap.push { cls := .type "list_iterator", data := .fields #[.ref a, .int 0 0] } } :=
      Fw.grow I₁.ok (fun _ _ e => Heap.get?_push_of_some _ e) (by rw [Heap.size_push]; exact Nat.le_succ _) rfl rfl
    have hne : a ≠ s₁.heap.objs.size := Nat.ne_of_lt (I₁.ok.lt hF)
    refine ⟨F₁, [s₁.heap.objs.size], W₁.trans W₂, fun b m => by rw [List.mem_singleton.mp m]; exact W₁.size, ?_⟩
    refine (Ys.of_walks (L := l) (N := xs.size) (fun A hA => Walks.list hA.2.2 s₁.heap.objs.size a hne xs) (by rw [← hr.length]; simp) xs.size 0 F₁ _ rfl (Nat.zero_le _) W₂.ok
      ⟨⟨_, Heap.get?_push_size _ rfl, rfl, rfl⟩, W₂.ok.isList hF⟩ (fun b m => ?_) (fun b m => ?_) fun i v hi hv => ?_).1
    · rw [List.mem_singleton.mp m]
      exact ⟨I₁.ok.sz, I₁.ok.old (Nat.le_refl _), by show _ < (s₁.heap.push _).objs.size; rw [Heap.size_push]; exact Nat.lt_succ_self _⟩
    · rcases List.mem_cons.mp m with rfl | m
      · exact .inl (.head _)
      · rw [List.mem_singleton.mp m]; exact .inr ⟨_, hF⟩
    · exact hr.get' (by simpa using hv)
end
section
variable {w : World} {n g : Nat} {genv : Env} {fr : List Addr} {σ : Sto} {x : String} {px yp ep ip rp fp : Pos} {stA : Stmt} {test ye : Expr} {p : AV → Bool} {σ' : AV → Sto}
theorem GY.fresh {its : List AV} {F : Part} {s : Shared} (I : Inv w genv fr none none F σ s) (hcl : ClF genv fr F) (hres : Ev w n genv fr none σ (.Name (Str.ofString "result") rp) (.list its))
    (hw : Wr genv fr (Str.ofString x)) (hco : genv.scope.isCoroutine = false) (hi : interactive genv = false)
    (hv : ∀ v ∈ its, Es w n genv fr none (upd σ x v) stA (.nxt none (σ' v)) ∧ (∀ q ∈ σ, q ∈ σ' v) ∧ Et w n genv fr none (σ' v) test (p v) ∧ (p v = true → Ev w n genv fr none (σ' v) ye v) ∧ v ≠ .mu) :
    GY w (n + 2) g (its.filter p) fr (.fresh (.func [.For (.Name (Str.ofString x) px) (.Name (Str.ofString "result") rp) (gbody stA test ye yp ep ip) [] fp] genv)) F s := by
  refine GY.of ⟨fun a m => I.fr0 a m, fun _ m => nomatch m⟩ fun s₁ F₁ hf A hA => ?_
  obtain ⟨T, G', X, hT, _⟩ := hf
  have S1 := FwG.setG X.ok g (y := .running) rfl
  have X' := (X.mono (T' := T) (G' := G' ++ [g]) (fun _ m => m) (fun _ m => List.mem_append.mpr (.inl m))).trans (S1.mono (T' := T) (G' := G' ++ [g]) (fun _ m => nomatch m) (fun _ m => List.mem_append.mpr (.inr m)))
  have I₁ := I.stepG X' hT hcl
  have hcl₁ := hcl.mono X'.le
  show Sg _ A _ (.func [.For (.Name (Str.ofString x) px) (.Name (Str.ofString "result") rp) (gbody stA test ye yp ep ip) [] fp] genv) (.point [] fun _ => ((execs [.For (.Name (Str.ofString x) px) (.Name (Str.ofString "result") rp) (gbody stA test ye yp ep ip) [] fp] genv).onRaise (leaving genv)) >>= _) [] _
  refine sg_point ?_
  have hA1 : Lim n (A.over (.func [.For (.Name (Str.ofString x) px) (.Name (Str.ofString "result") rp) (gbody stA test ye yp ep ip) [] fp] genv) []) :=
    ⟨by have := hA.1; show A.depth + 0 + 1 + n < 1000; omega, by have := hA.2.1; show A.units + 0 + 3 + 10 * n < 9900; omega, hA.2.2⟩
  rw [Sem.onRaise_eq_wrap, Sem.bind_eq_wrap', Sem.wrap_wrap, execs_cons_wrap, exec_For]
  refine sg_bw (wpAny_standAt ?_)
  refine sg_bw (wpAny_mono (itl hres hA1 (E := fun _ _ => False) I₁) (fun xv s₂ h₂ => ?_) fun _ _ h => h)
  refine sg_bw (wpAny_of_eq (rfl : foldedSetIterable (.Name (Str.ofString "result") rp) genv xv = pure xv) ?_)
  refine sg_bw (wpAny_standAt ?_)
  refine sg_bw (wpAny_holding (wpAny_mono h₂ (fun it s₃ ⟨F₃, wr, W₃, hwr, Y⟩ => ?_) fun _ _ h => h))
  refine sg_call fun pp => ?_
  refine loopG (by rfl) (by rfl) (fun A' hA' => ?_) (fun A' Φ s' c hΦ => ?_) hw hco hi its F₃ s₃ F₁ s₁ fr A hv hA (I₁.step W₃) Y ((S1.mono (T' := fr) (fun _ m => nomatch m) fun _ m => m).trans W₃.wide) (fun _ m => m) (fun a m => .inr (hwr a m)) (fun a m h => ?_) (hcl₁.mono W₃.le)
  · exact ⟨by have := hA'.1; show A'.depth + 1 + 0 + n < 1000; omega, by have := hA'.2.1; show A'.units + 3 + 0 + 10 * n < 9900; omega, hA'.2.2⟩
  · exact sg_leaf (.ok .next) (sg_end (.ok (.ret .none)) hΦ)
  · exact Nat.lt_irrefl _ (Nat.lt_of_lt_of_le (I₁.fr0 a h).2.2 (hwr a m))
end
end Mine
namespace Mine
open PySem PySem.Calls PyProof.Rows PySem.W
/-- a frozen closure -/
structure CloOk (F : Part) (fv : Value) (q : Str) (params : Arguments) (body : List Stmt) (scope : Scope) (cl : List (Str × Addr)) (σc : Sto) : Prop where
  rd : Rd F fv (.fn q params body scope cl)
  cell : ∀ y c, cl.lookup y = some c → 207 ≤ c ∧ ∃ o v, F c = some o ∧ o.data = .cell v
  inj : ∀ x y c, cl.lookup x = some c → cl.lookup y = some c → x = y
  vars : ∀ p ∈ σc, ∃ c o val, cl.lookup (Str.ofString p.1) = some c ∧ F c = some o ∧ o.data = .cell (some val) ∧ Rd F val p.2
theorem CloOk.mono {F F' : Part} {fv : Value} {q : Str} {params : Arguments} {body : List Stmt} {scope : Scope} {cl : List (Str × Addr)} {σc : Sto} (h : CloOk F fv q params body scope cl σc) (l : F.Le F') : CloOk F' fv q params body scope cl σc :=
  ⟨h.rd.mono l, fun y c e => let ⟨a, o, v, b, d⟩ := h.cell y c e; ⟨a, o, v, l _ _ b, d⟩, h.inj, fun p hp => let ⟨c, o, val, a, b, d, e⟩ := h.vars p hp; ⟨c, o, val, a, l _ _ b, d, e.mono l⟩⟩
noncomputable def FnS (w : World) (n : Nat) (f : Addr) (args : List AV) (q : Str) (params : Arguments) (body : List Stmt) (scope : Scope) (σc : Sto) : Prop :=
  ∀ A, Lim n A → ∀ F s vs E, OK w F s → RdL F vs args → wpAny (model prog w) A (call (.ref f) vs) (fun x s' => ∃ F' cl, Fw w [] F s F' s' ∧ CloOk F' x q params body scope cl σc) E s
section
variable {w : World}
theorem FwG.freezeL {T : List Addr} {G : List Nat} {F : Part} {s s' : Shared} : ∀ (l : List Addr) {F' : Part}, FwG w T G F s F' s' → (∀ a ∈ l, a ∉ TAB ∧ s.heap.objs.size ≤ a ∧ ∃ o, s'.heap.get? a = some o) →
    ∃ F'', FwG w T G F s F'' s' ∧ F'.Le F'' ∧ ∀ a ∈ l, F'' a = s'.heap.get? a
  | [], F', X, _ => ⟨F', X, .refl _, fun _ m => nomatch m⟩
  | a :: l, F', X, h => by
    obtain ⟨F₁, X₁, l₁, h₁⟩ := FwG.freezeL l X fun b m => h b (List.mem_cons_of_mem _ m)
    obtain ⟨hT, hz, o, ho⟩ := h a (.head _)
    cases e : F₁ a with
    | some o' =>
      have := (X₁.ok.sub a o' e).2
      exact ⟨F₁, X₁, l₁, fun b m => by
        rcases List.mem_cons.mp m with rfl | m
        · rw [e, this]
        · exact h₁ b m⟩
    | none =>
      refine ⟨F₁.put a o, X₁.freeze e hT (.inl hz) ho, l₁.trans (Part.le_put e), fun b m => ?_⟩
      by_cases hb : b = a
      · subst hb; rw [Part.put_self, ho]
      · rw [Part.put_other _ _ hb]
        exact h₁ b ((List.mem_cons.mp m).resolve_left hb)
theorem FnS.intro {n : Nat} {f : Addr} {args : List AV} {o : Obj} {fd : FuncData} {body : List Stmt} {q : Str} {params : Arguments} {sbody : List Stmt} {sscope : Scope} {σc : Sto} (xs : List String) (σ : Sto) (σe : Nat → Sto)
    (hb : ∀ L, Ex w n (fenv fd.scope fd.qualname f fd.code [] L) (frOf L fd.scope.names) none σ body (.retm none (σe L) (.fn q params sbody sscope (clOf (fenv fd.scope fd.qualname f fd.code [] L) sscope.names [])))) (hσ : ∀ p ∈ σ, p ∈ bindsOf xs args [])
    (hσe : ∀ L, ∀ p ∈ σc, p ∈ σe L) (hσk : ∀ p ∈ σc, p.2 ≠ .mu ∧ fd.scope.names.lookup (Str.ofString p.1) = some .cell ∧ sscope.names.lookup (Str.ofString p.1) = some .free)
    (ho : (KF w).lookup f = some o) (hd : o.data = .func fd) (hbody : fd.body = .stmts body) (hlen : args.length = xs.length)
    (hbind : ∀ vs : List Value, vs.length = xs.length → bindArgs fd ⟨vs, []⟩ = pure ((xs.map Str.ofString).zip vs))
    (hown : (xs.all fun x => own? fd.scope (Str.ofString x)) = true) (hcode : codeIn (KF w) fd.code fd.qualname = true)
    (hclo : fd.closure = []) (hgl : fd.globals = mainGlobals) (hbu : fd.builtins = builtinsNs) (hco : fd.scope.isCoroutine = false) (hgen : fd.scope.isGenerator = false) (hk : fd.scope.kind = .function) :
    FnS w (n + 1) f args q params sbody sscope σc := fun A hA F s vs E ok r => by
  refine wpAny_call (fnEnter (avs := args) xs ok hA r ho hd hbody (fun Q E hQ => ?_) hown hcode hclo hgl hbu hco hgen hk fun s₁ I₁ hfr W₁ => ?_)
  · rw [hbind vs (by rw [r.length, hlen])]
    exact wpAny_pure hQ
  · refine wpAny_mono (hb _ _ (hA.deeper _) F s₁ (fun _ _ => False) none (I₁.weaken hσ)) (fun fl s₂ ⟨F₂, W₂, x, hfl, hx, mu', I₂, _⟩ => ?_) fun _ _ h => h
    subst hfl
    obtain rfl := muNone I₂
    dsimp only
    generalize henv : fenv fd.scope fd.qualname f fd.code [] s.heap.objs.size = env at *
    have hcells : ∀ y c, env.cells.lookup y = some c → c ∈ frOf s.heap.objs.size fd.scope.names := fun y c e => by
      have : (ownC s.heap.objs.size fd.scope.names ++ []).lookup y = some c := by rw [← henv] at e; exact e
      rw [List.append_nil] at this
      exact own_mem this
    have W : Fw w [] F s F₂ s₂ := (W₁.trans (W₂.mono fun a m => by simpa using m)).drop (fun a m => .inr (hfr a m)) fun _ m => .inl m
    have hcl : ∀ y c, (clOf env sscope.names []).lookup y = some c → c ∈ frOf s.heap.objs.size fd.scope.names ∧ 207 ≤ c ∧ ∃ v, s₂.heap.IsCell c v := fun y c e =>
      ⟨hcells y c (clOf_look e), (I₂.cel y c (clOf_look e)).1, (I₂.cel y c (clOf_look e)).2.2⟩
    obtain ⟨F₃, W₃, l₃, h₃⟩ := W.freezeL ((clOf env sscope.names []).map (·.2) |>.filter fun c => ((s₂.heap.get? c).isSome && decide (207 ≤ c) && decide (s.heap.objs.size ≤ c))) fun a m => by
      obtain ⟨_, h⟩ := List.mem_filter.mp m
      simp only [Bool.and_eq_true, decide_eq_true_eq] at h
      exact ⟨ge_notTab h.1.2, h.2, Option.isSome_iff_exists.mp h.1.1⟩
    have hfz : ∀ y c, (clOf env sscope.names []).lookup y = some c → F₃ c = s₂.heap.get? c := fun y c e => by
      obtain ⟨k1, k2, v, oo, k3, _⟩ := hcl y c e
      refine h₃ c (List.mem_filter.mpr ⟨List.mem_map.mpr ⟨(y, c), mem_of_lookup e, rfl⟩, ?_⟩)
      simp [k3, k2, hfr c k1]
    refine ⟨F₃, _, W₃, hx.mono l₃, fun y c e => ?_, fun a b c e1 e2 => I₂.fro.inj a b c (clOf_look e1) (clOf_look e2), fun p hp => ?_⟩
    · obtain ⟨k1, k2, v, oo, k3, k4⟩ := hcl y c e
      exact ⟨k2, oo, v, by rw [hfz y c e, k3], k4⟩
    · obtain ⟨j1, j2, j3⟩ := hσk p hp
      obtain ⟨val, hv, hr⟩ := I₂.vars p (hσe _ p hp)
      have hkk : env.kindOf (Str.ofString p.1) = some .cell := by rw [← henv]; exact j2
      rcases hv with ⟨hv, _⟩ | ⟨_, c, hc, hcell⟩
      · rw [hkk] at hv; cases hv
      · have e := clOf_some j3 hc
        obtain ⟨oo, k3, k4⟩ := hcell
        exact ⟨c, oo, val, e, by rw [hfz _ c e, k3], k4, (hr.rd j1).mono l₃⟩
theorem FwG.newGen {F : Part} {s : Shared} (ok : OK w F s) (gs : GenState) (hb : gs.bare = true) (o : Obj) (tk : Nat) : FwG w [] [] F s F { s with gens := s.gens.push gs, toks := tk, heap := s.heap.push o } where
  le := .refl F
  new := fun _ _ e => .inl e
  heap := fun _ _ _ _ e => Heap.get?_push_of_some _ e
  size := by show _ ≤ (s.heap.push o).objs.size; rw [Heap.size_push]; exact Nat.le_succ _
  gens := fun i x _ e => by
    show (s.gens.push gs)[i]? = some x
    have hi := (Array.getElem?_eq_some_iff.mp e).1
    rw [Array.getElem?_push, if_neg (by omega)]; exact e
  gsz := by show _ ≤ (s.gens.push gs).size; rw [Array.size_push]; exact Nat.le_succ _
  os := rfl
  ok := ok.stepz (fun _ _ e => Heap.get?_push_of_some _ e) (by show _ ≤ (s.heap.push o).objs.size; rw [Heap.size_push]; exact Nat.le_succ_of_le ok.sz) (ok.bare.push hb)
theorem callGen {n : Nat} {A : Around} {F : Part} {s : Shared} {E : Value → Shared → Prop} {fv : Value} {q : Str} {params : Arguments} {body : List Stmt} {scope : Scope} {cl : List (Str × Addr)} {σc : Sto} {vs : List Value} {avs : List AV} (xs : List String) (ok : OK w F s) (hA : Lim (n + 1) A)
    (hc : CloOk F fv q params body scope cl σc) (r : RdL F vs avs) (hlen : avs.length = xs.length)
    (hbind : ∀ fd : FuncData, fd.params = params → fd.defaults = .none → fd.kwdefaults = .none → ∀ vs : List Value, vs.length = xs.length → bindArgs fd ⟨vs, []⟩ = pure ((xs.map Str.ofString).zip vs))
    (hown : (xs.all fun x => own? scope (Str.ofString x)) = true) (hcap : ∀ p ∈ σc, capOk scope (Str.ofString p.1) = true) (hco : scope.isCoroutine = false) (hgen : scope.isGenerator = true) (hk : scope.kind = .function) :
    wpAny (model prog w) A (call fv vs) (fun x s' => ∃ (a : Addr) (o : Obj) (nm qn : Value) (g : Nat) (F' : Part) (f : Addr) (code : Value) (L : Addr), x = .ref a ∧ Fw w [] F s F' s' ∧ F' a = some o ∧ o.cls = .type "generator" ∧ o.data = .fields #[.int g 0, nm, qn] ∧ o.slots = #[] ∧
      s'.gens[g]? = some (.fresh (.func body (fenv scope q f code cl L))) ∧ s.gens.size ≤ g ∧ Inv w (fenv scope q f code cl L) (frOf L scope.names) none none F' (bindsOf xs avs σc) s' ∧ ClF (fenv scope q f code cl L) (frOf L scope.names) F' ∧ ∀ a ∈ frOf L scope.names, s.heap.objs.size ≤ a) E s := by
  have rf := hc.rd
  cases rf with
  | fn l7 e x =>
  rename_i f fd
  have hcd : s.heap.CodeRec fd.code fd.qualname := by
    obtain ⟨c, o, vs', t, e1, e2, e3⟩ := x.code
    rw [x.qual]; exact ⟨c, o, vs', t, e1, (ok.sub _ _ e2).2, e3⟩
  refine wpAny_call (codeAny_call_generator (o := { cls := .type "function", data := .func fd }) hA.room (ok.sub _ _ e).2 rfl (by rw [x.scope]; exact hco) (by rw [x.scope]; exact hgen) x.body hcd ?_)
  rw [hbind fd x.params x.dfl x.kwd vs (by rw [r.length, hlen]), x.clos, x.glo, x.bui, x.scope, x.qual]
  have co : ClosOk cl none s := ⟨fun y c ey => by
    obtain ⟨k1, o, v, k2, k3⟩ := hc.cell y c ey
    exact ⟨k1, ok.lt k2, (fun _ h => nomatch h), v, o, (ok.sub _ _ k2).2, k3⟩, hc.inj⟩
  refine wpAny_pure (newEnv_rule ok fun h' W hn hcell hpw hkeep => ?_)
  have hce : (newEnv scope s.heap.objs.size mainGlobals (cellsFrom (s.heap.objs.size + 1) scope.names cl) (q ++ ".<locals>.") (some f) fd.code none builtinsNs) = fenv scope q f fd.code cl s.heap.objs.size := by
    unfold fenv newEnv ownC; rw [cellsFrom_append]
  have I : Inv w (fenv scope q f fd.code cl s.heap.objs.size) (frOf s.heap.objs.size scope.names) none none F σc { s with heap := h' } :=
    Inv.fresh (closure := cl) rfl rfl hk rfl rfl ok W hn hcell hpw hkeep co trivial fun p hp => by
      obtain ⟨c, o, val, k1, k2, k3, k6⟩ := hc.vars p hp
      obtain ⟨k4, k5⟩ := Bool.and_eq_true_iff.mp (hcap p hp)
      exact ⟨ownC_none k5 _, .inr (by show scope.names.lookup _ = _; simpa using k4), c, val, k1, ⟨o, (ok.sub _ _ k2).2, k3⟩, .inl k6⟩
  rw [hce]
  have hfr : ∀ a ∈ frOf s.heap.objs.size scope.names, s.heap.objs.size ≤ a := fun a ha => by
    rcases List.mem_cons.mp ha with rfl | ha
    · exact Nat.le_refl _
    · obtain ⟨⟨y, c⟩, hm, rfl⟩ := List.mem_map.mp ha
      exact Nat.le_of_lt (hcell y c hm).1
  refine bind_rule (n := n) _ (fun _ _ _ => rfl) xs vs avs F σc _ r I (fun y m => Wr.fn (List.all_eq_true.mp hown y m)) fun s₁ I₁ W₁ => ⟨W₁.ok.lim, ?_⟩
  have Wa : Fw w [] F s F s₁ := ((W.wide (T := frOf s.heap.objs.size scope.names)).trans W₁).drop (fun a m => .inr (hfr a m)) fun _ m => .inl m
  have Ng := FwG.newGen I₁.ok (.fresh (.func body (fenv scope q f fd.code cl s.heap.objs.size))) rfl { cls := .type "generator", data := .fields #[.int s₁.gens.size 0, .str fd.name s₁.toks, .str q (s₁.toks + 1)] } (s₁.toks + 1 + 1)
  have h207 := I₁.ok.sz
  have hnew := I₁.ok.old (Nat.le_refl s₁.heap.objs.size)
  have Nf := Ng.freeze hnew (ge_notTab h207) (.inl (Nat.le_refl _)) (Heap.get?_push_size _ rfl)
  refine ⟨s₁.heap.objs.size, _, _, _, s₁.gens.size, F.put _ _, f, fd.code, s.heap.objs.size, rfl, Wa.trans' Nf (fun _ m => nomatch m) (fun _ m => nomatch m), Part.put_self .., rfl, rfl, rfl, Array.getElem?_push_size .., Wa.gsz, I₁.step Nf, fun y c ey => ?_, hfr⟩
  have : (ownC s.heap.objs.size scope.names ++ cl).lookup y = some c := ey
  rw [lookup_append] at this
  cases q : (ownC s.heap.objs.size scope.names).lookup y with
  | some c' => rw [q] at this; cases this; exact .inl (own_mem q)
  | none =>
    rw [q] at this
    obtain ⟨_, o, v, k2, _⟩ := hc.cell y c this
    exact .inr ⟨o, Nf.le _ _ k2⟩
end
end Mine
namespace Mine
open PySem PySem.Calls PyProof.Rows PySem.W
noncomputable def clipA (v : Option Int) (d n : Int) : Int := match v with
  | none => d
  | some i => max 0 (min (if i < 0 then i + n else i) n)
theorem cut_eq {l : List Nat} {lo hi : Option Int} (a b : Nat) (h1 : clipA lo 0 l.length = a) (h2 : clipA hi l.length l.length = b) (hab : a ≤ b) (hb : b ≤ l.length) : cutStr (S l) lo hi = S ((l.drop a).take (b - a)) := by
  have e : Builtin.Str.strSliceIndices lo hi 1 l.length = (List.range (b - a)).map (fun k => a + k) := by
    rw [← StrLaws.strSliceIndices_plain hab hb]
    have e1 : max (0 : Int) (min (a : Int) (l.length : Int)) = a := by omega
    have e2 : max (0 : Int) (min (b : Int) (l.length : Int)) = b := by omega
    have n1 : ¬ ((a : Int) < 0) := by omega
    have n2 : ¬ ((b : Int) < 0) := by omega
    simp only [Builtin.Str.strSliceIndices, n1, n2, if_false, e1, e2, show ((1 : Int) > 0) = True from by simp, if_true]
    unfold clipA at h1 h2
    cases lo <;> cases hi <;> exact congrFun (congr (congrArg sliceRange h1) h2) 1
  unfold cutStr
  rw [S_length, e]
  simp only [List.length_map, List.length_range, beq_iff_eq]
  split
  · rename_i h
    have ha : a = 0 := by omega
    have hb' : b = l.length := by omega
    subst ha hb'
    simp
  · have := StrLaws.picks l (b - a) a (by omega)
    show (⟨(List.filterMap (fun x => (S l).cps[x]?) _).toArray⟩ : Str) = _
    have e3 : (fun x : Nat => (S l).cps[x]?) = (fun x : Nat => l[x]?) := by funext x; exact S_cps l x
    rw [e3, this]; rfl
section
variable {w : World} {n : Nat} {env : Env} {fr : List Addr} {mc : Option MC} {σ : Sto}
theorem SubOp.cutS {l r : List Nat} {lo hi : Option Int} (hz : l.length ≤ 100000) (h : cutStr (S l) lo hi = S r) : SubOp w n (.str (S l)) (.slc lo hi) (.str (S r)) := by
  rw [← h]
  refine SubOp.strcut ?_
  have := PyProof.Rows.indices_len_le lo hi l.length
  have hs : sizeLine = 16777216 := rfl
  rw [S_length]; omega
theorem Op1.neg {i : Int} : Op1 w n (unaryOp .USub) (.int i) (.int (-i)) := fun A hA F s E x ok r => by
  cases r; exact PyProof.Rows.neg_int ⟨F, Fw.toks ok _, .int ..⟩
theorem Fc.lenS {l : List Nat} (hz : l.length ≤ 100000) : Fc w n (.builtin "len") [.str (S l)] (.int l.length) := fun A hA F s vs E ok r => by
  refine r.e1 fun _ r1 => ?_
  refine r1.eStr fun t => ?_
  refine PySem.P.len_str (by rw [S_length]; omega) ?_
  rw [S_length]; exact ⟨F, Fw.toks ok _, .int ..⟩
theorem Fc.isiS {x : Str} : Fc w n (.builtin "isinstance") [.str x, .raw (.type "str")] (.bool true) := fun A hA F s vs E ok r => by
  refine r.e2 fun _ _ r1 r2 => ?_
  refine r1.eStr fun t => r2.eRaw ?_
  exact PySem.IsiPair.str_str ⟨F, Fw.refl ok, .bool _⟩
theorem Fc.isiN : Fc w n (.builtin "isinstance") [.none, .raw (.type "str")] (.bool false) := fun A hA F s vs E ok r => by
  refine r.e2 fun _ _ r1 r2 => ?_
  refine r1.eNone (r2.eRaw ?_)
  exact PySem.IsiPair.NoneType_str ⟨F, Fw.toks ok _, .bool _⟩
theorem Op2.eqNS {x : Str} : Op2 w n (compareOp .Eq) .none (.str x) (.bool false) := fun A hA F s E mu u v ok hx hy => by
  obtain rfl := hx.non; obtain ⟨_, rfl⟩ := hy.str
  exact PySem.EqNone.eq_none_str ⟨F, Fw.refl ok, .bool _⟩
theorem Es.retv {e : Expr} {pos : Pos} {v : AV} (h : Ev w n env fr mc σ e v) (hv : v ≠ .mu) : Es w n env fr mc σ (.Return (some e) pos) (.retm mc σ v) := fun A hA F s E mu I =>
  wpAny_Return_some (h.use hA I (Fw.refl I.ok) fun v' s₁ F₁ I₁ W₁ L₁ R₁ => ⟨F₁, W₁.wide, v', rfl, R₁.rd hv, mu, I₁, fun _ e => .inl e⟩)
end
theorem mro_slice : mroOf (.type "slice") = pure [.type "slice", .type "object"] := by rw [mroOf_type]; kernel_rfl
theorem lookup_slice_new : typeLookup (.type "slice") "__new__" = pure (some (.builtin "slice.__new__")) := by rw [typeLookup_type, builtinLookup_eq_fast]; kernel_rfl
theorem slot_slice_init : Slot "slice" "__init__" "object.__init__" :=
  .of (owner := "object") (n := "__init__") (by rw [typeLookup_type, builtinLookup_eq_fast]; kernel_rfl) (by decide +kernel) (by decide +kernel) (by decide +kernel)
    (by first | exact .inl (by decide +kernel) | exact .inr (by decide +kernel)) (by rw [isSubtype_type]; kernel_rfl)
theorem called_slice : TypeCalled "slice" "slice.__new__" "object.__init__" :=
  ⟨by decide +kernel, by decide +kernel, ⟨_, _, mro_slice⟩, madeBy_type mro_slice lookup_slice_new (by decide +kernel), by decide +kernel, by rw [isSubtype_type]; kernel_rfl, slot_slice_init⟩
theorem typeCall_slice (a b : Value) : checkTypeCall "slice" ⟨[a, b], []⟩ = pure () := by kernel_rfl
theorem newCall_slice (a b : Value) : checkBuiltinCall "slice.__new__" ⟨[.type "slice", a, b], []⟩ = pure () := by kernel_rfl
theorem entry_slice_new : entryFor table "slice.__new__" = some Builtin.«slice.__new__» := entryFor_of_tree (by kernel_rfl)
theorem sub_slice : isSubtype (.type "slice") (.type "slice") = pure true := by rw [isSubtype_type]; kernel_rfl
theorem meets_slice (a b : Value) : Meets (Builtin.«slice.__new__» ⟨[.type "slice", a, b], []⟩) (fun _ R s => R (.ok (.ret (.ref s.heap.objs.size))) { s with heap := s.heap.push (slcO a b) }) :=
  .of_wp fun prog w A R s h => by
    unfold Builtin.«slice.__new__»
    dsimp only
    refine wpAny_bind (m := isType (.type "slice")) (wpAny_pure (a := true) ?_)
    rw [if_neg (by decide)]
    refine wpAny_bind (wpAny_of_eq sub_slice ?_)
    rw [if_neg (by decide)]
    refine wpAny_bind (wpAny_pure (a := [a, b]) ?_)
    show wpAny _ _ (newFields "slice" [a, b, .none] >>= fun r => ret r) _ _ _
    unfold newFields
    refine wpAny_bind (wpAny_newObj_type (wpAny_pure ⟨_, rfl, h⟩) (by size_fits))
section
variable {w : World} {n : Nat} {env : Env} {fr : List Addr} {mc : Option MC} {σ : Sto}
noncomputable def pAV : Option Int → AV
  | none => .none
  | some i => .int i
theorem Fc.slice {l u : Option Int} : Fc w n (.type "slice") [pAV l, pAV u] (.slc l u) := fun A hA F s vs E ok r => by
  refine r.e2 fun va vb r1 r2 => ?_
  have p1 : IsPart va l := by
    cases l with
    | none => cases r1; exact .none
    | some i => cases r1 with | int _ t => exact .int i t
  have p2 : IsPart vb u := by
    cases u with
    | none => cases r2; exact .none
    | some i => cases r2 with | int _ t => exact .int i t
  refine callType_new called_slice (by decide) (typeCall_slice _ _) (newCall_slice _ _) (fun obj => _root_.PySem.F.args_object_init_3 obj _ _) entry_slice_new (meets_slice va vb) ?_
  exact ⟨⟨_, Heap.get?_push_size _ rfl, rfl⟩, F.put _ _, Fw.make ok (slcO va vb) rfl s.toks, .slc (Part.put_self ..) p1 p2⟩
end
end Mine
namespace Mine
open PySem PySem.Calls PyProof.Rows PySem.W
section
variable {w : World} {n : Nat} {env : Env} {fr : List Addr} {mc : Option MC} {σ : Sto}
theorem Itg.sel {e e2 e3 : Expr} {np p1 p2 rp fp px yp ep ip : Pos} {t : Str} {its : List AV} {q : Str} {params : Arguments} {sscope : Scope} {σc : Sto} {stA : Stmt} {test ye : Expr} {p : AV → Bool} {σ' : AV → Sto} {o : Obj} {fd : FuncData} (σg : Sto)
    (hf : Ev w (n + 4) env fr mc σ (.Name (Str.ofString "_prepare_tag") np) (.raw (.ref 63))) (hs1 : EvL w (n + 4) env fr mc σ [e] [.str t]) (hs2 : EvL w (n + 4) env fr mc σ [e2, e3] [.none, .list its])
    (hfs : FnS w (n + 4) 63 [.str t] q params [.For (.Name (Str.ofString "elem") px) (.Name (Str.ofString "result") rp) (gbody stA test ye yp ep ip) [] fp] sscope σc)
    (ho : (KF w).lookup 63 = some o) (hd : o.data = .func fd)
    (hbind : ∀ fd : FuncData, fd.params = params → fd.defaults = .none → fd.kwdefaults = .none → ∀ vs : List Value, vs.length = 2 → bindArgs fd ⟨vs, []⟩ = pure ((["context", "result"].map Str.ofString).zip vs))
    (hown : (["context", "result"].all fun x => own? sscope (Str.ofString x)) = true) (hownx : own? sscope (Str.ofString "elem") = true) (hcap : ∀ p ∈ σc, capOk sscope (Str.ofString p.1) = true) (hco : sscope.isCoroutine = false) (hgen : sscope.isGenerator = true) (hk : sscope.kind = .function)
    (hkr : sscope.names.lookup (Str.ofString "result") = some .local)
    (hσg : ∀ p ∈ σg, p ∈ bindsOf ["context", "result"] [.none, .list its] σc) (hres : ("result", AV.list its) ∈ σg)
    (hv : ∀ f code cl L, ∀ v ∈ its, Es w (n + 1) (fenv sscope q f code cl L) (frOf L sscope.names) none (upd σg "elem" v) stA (.nxt none (σ' v)) ∧ (∀ q ∈ σg, q ∈ σ' v) ∧ Et w (n + 1) (fenv sscope q f code cl L) (frOf L sscope.names) none (σ' v) test (p v) ∧
      (p v = true → Ev w (n + 1) (fenv sscope q f code cl L) (frOf L sscope.names) none (σ' v) ye v) ∧ v ≠ .mu) :
    Itg w (n + 4) env fr mc σ (.Call (.Call (.Name (Str.ofString "_prepare_tag") np) [e] [] p1) [e2, e3] [] p2) (its.filter p) := fun A hA F s E mu I => by
  show wpAny _ A (do callWith p2 (← eval (.Call (.Name (Str.ofString "_prepare_tag") np) [e] [] p1) env) [] (backTo p2 (starEach [e2, e3] env)) (backToKw p2 (keywordEach [] env))) _ _ _
  refine wpAny_bind (wpAny_Call_NameR (hf.use hA I (Fw.refl I.ok) fun fv s₁ F₁ I₁ W₁ L₁ R₁ => ?_))
  obtain rfl := R₁.raw
  refine callWith_function (o := o) (fd := fd) (evalArgs_any (hs1 p1).1 (hs1.use hA I₁ W₁ fun xs s₂ F₂ I₂ W₂ L₂ R₂ => ⟨⟨I₂.ok.K 63 _ ho, hd⟩, ?_⟩))
  refine wpAny_mono (hfs A hA F₂ s₂ xs E I₂.ok R₂) (fun gv s₃ ⟨F₃, cl, W₃, hclo⟩ => ?_) fun _ _ h => h
  have I₃ := I₂.step W₃
  have hrd := hclo.rd
  cases hrd with
  | fn l7 ef x =>
  refine callWith_function (o := { cls := .type "function", data := .func _ }) (evalArgs_any (hs2 p2).1 (hs2.use hA I₃ (W₂.trans W₃) fun ys s₄ F₄ I₄ W₄ L₄ R₄ => ⟨⟨(I₄.ok.sub _ _ (L₄ _ _ ef)).2, rfl⟩, ?_⟩))
  refine wpAny_mono (callGen ["context", "result"] I₄.ok (hA.mono (Nat.le_refl _)) (hclo.mono L₄) R₄ rfl hbind hown hcap hco hgen hk) (fun x s₅ ⟨a, og, nm, qn, g, F₅, f, code, L, hx, W₅, hF, hc, hdd, hsl, hgs, hgz, I₅, hcl, hfr⟩ => ?_) fun _ _ h => h
  subst hx
  have hg5 : s₅.heap.IsGen a g := ⟨og, nm, qn, (W₅.ok.sub a og hF).2, hc, hdd, hsl⟩
  refine wpAny_pyIter_gen hg5 ?_
  have W := W₄.trans W₅
  refine ⟨F₅, frOf L sscope.names, [g], W, fun c m => Nat.le_trans W₄.size (hfr c m), fun i hi => by rw [List.mem_singleton.mp hi]; exact Nat.le_trans W₄.gsz hgz, Yg.of_gen hc hdd hsl _ _ _ F₅ s₅ W₅.ok hF hgs ?_, fun s₆ F₆ hfut A' hA' Q E' hQ => ?_⟩
  · refine GY.fresh (n := n + 1) (I₅.weaken hσg) hcl ?_ (Wr.fn hownx) hco ?_ (hv f code cl L)
    · exact Ev.var hres (by decide) (by decide)
    · show interactive (fenv sscope q f code cl L) = false
      unfold interactive
      rw [show (fenv sscope q f code cl L).scope.kind = .function from hk]; rfl
  · obtain ⟨T, G', X, _, _⟩ := hfut
    exact wpAny_pyIter_gen ⟨og, nm, qn, (X.ok.sub a og (X.le _ _ hF)).2, hc, hdd, hsl⟩ hQ
end
end Mine
namespace Mine
open PySem PySem.Calls PyProof.Rows PySem.W
theorem RdL.strsAre {F : Part} : ∀ {vs : List Value} {ts : List Str}, RdL F vs (ts.map .str) → StrsAre vs ts
  | [], [], _ => .nil
  | [], t :: ts, h => nomatch h
  | v :: vs, [], h => nomatch h
  | v :: vs, t :: ts, h => by
    cases h with | cons r rs =>
    cases r with | str _ k => exact .cons _ _ (RdL.strsAre rs)
noncomputable def Flat : AV → Prop
  | .int _ => True
  | .str _ => True
  | _ => False
theorem eqFlat {A : Around} {s : Shared} {F : Part} {v v' : Value} {a : AV} (h : Rd F v a) (h' : Rd F v' a) (hf : Flat a) : SeqAt.EqAt A s v v' true := by
  cases h with
  | int i t =>
    cases h' with | int _ t' =>
    have := SeqAt.EqAt.int_int (A := A) (s := s) i t i t'
    rwa [beq_self_eq_true] at this
  | str x t =>
    cases h' with | str _ t' =>
    have := SeqAt.EqAt.str_str (A := A) (s := s) x t x t'
    rwa [beq_self_eq_true] at this
  | _ => exact hf.elim
theorem eqFlats {A : Around} {s : Shared} {F : Part} {xs ys : Array Value} {a : List AV} (hr : RdL F xs.toList a) (hr' : RdL F ys.toList a) (hf : ∀ v ∈ a, Flat v) : ∀ j (h1 : j < xs.size) (h2 : j < ys.size), SeqAt.EqAt A s xs[j] ys[j] true := fun j j1 j2 => by
  obtain ⟨u, hu, r1⟩ := hr.get' (i := j) (v := xs[j]) (by simp)
  obtain ⟨u', hu', r2⟩ := hr'.get' (i := j) (v := ys[j]) (by simp)
  rw [hu] at hu'; cases hu'
  exact eqFlat r1 r2 (hf _ (List.mem_of_getElem? hu))
section
variable {w : World} {n : Nat} {env : Env} {fr : List Addr} {mc : Option MC} {σ : Sto}
theorem Op2.eqlist {a : List AV} (hf : ∀ v ∈ a, Flat v) : Op2 w n (compareOp .Eq) (.list a) (.list a) (.bool true) := fun A hA F s E mu x y ok hx hy => by
  obtain ⟨p, xs, k, rfl, hF, hr⟩ := hx.list
  obtain ⟨q, ys, k', rfl, hG, hr'⟩ := hy.list
  have h1 : xs.size = a.length := by simpa using hr.length
  have h2 : ys.size = a.length := by simpa using hr'.length
  refine SeqAt.eq_listAt (e := fun _ => true) (ok.isList hF) (ok.isList hG) (by omega) hA.croom (eqFlats hr hr' hf) ?_
  rw [show (List.range xs.size).all (fun _ => true) = true from by simp]
  exact ⟨F, Fw.refl ok, .bool _⟩
theorem Op2.nelist {a : List AV} (hf : ∀ v ∈ a, Flat v) : Op2 w n (compareOp .NotEq) (.list a) (.list a) (.bool false) := fun A hA F s E mu x y ok hx hy => by
  obtain ⟨p, xs, k, rfl, hF, hr⟩ := hx.list
  obtain ⟨q, ys, k', rfl, hG, hr'⟩ := hy.list
  have h1 : xs.size = a.length := by simpa using hr.length
  have h2 : ys.size = a.length := by simpa using hr'.length
  refine SeqAt.RcNeAt.lists (e := fun _ => true) (ok.isList hF) (ok.isList hG) (by omega) hA.croom (eqFlats hr hr' hf) prog w E _ ?_
  rw [show (List.range xs.size).all (fun _ => true) = true from by simp]
  exact ⟨F, Fw.refl ok, .bool _⟩
theorem Op2.instrs {ts : List Str} {x : Str} : Op2 w n (compareOp .In) (.str x) (.list (ts.map .str)) (.bool (ts.any (· == x))) := fun A hA F s E mu u v ok hx hy => by
  obtain ⟨_, rfl⟩ := hx.str
  obtain ⟨a, xs, m, rfl, hF, hr⟩ := hy.list
  exact in_list_strs (ok.isList hF) hr.strsAre ⟨F, Fw.refl ok, .bool _⟩
theorem Fc.count {ns : List Int} {k : Int} : Fc w n (.builtin "list.count") [.list (ns.map .int), .int k] (.int (ns.count k : Nat)) := fun A hA F s vs E ok r => by
  refine r.e2 fun _ _ r1 r2 => ?_
  refine r2.eInt fun t => ?_
  refine r1.eList fun a arr m e rl => ?_
  exact count_list_ints (ok.isList e) rl.ints ⟨F, Fw.toks ok _, .int ..⟩
theorem HasT.list {l : List AV} : HasT "list" (.list l) := fun w F s v ok r => by
  cases r with
  | list e rl => exact ⟨⟨_, (ok.sub _ _ e).2, rfl⟩, fun b hb => by cases hb; exact ⟨_, (ok.sub _ _ e).2, rfl⟩⟩
theorem Ev.count {o e : Expr} {apos pos : Pos} {ns : List Int} {k : Int} (h : Ev w n env fr mc σ o (.list (ns.map .int))) (he : EvL w n env fr mc σ [e] [.int k]) (hf : MForm env o (Str.ofString "count") apos pos [e]) :
    Ev w n env fr mc σ (.Call (.Attribute o (Str.ofString "count") apos) [e] [] pos) (.int (ns.count k : Nat)) :=
  Ev.meth h he HasT.list _root_.PySem.F.plainAttrs_list _root_.PySem.F.slot_list_count _root_.PySem.F.type_list_count Fc.count (by intro h; cases h) hf.1 hf.2.1 hf.2.2
theorem SubOp.strLast {l : List Nat} {c : Nat} (hl : l.length ≤ 100000) : SubOp w n (.str (S (l ++ [c]))) (.int (-1)) (.str (S [c])) := by
  refine SubOp.str ?_ (by decide)
  have : seqIndex? (-1) (S (l ++ [c])).length = some l.length := by
    rw [S_length, List.length_append]
    unfold seqIndex?
    simp
    omega
  rw [this]
  show (S (l ++ [c])).cps[l.length]? = some c
  rw [S_cps]; simp
end
end Mine
namespace Mine
open PySem PySem.Calls PyProof.Rows PySem.W
section
variable {w : World} {n : Nat} {env : Env} {fr : List Addr} {mc : Option MC} {σ : Sto} {α : Type}
theorem Ev.mapC {scope : Scope} {x : String} {px : Pos} {iter elt : Expr} {pos : Pos} {L : List α} {g : α → AV} (f : α → AV) (σ' : Sto)
    (ci : Itb w n env fr mc σ iter (L.map g))
    (cb : ∀ C a, a ∈ L → Ev w n (cenv scope env C) (frOf C scope.names) mc ((x, g a) :: σ') elt (f a) ∧ f a ≠ .mu)
    (cσ : ∀ q ∈ σ', q ∈ σ ∧ capIn scope env (Str.ofString q.1) = true)
    (cfree : freeOk scope.names env = true) (cx : own? scope (Str.ofString x) = true) (ck : scope.kind = .function) (cn : ∀ y ∈ scope.names, y.2 = .local → scope.names.lookup y.1 = some .local)
    (cs : ∀ x, foldedSetIterable iter env x = pure x) (clen : L.length ≤ 100000) :
    Ev w n env fr mc σ (.ListComp elt [⟨.Name (Str.ofString x) px, iter, [], 0⟩] scope pos) (.list (L.map f)) := by
  have := Ev.comp (px := px) (pos := pos) (fun _ => true) f σ' ci (fun C a ha => ⟨EtL.nil, fun _ => cb C a ha⟩) cσ cfree cx ck cn cs clen
  rwa [show List.filter (fun _ => true) L = L from List.filter_eq_self.mpr fun _ _ => rfl] at this
theorem Es.mapC {y : String} {py spos : Pos} {scope : Scope} {x : String} {px : Pos} {iter elt : Expr} {pos : Pos} {L : List α} {g : α → AV} (f : α → AV) (σ' : Sto)
    (ci : Itb w n env fr mc σ iter (L.map g))
    (cb : ∀ C a, a ∈ L → Ev w n (cenv scope env C) (frOf C scope.names) mc ((x, g a) :: σ') elt (f a) ∧ f a ≠ .mu)
    (cσ : ∀ q ∈ σ', q ∈ σ ∧ capIn scope env (Str.ofString q.1) = true)
    (cfree : freeOk scope.names env = true) (cx : own? scope (Str.ofString x) = true) (ck : scope.kind = .function) (cn : ∀ y ∈ scope.names, y.2 = .local → scope.names.lookup y.1 = some .local)
    (cs : ∀ x, foldedSetIterable iter env x = pure x) (clen : L.length ≤ 100000)
    (csw : swapsWith (.ListComp elt [⟨.Name (Str.ofString x) px, iter, [], 0⟩] scope pos) (some (.Name (Str.ofString y) py)) spos.line env = pure true) (cw : Wr env fr (Str.ofString y)) :
    Es w n env fr mc σ (.Assign [.Name (Str.ofString y) py] (.ListComp elt [⟨.Name (Str.ofString x) px, iter, [], 0⟩] scope pos) spos) (.nxt mc (upd σ y (.list (L.map f)))) := by
  have := Es.assignComp (px := px) (pos := pos) (fun _ => true) f σ' ci (fun C a ha => ⟨EtL.nil, fun _ => cb C a ha⟩) cσ cfree cx ck cn cs clen csw cw
  rwa [show List.filter (fun _ => true) L = L from List.filter_eq_self.mpr fun _ _ => rfl] at this
theorem Ev.compG {scope : Scope} {x : String} {px : Pos} {iter elt : Expr} {ifs : List Expr} {pos : Pos} {L : List α} {g : α → AV} (p : α → Bool) (f : α → AV) (σ' : Sto)
    (hi : Itg w n env fr mc σ iter (L.map g))
    (hb : ∀ C a, a ∈ L → EtL w n (cenv scope env C) (frOf C scope.names) mc ((x, g a) :: σ') ifs (p a) ∧ (p a = true → Ev w n (cenv scope env C) (frOf C scope.names) mc ((x, g a) :: σ') elt (f a) ∧ f a ≠ .mu))
    (hσ : ∀ q ∈ σ', q ∈ σ ∧ capIn scope env (Str.ofString q.1) = true)
    (hfree : freeOk scope.names env = true) (hx : own? scope (Str.ofString x) = true) (hk : scope.kind = .function) (hnames : ∀ y ∈ scope.names, y.2 = .local → scope.names.lookup y.1 = some .local)
    (hs : ∀ x, foldedSetIterable iter env x = pure x) (hlen : L.length ≤ 100000) :
    Ev w n env fr mc σ (.ListComp elt [⟨.Name (Str.ofString x) px, iter, ifs, 0⟩] scope pos) (.list ((L.filter p).map f)) := fun A hA F s E mu I => by
  show wpAny _ A (comprehension (.ListComp elt [⟨.Name (Str.ofString x) px, iter, ifs, 0⟩] scope pos) scope env _ (newList []) false (eval iter env) none) _ _ s
  refine comp_coreG p f σ' hi hb hσ hfree hx hk hnames hs hlen hA I fun D C s₅ F₅ ys T G X hT hG hp hD hr hns hDs hCs hne hC5 => ?_
  obtain ⟨m, hm⟩ := hns
  refine ⟨m, hm, fun h' hs' => ?_⟩
  have h207 : 207 ≤ s.heap.objs.size := I.ok.sz
  have hs0 : 207 ≤ C := Nat.le_trans h207 hCs
  have W : FwG w [C] [] F₅ s₅ F₅ { s₅ with heap := h' } := Fw.change X.ok (fun a m => by rw [List.mem_singleton.mp m]; exact ⟨hs0, hC5⟩)
    (fun a m o e => (hs'.2 a (fun h => m (by rw [h]; exact .head _))).trans e) (by show _ ≤ h'.objs.size; rw [hs'.1]; exact Nat.le_refl _) rfl rfl
  obtain ⟨k, hk⟩ := hp.at fun o e => W.heap D (ge_notTab (Nat.le_trans h207 hDs)) (fun m => hne (List.mem_singleton.mp m)) o e
  have Y := (X.trans' (W.mono (G' := G) (fun a m => m) (fun _ m => nomatch m)) (fun a m => .inr (by rw [List.mem_singleton.mp m]; exact hCs)) fun i m => .inl m).drop (T := []) (G := []) (fun a m => .inr (hT a m)) fun i m => .inr (hG i m)
  exact ⟨_, Y.freeze hD (ge_notTab (Nat.le_trans h207 hDs)) (.inl hDs) hk, .inl (.list (Part.put_self ..) (hr.mono (Part.le_put hD)))⟩
theorem Ev.mapG {scope : Scope} {x : String} {px : Pos} {iter elt : Expr} {pos : Pos} {L : List α} {g : α → AV} (f : α → AV) (σ' : Sto)
    (ci : Itg w n env fr mc σ iter (L.map g))
    (cb : ∀ C a, a ∈ L → Ev w n (cenv scope env C) (frOf C scope.names) mc ((x, g a) :: σ') elt (f a) ∧ f a ≠ .mu)
    (cσ : ∀ q ∈ σ', q ∈ σ ∧ capIn scope env (Str.ofString q.1) = true)
    (cfree : freeOk scope.names env = true) (cx : own? scope (Str.ofString x) = true) (ck : scope.kind = .function) (cn : ∀ y ∈ scope.names, y.2 = .local → scope.names.lookup y.1 = some .local)
    (cs : ∀ x, foldedSetIterable iter env x = pure x) (clen : L.length ≤ 100000) :
    Ev w n env fr mc σ (.ListComp elt [⟨.Name (Str.ofString x) px, iter, [], 0⟩] scope pos) (.list (L.map f)) := by
  have := Ev.compG (px := px) (pos := pos) (fun _ => true) f σ' ci (fun C a ha => ⟨EtL.nil, fun _ => cb C a ha⟩) cσ cfree cx ck cn cs clen
  rwa [show List.filter (fun _ => true) L = L from List.filter_eq_self.mpr fun _ _ => rfl] at this
end
end Mine
namespace Mine
open PySem PySem.Calls PyProof.Rows PySem.W
local macro_rules | `(tactic| walk_at "mem") => `(tactic| (first
  | with_reducible exact List.mem_cons_self | with_reducible exact mem_upd | ((with_reducible refine List.mem_cons_of_mem _ ?_); walk_at "mem") | ((with_reducible refine mem_upd' ?a ?b); (case b => (dsimp only; decide)); (case a => walk_at "mem")) | (dsimp only [bindsOf]; walk_at "mem")))
local macro_rules | `(tactic| walk_at "sub") => `(tactic| (first | exact forall_nil | exact forall_cons (by walk_at "mem") (by walk_at "sub")))
local macro_rules | `(tactic| walk_at "cap") => `(tactic| (first | exact all_nil | ((refine' all_cons ?ga ?gb); (case ga => exact ⟨by walk_at "mem", by rfl⟩); (case gb => walk_at "cap"))))
local macro_rules | `(tactic| walk_at "thaw") => `(tactic| (first | exact all_nil | ((refine' all_cons ?ga ?gb); (case ga => ((try dsimp only); first | exact Or.inl ⟨by walk_at "mem", by intro h; cases h⟩ | exact Or.inr ⟨by walk_at "mem", rfl⟩)); (case gb => walk_at "thaw"))))
local macro_rules | `(tactic| walk_at "fn") => `(tactic| (
  (case ho => exact rfl); (case hd => exact rfl); (case hbody => exact rfl); (case hlen => rfl); (case hout => rfl);
  (case hbind => (intro vs h; (first | exact len1 h (fun _ => rfl) | exact len2 h (fun _ _ => rfl) | exact len3 h (fun _ _ _ => rfl) | exact len5 h (fun _ _ _ _ _ => rfl))));
  (case hown => kernel_rfl); (case hcode => kernel_rfl); (case hclo => rfl); (case hgl => rfl); (case hbu => rfl); (case hco => rfl); (case hgen => rfl); (case hk => rfl); (case hs => walk_at "sub"); intro L; dsimp only))
local macro_rules | `(tactic| walk_at "op") => `(tactic| (first | with_reducible assumption | with_reducible exact Op2.add | with_reducible exact Op2.iadd | with_reducible exact Op2.band | with_reducible exact Op2.sub | with_reducible exact Op2.mod (by decide) | with_reducible exact Op2.eq | with_reducible exact Op2.ne | fail "op: no rule"))
local macro_rules | `(tactic| walk_at "ev") => `(tactic| (first
  | with_reducible exact Ev.cint | with_reducible exact Ev.cstr | with_reducible exact Ev.cnone | with_reducible exact Ev.cbool
  | ((with_reducible refine' Ev.var (hd := ?gb) (hc := ?gc) ?ga); (case gb => decide); (case gc => decide); (case ga => walk_at "mem"))
  | ((with_reducible refine' Ev.glob (hd := ?gc) ?ga ?gb); (case ga => rfl); (case gb => rfl); (case gc => decide))
  | ((with_reducible refine' Ev.boot (hn := ?gd) (hd := ?ge) ?ga ?gb ?gc); (case ga => rfl); (case gb => rfl); (case gc => boot_fast); (case gd => decide); (case ge => decide))
  | ((with_reducible refine' Ev.bin ?ga ?gb ?gc); (case ga => walk_at "ev"); (case gb => walk_at "ev"); (case gc => walk_at "op"))
  | ((with_reducible refine' Ev.sub (hsub := ?gd) ?ga ?gb ?gc); (case ga => walk_at "ev"); (case gb => walk_at "ev"); (case gc => walk_at "op"); (case gd => (intro o i; exact ⟨_, rfl⟩)))
  | fail "ev: no rule"))
local macro_rules | `(tactic| walk_at "evl") => `(tactic| (first | exact EvL.nil | exact EvL.cons (by walk_at "ev") (by walk_at "evl") (by intro h; cases h) rfl))
local macro_rules | `(tactic| walk_at "comp") => `(tactic| (
  (case cσ => walk_at "cap"); (case cfree => rfl); (case cx => rfl); (case ck => rfl); (case cn => exact namesOk_spec (by rfl)); (case cs => (intro _; rfl))))
local macro_rules | `(tactic| walk_at "nmu") => `(tactic| (intro h; cases h))
local macro_rules | `(tactic| walk_at "ret") => `(tactic| ((with_reducible refine' Ex.stop (Es.ret (hv := ?rv) ?re)); (case rv => walk_at "nmu")))
local macro_rules | `(tactic| walk_at "asg") => `(tactic| ((with_reducible refine' Ex.cons (Es.assign (hs := ?as) ?ae ?aw) ?ar); (case aw => exact Wr.fn (by kernel_rfl)); (case as => rfl); (case ae => walk_at "ev")))
local macro_rules | `(tactic| walk_at "evl") => `(tactic| (first | exact EvL.nil | ((with_reducible refine' EvL.cons (hv := ?v3) (he := ?v4) ?v1 ?v2); (case v1 => walk_at "ev"); (case v2 => walk_at "evl"); (case v3 => walk_at "nmu"); (case v4 => rfl))))
local macro_rules | `(tactic| walk_at "mform") => `(tactic| exact ⟨rfl, rfl, rfl⟩)
local macro_rules | `(tactic| walk_at "range") => `(tactic| ((with_reducible refine' Itb.range' (he := ?g5) ?g1 ?g2 ?g6 ?g3 ?g4); (case g1 => walk_at "ev"); (case g2 => walk_at "ev"); (case g6 => rfl); (case g3 => decide); (case g4 => decide); (case g5 => rfl)))
local macro_rules | `(tactic| walk_at "one") => `(tactic| (with_reducible refine' Ex.one (σ' := _) ?oo))
/-- the cells after j numbers -/
noncomputable def cellAcc (L : List Int) : Nat → List Int
  | 0 => [19, 38, 71, 12, 57]
  | j + 1 => (cellAcc L j).set (j % 5) ((cellAcc L j)[j % 5]?.getD 0 + L[j]?.getD 0)
theorem cellAcc_len (L : List Int) : ∀ j, (cellAcc L j).length = 5
  | 0 => rfl
  | j + 1 => by rw [cellAcc, List.length_set]; exact cellAcc_len L j
noncomputable def cellsOf (L : List Int) : List Int := (cellAcc L L.length).map (·.fmod 1000000)
theorem f_cells (w : World) (n : Nat) (L : List Int) : Fn w (n+1) 160 [.list (L.map .int)] (.list ((cellsOf L).map .int)) := by
  refine' Fn.intro (out := .ret (.list ((cellsOf L).map .int))) ["script"] [("script", .list (L.map .int))] ?hb ?hs ?ho ?hd ?hbody ?hlen ?hout ?hbind ?hown ?hcode ?hclo ?hgl ?hbu ?hco ?hgen ?hk
  walk_at "fn"
  refine Ex.cons (Es.newmu (NewM.lst (by walk_at "evl") (by decide)) (Wr.fn (by kernel_rfl)) rfl) ?_
  refine Ex.cons (Es.forEnum (l := L.map .int) (fun j => (some (.list ((cellAcc L j).map .int)), [("script", .list (L.map .int)), ("cells", .mu)])) ?a ?b rfl ?c (Wr.fn (by kernel_rfl)) (Wr.fn (by kernel_rfl)) (fun j v hv => ?_) (fun _ => rfl)) ?_
  case a => walk_at "ev"
  case b => walk_at "evl"
  case c => walk_at "sub"
  · obtain ⟨x, hx, rfl⟩ : ∃ x, L[j]? = some x ∧ v = .int x := by
      rw [List.getElem?_map] at hv
      cases h : L[j]? with
      | none => rw [h] at hv; cases hv
      | some x => rw [h] at hv; exact ⟨x, rfl, by simpa using hv.symm⟩
    have hlen := cellAcc_len L j
    have hm : (Int.fmod (j : Int) 5).toNat = j % 5 := by rw [Int.fmod_eq_emod_of_nonneg _ (by decide)]; omega
    have hm0 : 0 ≤ Int.fmod (j : Int) 5 := by rw [Int.fmod_eq_emod_of_nonneg _ (by decide)]; omega
    have hlt : j % 5 < (cellAcc L j).length := by rw [hlen]; exact Nat.mod_lt _ (by decide)
    refine Ex.weaken (σ' := [("script", .list (L.map .int)), ("cells", .mu), ("place", .int j), ("number", .int x)]) ?_ (by walk_at "sub")
    refine Ex.nxtw (σ' := [("script", .list (L.map .int)), ("cells", .mu), ("place", .int j), ("number", .int x)]) ?_ (by walk_at "sub")
    have e : (cellAcc L (j+1)).map AV.int = ((cellAcc L j).map AV.int).set (Int.fmod (j : Int) 5).toNat (.int ((cellAcc L j)[j % 5]?.getD 0 + x)) := by
      rw [cellAcc, List.map_set, hm, hx]; rfl
    show Ex _ _ _ _ _ _ _ (.nxt (some (.list ((cellAcc L (j+1)).map .int))) _)
    rw [e]
    refine Ex.one (Es.augsub (a := .int ((cellAcc L j)[j % 5]?.getD 0)) (b := .int x) ?a ?b hm0 ?c ?d ?e Op2.iadd (by decide) (by decide) (fun _ _ _ => rfl))
    case a => walk_at "mem"
    case b => walk_at "ev"
    case c => rw [hm, List.getElem?_map, List.getElem?_eq_getElem hlt]; rfl
    case d => rw [List.length_map, hlen]; decide
    case e => walk_at "ev"
  · dsimp only
    rw [List.length_map]
    refine Ex.freeze [("cells", .list ((cellAcc L L.length).map .int))] ?_ ?h
    case h => walk_at "thaw"
    refine Ex.stop (Es.ret (Ev.of (Ev.comp (L := cellAcc L L.length) (g := .int) (fun _ => true) (fun c => .int (c.fmod 1000000)) [] ?ci ?cb ?cσ ?cfree ?cx ?ck ?cn ?cs ?clen) ?ce))
    walk_at "comp"
    case ci => refine Itb.list ?_; walk_at "ev"
    case clen => rw [cellAcc_len]; decide
    case ce => rw [show List.filter (fun _ => true) (cellAcc L L.length) = cellAcc L L.length from List.filter_eq_self.mpr fun _ _ => rfl, cellsOf, List.map_map]; rfl
    case cb =>
      intro C a ha
      refine ⟨EtL.nil, fun _ => ⟨?_, by intro h; cases h⟩⟩
      walk_at "ev"
noncomputable def sg (i : Int) : Nat := match (i.fmod 4).toNat with | 0 => 38 | 1 => 60 | 2 => 62 | _ => 34
noncomputable def nameL (k place : Int) : List Nat := [112 + k.toNat, sg place, sg (place + 1), sg place]
theorem fmod4 (i : Int) : 0 ≤ i.fmod 4 ∧ i.fmod 4 < 4 := by
  rw [Int.fmod_eq_emod_of_nonneg i (by decide)]; omega
theorem f_name (w : World) (n : Nat) (k place : Int) (h0 : 0 ≤ k) (h4 : k < 4) : Fn w (n+1) 167 [.int k, .int place] (.str (S (nameL k place))) := by
  have h1 : ∀ i : Int, SubOp w n (.str (Str.ofString "&<>\"")) (.int (i.fmod 4)) (.str (S [sg i])) := fun i => by
    have := fmod4 i
    rw [show Str.ofString "&<>\"" = S [38, 60, 62, 34] from by decide]
    unfold sg
    generalize i.fmod 4 = j at this
    have : j = 0 ∨ j = 1 ∨ j = 2 ∨ j = 3 := by omega
    rcases this with rfl | rfl | rfl | rfl <;> exact SubOp.strS (by decide) (by decide) rfl
  have h2 : SubOp w n (.str (Str.ofString "pqrs")) (.int k) (.str (S [112 + k.toNat])) := by
    rw [show Str.ofString "pqrs" = S [112, 113, 114, 115] from by decide]
    have : k = 0 ∨ k = 1 ∨ k = 2 ∨ k = 3 := by omega
    rcases this with rfl | rfl | rfl | rfl <;> exact SubOp.strS (by decide) (by decide) rfl
  have h3 : SubOp w n (.str (Str.ofString "&<>\"")) (.int (place.fmod 4)) (.str (S [sg place])) := h1 _
  have h5 : SubOp w n (.str (Str.ofString "&<>\"")) (.int ((place+1).fmod 4)) (.str (S [sg (place+1)])) := h1 _
  have h7 : Op2 w n (binaryOp .Add) (.str (S [112 + k.toNat])) (.str (S [sg place])) (.str (S ([112 + k.toNat] ++ [sg place]))) := Op2.addS (by simp)
  have h8 : Op2 w n (binaryOp .Add) (.str (S ([112 + k.toNat] ++ [sg place]))) (.str (S [sg (place + 1)])) (.str (S ([112 + k.toNat] ++ [sg place] ++ [sg (place + 1)]))) := Op2.addS (by simp)
  have h9 : Op2 w n (binaryOp .Add) (.str (S ([112 + k.toNat] ++ [sg place] ++ [sg (place + 1)]))) (.str (S [sg place])) (.str (S ([112 + k.toNat] ++ [sg place] ++ [sg (place + 1)] ++ [sg place]))) := Op2.addS (by simp)
  refine' Fn.intro (out := .ret (.str (S (nameL k place)))) ["k","place"] [("k", .int k), ("place", .int place)] ?hb ?hs ?ho ?hd ?hbody ?hlen ?hout ?hbind ?hown ?hcode ?hclo ?hgl ?hbu ?hco ?hgen ?hk
  walk_at "fn"
  refine' Ex.cons (Es.assign ?e1 (Wr.fn (by kernel_rfl)) rfl) ?r1
  case e1 => walk_at "ev"
  refine' Ex.stop (Es.ret (Ev.of ?e2 ?q2))
  case e2 => walk_at "ev"
  case q2 => rfl
/-- one sign, spelled -/
noncomputable def spell1 (c : Nat) : List Nat := if c = 38 then [38, 97, 109, 112, 59] else if c = 62 then [38, 103, 116, 59] else if c = 34 then [38, 113, 117, 111, 116, 59] else [c]
noncomputable def spell (l : List Nat) : List Nat := (l.map spell1).flatten
theorem spell1_len (c : Nat) : (spell1 c).length ≤ 6 := by
  unfold spell1
  by_cases h1 : c = 38 <;> by_cases h2 : c = 62 <;> by_cases h3 : c = 34 <;> simp [h1, h2, h3]
theorem f_spelled (w : World) (n : Nat) (l : List Nat) (hl : l.length ≤ 100) (ha : ∀ c ∈ l, c < 128) : Fn w (n+1) 172 [.str (S l)] (.str (S (spell l))) := by
  refine' Fn.intro (out := .ret (.str (S (spell l)))) ["text"] [("text", .str (S l))] ?hb ?hs ?ho ?hd ?hbody ?hlen ?hout ?hbind ?hown ?hcode ?hclo ?hgl ?hbu ?hco ?hgen ?hk
  walk_at "fn"
  with_reducible refine' Ex.cons (Es.assign ?e0 ?w0 ?s0) ?r1
  case w0 => exact Wr.fn (by kernel_rfl)
  case e0 => with_reducible refine' Ev.sdict3 ?nd
             case nd => decide
  case s0 => rfl
  have key : ∀ c, (([(Str.ofString "&", Str.ofString "&amp;"), (Str.ofString ">", Str.ofString "&gt;"), (Str.ofString "\"", Str.ofString "&quot;")].lookup (S [c])).getD (S [c])) = S (spell1 c) := fun c => by
    rw [show Str.ofString "&" = S [38] from by decide, show Str.ofString ">" = S [62] from by decide, show Str.ofString "\"" = S [34] from by decide]
    unfold spell1
    have h : ∀ a b : Nat, (S [a] == S [b]) = (a == b) := fun a b => by
      by_cases h : a = b
      · subst h; simp
      · rw [beq_eq_false_iff_ne.mpr h, beq_eq_false_iff_ne.mpr fun e => h (by simpa using S_inj e)]
    simp only [List.lookup_cons, h, List.lookup_nil]
    by_cases h1 : c = 38
    · subst h1; decide
    · by_cases h2 : c = 62
      · subst h2; decide
      · by_cases h3 : c = 34
        · subst h3; decide
        · rw [beq_eq_false_iff_ne.mpr h1, beq_eq_false_iff_ne.mpr h2, beq_eq_false_iff_ne.mpr h3]; simp [h1, h2, h3]
  walk_at "ret"
  rw [show S (spell l) = S (l.map spell1).flatten from rfl]
  with_reducible refine' Ev.join ?j1 ?j2 ?j3 ?j4 ?j5
  case j5 => walk_at "mform"
  case j4 => rfl
  case j3 =>
    intro x m
    obtain ⟨c, _, rfl⟩ := List.mem_map.mp m
    exact Nat.le_trans (spell1_len c) (by decide)
  case j2 => simp; omega
  case j1 =>
    with_reducible refine' Ev.of (Ev.comp (L := l) (g := fun c => .str (S [c])) (fun _ => true) (fun c => .str (S (spell1 c))) [("table", .obj (SD w [(Str.ofString "&", Str.ofString "&amp;"), (Str.ofString ">", Str.ofString "&gt;"), (Str.ofString "\"", Str.ofString "&quot;")]))] ?ci ?cb ?cσ ?cfree ?cx ?ck ?cn ?cs ?clen) ?ce
    walk_at "comp"
    case ci => 
      rw [← signs_S]
      refine Itb.str ?_ ?_
      · walk_at "ev"
      · simp [S]; exact fun c m => ha c m
    case clen => omega
    case ce => rw [show List.filter (fun _ => true) l = l from List.filter_eq_self.mpr fun _ _ => rfl, List.map_map]; rfl
    case cb =>
      intro C c hc
      refine ⟨EtL.nil, fun _ => ⟨?_, by intro h; cases h⟩⟩
      rw [← key c]
      with_reducible refine' Ev.dget ?d1 ?d2 ?d3
      case d3 => walk_at "mform"
      case d1 => walk_at "ev"
      case d2 => walk_at "evl"
noncomputable def look (p : List (Int × Int)) : Int → Option Int := fun k => p.lookup k
theorem look_cons (p : List (Int × Int)) (k v : Int) : look ((k, v) :: p) = fun j => if j = k then some v else look p j := by
  funext j
  unfold look
  rw [List.lookup_cons]
  by_cases h : j = k
  · subst h; simp
  · rw [beq_eq_false_iff_ne.mpr h, if_neg h]
noncomputable def rowOf (c : Nat) : List Int := [(c / 4 : Nat), (c % 4 : Nat), 3]
noncomputable def cand (row : List Int) (p : List (Int × Int)) (j : Nat) : List Int := [0, 1, 2].filter fun k => !(look p k).isSome && !((row.drop j).any (· == k))
noncomputable def pa (c : Nat) : Nat → List (Int × Int)
  | 0 => []
  | j + 1 => ((cand (rowOf c) (pa c j) j).headD 0, (rowOf c)[j]?.getD 0) :: pa c j
theorem pa_ok : ∀ c < 16, ∀ j < 3, (cand (rowOf c) (pa c j) j).headD 0 ∈ cand (rowOf c) (pa c j) j ∧ (∀ a ∈ cand (rowOf c) (pa c j) j, (cand (rowOf c) (pa c j) j).headD 0 ≤ a) ∧ look (pa c j) ((cand (rowOf c) (pa c j) j).headD 0) = none := by decide +kernel
theorem f_tree (w : World) (n : Nat) (c : Nat) (hc : c < 16) : Fn w (n+1) 194 [.int c] (.obj (ID w (look (pa c 3)) 3)) := by
  have hrow : ((rowOf c).map AV.int) = [.int ((c : Int).fdiv 4), .int ((c : Int).fmod 4), .int 3] := by
    unfold rowOf
    rw [Int.fdiv_eq_ediv_of_nonneg _ (by decide), Int.fmod_eq_emod_of_nonneg _ (by decide)]
    simp
  refine' Fn.intro (out := .ret (.obj (ID w (look (pa c 3)) 3))) ["code"] [("code", .int c)] ?hb ?hs ?ho ?hd ?hbody ?hlen ?hout ?hbind ?hown ?hcode ?hclo ?hgl ?hbu ?hco ?hgen ?hk
  walk_at "fn"
  with_reducible refine' Ex.cons (Es.assign (v := .list ((rowOf c).map .int)) (hs := ?as) ?ae ?aw) ?ar
  case as => rfl
  case aw => exact Wr.fn (by kernel_rfl)
  case ae =>
    rw [hrow]
    with_reducible refine' Ev.lst ?l1 ?l2
    case l2 => exact (by decide : 3 ≤ 1000)
    case l1 =>
      have d1 : Op2 w n (binaryOp .FloorDiv) (.int c) (.int 4) (.int ((c : Int).fdiv 4)) := Op2.fdiv (by decide) (by decide)
      walk_at "evl"
  with_reducible refine' Ex.cons (Es.newmu (hs := ?bs) NewM.dict0 ?bw) ?br
  case bs => rfl
  case bw => exact Wr.fn (by kernel_rfl)
  with_reducible refine' Ex.cons (Es.for (l := natsL 3) (fun j => (some (.obj (ID w (look (pa c j)) j)), [("row", .list ((rowOf c).map .int)), ("parents", .mu)])) ?f1 ?f2 ?f3 ?f4 ?f5 ?f6 ?f7) ?fr
  case f2 => rfl
  case f3 => walk_at "sub"
  case f4 => exact Wr.fn (by kernel_rfl)
  case f6 => intro _; rfl
  case f7 => exact natsL_ne 3
  case f1 =>
    walk_at "range"
  case f5 =>
    intro j v hv
    obtain ⟨hj, rfl⟩ := natsL_get hv
    obtain ⟨k1, k2, k3⟩ := pa_ok c hc j hj
    generalize hleaf : (cand (rowOf c) (pa c j) j).headD 0 = leaf at k1 k2 k3
    have hcut : SubOp w n (.list ((rowOf c).map .int)) (.slc (some (j : Int)) none) (.list (((rowOf c).drop j).map .int)) := by
      have := SubOp.listcut (w := w) (n := n) (l := (rowOf c).map AV.int) (lo := some (j : Int)) (hi := none) (by simp [rowOf])
      have e : cutList ((rowOf c).map AV.int) (some (j : Int)) none = ((rowOf c).drop j).map .int := by
        have q : ∀ j < 3, sliceRange (sliceBounds (some ((j : Nat) : Int)) none none 3).1 (sliceBounds (some ((j : Nat) : Int)) none none 3).2.1 (sliceBounds (some ((j : Nat) : Int)) none none 3).2.2 = [0, 1, 2].drop j := by decide +kernel
        unfold cutList
        rw [show ((rowOf c).map AV.int).length = 3 from rfl, q j hj]
        have : j = 0 ∨ j = 1 ∨ j = 2 := by omega
        rcases this with rfl | rfl | rfl <;> rfl
      rw [e] at this; exact this
    have hget : SubOp w n (.list ((rowOf c).map .int)) (.int (j : Int)) (.int ((rowOf c)[j]?.getD 0)) := by
      refine SubOp.list (by omega) ?_ (by omega)
      have : j = 0 ∨ j = 1 ∨ j = 2 := by omega
      rcases this with rfl | rfl | rfl <;> rfl
    dsimp only
    refine Ex.weaken (σ' := [("row", .list ((rowOf c).map .int)), ("parents", .mu), ("place", .int j)]) ?_ (by walk_at "sub")
    refine Ex.nxtw (σ' := [("row", .list ((rowOf c).map .int)), ("parents", .mu), ("place", .int j), ("leaf", .int leaf)]) ?_ (by walk_at "sub")
    with_reducible refine' Ex.cons (Es.assign (v := .int leaf) (hs := ?as2) ?ae2 ?aw2) ?ar2
    case as2 => rfl
    case aw2 => exact Wr.fn (by kernel_rfl)
    case ae2 =>
      with_reducible refine' Ev.callb ?b1 ?b2 (Fc.min k1 k2)
      case b1 => walk_at "ev"
      case b2 =>
        with_reducible refine' EvL.cons ?c1 EvL.nil ?c2 ?c3
        case c2 => walk_at "nmu"
        case c3 => rfl
        case c1 =>
          with_reducible refine' Ev.of (Ev.comp (L := [0, 1, 2]) (g := .int) (fun k => !(look (pa c j) k).isSome && !(((rowOf c).drop j).any (· == k))) .int [("row", .list ((rowOf c).map .int)), ("parents", .mu), ("place", .int j)] ?ci ?cb ?cσ ?cfree ?cx ?ck ?cn ?cs ?clen) ?ce
          walk_at "comp"
          case ci =>
            rw [show ([0, 1, 2] : List Int).map AV.int = natsL 3 from rfl]
            walk_at "range"
          case clen => decide
          case ce => rfl
          case cb =>
            intro C k hk
            refine ⟨?_, fun _ => ⟨?_, by walk_at "nmu"⟩⟩
            · with_reducible refine' EtL.one (Et.of (Et.and ?a1 (fun _ => Et.and ?a2 (fun _ => Et.and_nil))) ?a3)
              case a1 =>
                with_reducible refine' Et.notind (k := k) ?n1 ?n2 ?n3 ?n4
                case n1 => walk_at "mem"
                case n2 => walk_at "ev"
                case n3 => decide
                case n4 => decide
              case a2 =>
                with_reducible refine' Et.cmp (hm := ?m1) ?m2 ?m3 (Op2.ninints (ns := (rowOf c).drop j))
                case m1 => with_unfolding_all rfl
                case m2 => walk_at "ev"
                case m3 =>
                  with_reducible refine' Ev.sub (hsub := ?s4) ?s1 ?s2 hcut
                  case s1 => walk_at "ev"
                  case s2 =>
                    with_reducible refine' Ev.slice ?s5 ?s6
                    case s5 => show Ev _ _ _ _ _ _ _ _; walk_at "ev"
                    case s6 => trivial
                  case s4 => intro o i; exact ⟨_, rfl⟩
              case a3 => simp
            · walk_at "ev"
    have e : look (pa c (j + 1)) = fun i => if i = leaf then some ((rowOf c)[j]?.getD 0) else look (pa c j) i := by
      rw [pa, look_cons, hleaf]
    rw [e]
    refine Ex.weaken (σ' := [("row", .list ((rowOf c).map .int)), ("parents", .mu), ("place", .int j), ("leaf", .int leaf)]) ?_ (by walk_at "sub")
    with_reducible refine' Ex.one (Es.setd ?x1 ?x2 ?x3 k3 ?x5 ?x6 ?x7 ?x8)
    case x1 => walk_at "mem"
    case x2 => walk_at "ev"
    case x3 => walk_at "ev"
    case x5 => omega
    case x6 => decide
    case x7 => decide
    case x8 => rfl
  case fr =>
    refine Ex.stop (Es.retd ?_)
    walk_at "ev"
noncomputable def bitB (m x : Nat) : Bool := m / 2 ^ x % 2 == 1
noncomputable def bitI (m x : Nat) : Int := (m / 2 ^ x % 2 : Nat)
theorem bitI_eq : ∀ m : Nat, m < 32 → ∀ x : Nat, x < 5 → Builtin.bitAnd (((m : Nat) : Int).fdiv (2 ^ x)) 1 = bitI m x := by decide +kernel
theorem bitI_ne (m x : Nat) : (bitI m x != 0) = bitB m x := by
  unfold bitI bitB
  have : m / 2 ^ x % 2 = 0 ∨ m / 2 ^ x % 2 = 1 := by omega
  rcases this with h | h <;> rw [h] <;> rfl
noncomputable def mAt (ms : List Nat) (k : Nat) : Nat := ms[k]?.getD 0
noncomputable def avs (ms : List Nat) : List AV := ms.map fun m => .int (m : Nat)
theorem avs_get {ms : List Nat} {k : Nat} (h : k < ms.length) : (avs ms)[k]? = some (.int (mAt ms k)) := by
  unfold avs mAt
  rw [List.getElem?_map, List.getElem?_eq_getElem h]; rfl
noncomputable def tP (ms : List Nat) (par : Nat → Nat) (x k : Nat) : Bool := bitB (mAt ms k) x && (k == 3 || !bitB (mAt ms (par k)) x)
noncomputable def cntIn (ms : List Nat) (par : Nat → Nat) (x j : Nat) : Nat := (List.range j).countP (tP ms par x)
noncomputable def cntOut (ms : List Nat) (par : Nat → Nat) : Nat → Nat
  | 0 => 0
  | x + 1 => cntOut ms par x + cntIn ms par x 4
theorem cntIn_succ (ms : List Nat) (par : Nat → Nat) (x j : Nat) : cntIn ms par x (j + 1) = cntIn ms par x j + (if tP ms par x j then 1 else 0) := by
  unfold cntIn
  rw [List.range_succ, List.countP_append, List.countP_cons, List.countP_nil]
  simp
theorem f_pieces (w : World) (n : Nat) (ms : List Nat) (p : List (Int × Int)) (par : Nat → Nat) (hl : ms.length = 4) (hm : ∀ m ∈ ms, m < 32) (hp : ∀ k < 3, look p (k : Nat) = some (par k : Nat) ∧ par k < 4) :
    Fn w (n+1) 201 [.list (avs ms), .obj (ID w (look p) 3)] (.int (cntOut ms par 5 : Nat)) := by
  have hmk : ∀ k, k < 4 → mAt ms k < 32 := fun k hk => by
    unfold mAt
    rw [List.getElem?_eq_getElem (by omega)]
    exact hm _ (List.getElem_mem _)
  have hget : ∀ k : Nat, k < 4 → SubOp w n (.list (avs ms)) (.int (k : Nat)) (.int (mAt ms k)) := fun k hk => SubOp.list (by omega) (avs_get (by simp; omega)) (by omega)
  refine' Fn.intro (out := .ret (.int (cntOut ms par 5 : Nat))) ["masks", "parents"] [("masks", .list (avs ms)), ("parents", .obj (ID w (look p) 3))] ?hb ?hs ?ho ?hd ?hbody ?hlen ?hout ?hbind ?hown ?hcode ?hclo ?hgl ?hbu ?hco ?hgen ?hk
  walk_at "fn"
  with_reducible refine' Ex.cons (Es.assign (v := .int (cntOut ms par 0 : Nat)) (hs := ?as) ?ae ?aw) ?ar
  case as => rfl
  case aw => exact Wr.fn (by kernel_rfl)
  case ae => exact Ev.of Ev.cint rfl
  with_reducible refine' Ex.cons (Es.forx (l := natsL 5) (fun j => (none, [("masks", .list (avs ms)), ("parents", .obj (ID w (look p) 3)), ("pieces", .int (cntOut ms par j : Nat))])) none [("pieces", .int (cntOut ms par 5 : Nat))] ?f1 ?f2 ?f3 ?f4 ?f5 ?f6 ?f7 ?f8 ?f9) ?fr
  case f1 => walk_at "range"
  case f2 => rfl
  case f3 => walk_at "sub"
  case f4 => exact Wr.fn (by kernel_rfl)
  case f6 => intro _; rfl
  case f7 => exact natsL_ne 5
  case f8 => rfl
  case f9 => exact forall_cons (.tail _ (.tail _ (.head _))) forall_nil
  case fr =>
    walk_at "ret"
    walk_at "ev"
  case f5 =>
    intro x v hv
    obtain ⟨hx, rfl⟩ := natsL_get hv
    dsimp only
    with_reducible refine' Ex.one ?o1
    with_reducible refine' Es.forx (l := natsL 4) (fun j => (none, [("masks", .list (avs ms)), ("parents", .obj (ID w (look p) 3)), ("x", .int x), ("pieces", .int ((cntOut ms par x + cntIn ms par x j : Nat)))])) none _ ?h1 ?h2 ?h3 ?h4 ?h5 ?h6 ?h7 ?h8 ?h9
    case h1 => walk_at "range"
    case h2 => rfl
    case h3 => exact forall_cons (by walk_at "mem") (forall_cons (by walk_at "mem") (forall_cons (by walk_at "mem") (forall_cons (by rw [show cntIn ms par x 0 = 0 from rfl, Nat.add_zero]; walk_at "mem") forall_nil)))
    case h4 => exact Wr.fn (by kernel_rfl)
    case h6 => intro _; rfl
    case h7 => exact natsL_ne 4
    case h8 => rfl
    case h9 => exact forall_cons (.head _) (forall_cons (.tail _ (.head _)) (forall_cons (.tail _ (.tail _ (.tail _ (.head _)))) forall_nil))
    case h5 =>
      intro k v hv
      obtain ⟨hk, rfl⟩ := natsL_get hv
      dsimp only
      refine Ex.weaken (σ' := [("masks", .list (avs ms)), ("parents", .obj (ID w (look p) 3)), ("x", .int x), ("k", .int k), ("pieces", .int ((cntOut ms par x + cntIn ms par x k : Nat)))]) ?_ (by walk_at "sub")
      have hx5 : (2 : Int) ^ ((x : Nat) : Int).toNat = 2 ^ x := by simp
      have s1 : SubOp w n (.list (avs ms)) (.int (k : Nat)) (.int (mAt ms k)) := hget k hk
      have o1 : ∀ m : Nat, Op2 w n (binaryOp .RShift) (.int m) (.int (x : Nat)) (.int ((m : Int).fdiv (2 ^ x))) := fun m => by
        have := Op2.shr (w := w) (n := n) (i := m) (j := (x : Nat)) (by omega)
        rwa [hx5] at this
      have o3 := o1 (mAt ms k)
      have b1 : ∀ i, i < 4 → Op2 w n (binaryOp .BitAnd) (.int ((mAt ms i : Int).fdiv (2 ^ x))) (.int 1) (.int (bitI (mAt ms i) x)) := fun i hi => by
        rw [← bitI_eq _ (hmk i hi) x hx]; exact Op2.band
      have b3 := b1 k hk
      with_reducible refine' Ex.one (Es.ifb (c := tP ms par x k) ?i1 ?i2)
      case i1 =>
        with_reducible refine' Et.of (Et.and (b := bitB (mAt ms k) x) (c := (k == 3 || !bitB (mAt ms (par k)) x)) ?a1 ?a2) ?a3
        case a3 => rfl
        case a1 =>
          rw [← bitI_ne]
          with_reducible refine' Et.plain (hv := ?u1) (he := ?u2) ?u3 Tr.int
          case u1 => walk_at "nmu"
          case u2 => intro _; rfl
          case u3 => walk_at "ev"
        case a2 =>
          intro _
          with_reducible refine' Et.of (Et.and ?q1 (fun _ => Et.and_nil)) ?q2
          case q2 => exact Bool.and_true _
          case q1 =>
            with_reducible refine' Et.of (Et.or (b := (k == 3)) (c := !bitB (mAt ms (par k)) x) ?r1 ?r2) ?r3
            case r3 => rfl
            case r1 =>
              have : Op2 w n (compareOp .Eq) (.int (k : Nat)) (.int 3) (.bool (k == 3)) := by
                rw [show (k == 3) = (((k : Nat) : Int) == 3) from by
                  by_cases h : k = 3
                  · subst h; rfl
                  · rw [beq_eq_false_iff_ne.mpr h, beq_eq_false_iff_ne.mpr (by omega)]]
                exact Op2.eq
              with_reducible refine' Et.cmp (hm := ?m1) ?m2 ?m3 this
              case m1 => with_unfolding_all rfl
              case m2 => walk_at "ev"
              case m3 => walk_at "ev"
            case r2 =>
              intro hk3
              have hk3' : k < 3 := by
                have : k ≠ 3 := by simpa using hk3
                omega
              obtain ⟨hp1, hp2⟩ := hp k hk3'
              have d1 : SubOp w n (.obj (ID w (look p) 3)) (.int (k : Nat)) (.int (par k : Nat)) := SubOp.dict hp1
              have s2 : SubOp w n (.list (avs ms)) (.int (par k : Nat)) (.int (mAt ms (par k))) := hget _ hp2
              have o2 := o1 (mAt ms (par k))
              have b2 := b1 (par k) hp2
              with_reducible refine' Et.of (Et.or (b := !bitB (mAt ms (par k)) x) ?t1 (fun _ => Et.or_nil)) ?t2
              case t2 => exact Bool.or_false _
              case t1 =>
                with_reducible refine' Et.not ?t3
                rw [← bitI_ne]
                with_reducible refine' Et.plain (hv := ?u1) (he := ?u2) ?u3 Tr.int
                case u1 => walk_at "nmu"
                case u2 => intro _; rfl
                case u3 => walk_at "ev"
      case i2 =>
        rw [cntIn_succ, ← Nat.add_assoc]
        cases ht : tP ms par x k with
        | false =>
          simp only [Bool.false_eq_true, if_false, Nat.add_zero]
          exact Ex.nxtw Ex.nil (by walk_at "sub")
        | true =>
          simp only [if_true]
          rw [show (((cntOut ms par x + cntIn ms par x k + 1 : Nat)) : Int) = ((cntOut ms par x + cntIn ms par x k : Nat) : Int) + 1 from by omega]
          with_reducible refine' Ex.nxtw (Ex.one (Es.aug (hd := ?y1) (hc := ?y2) ?y3 ?y4 Op2.iadd ?y5)) ?y6
          case y1 => decide
          case y2 => decide
          case y3 => walk_at "mem"
          case y4 => walk_at "ev"
          case y5 => exact Wr.fn (by kernel_rfl)
          case y6 => walk_at "sub"
noncomputable def rep (c : Nat) (r l : List Nat) : List Nat := (l.map fun d => if d = c then r else [d]).flatten
noncomputable def stepOk (c : Nat) (r l : List Nat) : Bool :=
  if (Builtin.Str.occurrences (S l) (S [c]) 0 (S l).length 1).isEmpty then decide (rep c r l = l) else decide (Txt.replace (S l) (S [c]) (S r) = S (rep c r l))
noncomputable def ampL : List Nat := [38, 97, 109, 112, 59]
noncomputable def gtL : List Nat := [38, 103, 116, 59]
noncomputable def quotL : List Nat := [38, 113, 117, 111, 116, 59]
noncomputable def escL (l : List Nat) : List Nat := rep 34 quotL (rep 62 gtL (rep 38 ampL l))
noncomputable def escOk (l : List Nat) : Bool := stepOk 38 ampL l && stepOk 62 gtL (rep 38 ampL l) && stepOk 34 quotL (rep 62 gtL (rep 38 ampL l)) && decide (l.length ≤ 100) && decide ((rep 38 ampL l).length ≤ 100) && decide ((rep 62 gtL (rep 38 ampL l)).length ≤ 100)
theorem stepOk_spec {c : Nat} {r l : List Nat} (h : stepOk c r l = true) : ((Builtin.Str.occurrences (S l) (S [c]) 0 (S l).length 1).isEmpty = false → Txt.replace (S l) (S [c]) (S r) = S (rep c r l)) ∧
    ((Builtin.Str.occurrences (S l) (S [c]) 0 (S l).length 1).isEmpty = true → S l = S (rep c r l)) := by
  unfold stepOk at h
  refine ⟨fun e => ?_, fun e => ?_⟩
  · rw [e] at h; simpa using h
  · rw [e] at h; simp at h; rw [h]
theorem repFit {l r : List Nat} (h : l.length ≤ 100) (hr : r.length ≤ 6) : (S l).length + ((S l).length + 1) * (S r).length ≤ 16777216 := by
  rw [S_length, S_length]
  have : (l.length + 1) * r.length ≤ 101 * 6 := Nat.mul_le_mul (by omega) hr
  omega
theorem f_escape (w : World) (n : Nat) (l : List Nat) (h : escOk l = true) : Fn w (n+1) 155 [.str (S l)] (.str (S (escL l))) := by
  unfold escL
  unfold escOk at h
  simp only [Bool.and_eq_true, decide_eq_true_eq] at h
  obtain ⟨⟨⟨⟨⟨h1, h2⟩, h3⟩, l1⟩, l2⟩, l3⟩ := h
  have a1 := stepOk_spec h1
  have a2 := stepOk_spec h2
  have a3 := stepOk_spec h3
  have f1 := repFit (r := ampL) l1 (by decide)
  have f2 := repFit (r := gtL) l2 (by decide)
  have f3 := repFit (r := quotL) l3 (by decide)
  rw [show S [38] = Str.ofString "&" from by decide, show S ampL = Str.ofString "&amp;" from by decide] at a1
  rw [show S [62] = Str.ofString ">" from by decide, show S gtL = Str.ofString "&gt;" from by decide] at a2
  rw [show S [34] = Str.ofString "\"" from by decide, show S quotL = Str.ofString "&quot;" from by decide] at a3
  rw [show S ampL = Str.ofString "&amp;" from by decide] at f1
  rw [show S gtL = Str.ofString "&gt;" from by decide] at f2
  rw [show S quotL = Str.ofString "&quot;" from by decide] at f3
  refine' Fn.intro (out := .ret (.str (S (rep 34 quotL (rep 62 gtL (rep 38 ampL l)))))) ["text"] [("text", .str (S l))] ?hb ?hs ?ho ?hd ?hbody ?hlen ?hout ?hbind ?hown ?hcode ?hclo ?hgl ?hbu ?hco ?hgen ?hk
  walk_at "fn"
  with_reducible refine' Ex.stop (Es.try ?body)
  with_reducible refine' Ex.cons (Es.ifrep (X := S l) (Y := S (rep 38 ampL l)) ?x1 ?x2 ?x3 f1 a1.1 a1.2 ?x4 ?x5 ?x6 ?x7 ?x8 ?x9) ?r1
  case x1 => walk_at "mem"
  case x2 => exact Wr.fn (by kernel_rfl)
  case x3 => decide
  case x4 => decide
  case x5 => decide
  case x6 => with_unfolding_all rfl
  case x7 => rfl
  case x8 => rfl
  case x9 => walk_at "mform"
  with_reducible refine' Ex.cons (Es.ifrep (X := S (rep 38 ampL l)) (Y := S (rep 62 gtL (rep 38 ampL l))) ?y1 ?y2 ?y3 f2 a2.1 a2.2 ?y4 ?y5 ?y6 ?y7 ?y8 ?y9) ?r2
  case y1 => walk_at "mem"
  case y2 => exact Wr.fn (by kernel_rfl)
  case y3 => decide
  case y4 => decide
  case y5 => decide
  case y6 => with_unfolding_all rfl
  case y7 => rfl
  case y8 => rfl
  case y9 => walk_at "mform"
  with_reducible refine' Ex.cons (Es.ifrep (X := S (rep 62 gtL (rep 38 ampL l))) (Y := S (rep 34 quotL (rep 62 gtL (rep 38 ampL l)))) ?z1 ?z2 ?z3 f3 a3.1 a3.2 ?z4 ?z5 ?z6 ?z7 ?z8 ?z9) ?r3
  case z1 => walk_at "mem"
  case z2 => exact Wr.fn (by kernel_rfl)
  case z3 => decide
  case z4 => decide
  case z5 => decide
  case z6 => with_unfolding_all rfl
  case z7 => rfl
  case z8 => rfl
  case z9 => walk_at "mform"
  walk_at "ret"
  walk_at "ev"
theorem f_thing (w : World) (n : Nat) (t : AV) (ht : PlainT t) : Fn w (n+1) 179 [t] (.thing t) := by
  have htm : t ≠ .mu := by intro h; rw [h] at ht; exact ht
  refine' Fn.intro (out := .ret (.thing t)) ["tag"] [("tag", t)] ?hb ?hs ?ho ?hd ?hbody ?hlen ?hout ?hbind ?hown ?hcode ?hclo ?hgl ?hbu ?hco ?hgen ?hk
  walk_at "fn"
  with_reducible refine' Ex.cons (Es.defmu ⟨178, 174, [(174, 4, "_law_thing.<locals>.thing")]⟩ (174, 4, "_law_thing.<locals>.thing") ?d1 ?d2 ?d3 ?d4 ?d5 ?d6 ?d7 ?d8 ?d9 ?d10 ?d11) ?r1
  case d1 => simp [makers]
  case d2 => exact .head _
  case d3 => rfl
  case d4 => rfl
  case d5 => rfl
  case d6 => rfl
  case d7 => rfl
  case d8 => rfl
  case d9 => first | rfl | kernel_rfl | with_unfolding_all rfl
  case d10 => exact fun _ => rfl
  case d11 => exact Wr.fn (by kernel_rfl)
  with_reducible refine' Ex.cons (Es.settag (t := t) ?t1 ?t2 htm ?t3 ?t4 ?t5) ?r2
  case t1 => walk_at "mem"
  case t2 => walk_at "ev"
  case t3 => decide
  case t4 => decide
  case t5 => rfl
  with_reducible refine' Ex.stop (Es.retthing ?v)
  walk_at "ev"
theorem f_div2n1n (w : World) (n : Nat) (a b m : Int) (hb : b ≠ 0) (hl : b.natAbs.log2 < 9000) (hbits : (Builtin.Int.intBits a : Int) - m ≤ 4000) : Fn w (n+1) 28 [.int a, .int b, .int m] (.tuple [.int (a.fdiv b), .int (a.fmod b)]) := by
  refine' Fn.intro (out := .ret (.tuple [.int (a.fdiv b), .int (a.fmod b)])) ["a","b","n"] [("a", .int a), ("b", .int b), ("n", .int m)] ?hb ?hs ?ho ?hd ?hbody ?hlen ?hout ?hbind ?hown ?hcode ?hclo ?hgl ?hbu ?hco ?hgen ?hk
  walk_at "fn"
  have hg : ∃ t, nsIn (KF w) mainGlobals (Str.ofString "_DIV_LIMIT") = some (some (.int 4000 t)) := ⟨_, rfl⟩
  obtain ⟨tk, hg⟩ := hg
  have o1 : Op2 w n (compareOp .LtE) (.int ((Builtin.Int.intBits a : Nat) - m)) (.int 4000) (.bool true) := by
    have := Op2.le (w := w) (n := n) (i := (Builtin.Int.intBits a : Nat) - m) (j := 4000)
    rwa [decide_eq_true hbits] at this
  with_reducible refine' Ex.stop (Es.ift ?t ?b)
  case t =>
    with_reducible refine' Et.cmp (hm := ?m1) ?m2 ?m3 o1
    case m1 => with_unfolding_all rfl
    case m2 =>
      with_reducible refine' Ev.bin ?a1 ?a2 Op2.sub
      case a1 =>
        with_reducible refine' Ev.bitlen ?l1 ?l2
        case l1 => walk_at "ev"
        case l2 => walk_at "mform"
      case a2 => walk_at "ev"
    case m3 =>
      with_reducible refine' Ev.rawint (t := tk) (Ev.glob (hd := ?g3) ?g1 ?g2)
      case g1 => rfl
      case g2 => exact hg
      case g3 => decide
  case b =>
    walk_at "ret"
    with_reducible refine' Ev.callb ?c1 ?c2 (Fc.divmod hb hl)
    case c1 => walk_at "ev"
    case c2 => walk_at "evl"
noncomputable def pvL (m : Nat) : List Nat → Nat
  | [] => 0
  | d :: r => d + 2 ^ m * pvL m r
theorem pvL_append (m : Nat) : ∀ a b : List Nat, pvL m (a ++ b) = pvL m a + 2 ^ (m * a.length) * pvL m b
  | [], b => by simp [pvL]
  | d :: r, b => by
    rw [List.cons_append, pvL, pvL, pvL_append m r b, List.length_cons, Nat.mul_add, Nat.mul_succ, Nat.pow_add, ← Nat.mul_assoc, Nat.add_assoc, Nat.mul_comm (2 ^ (m * r.length)) (2 ^ m)]
theorem pvL_lt (m : Nat) : ∀ l : List Nat, (∀ d ∈ l, d < 2 ^ m) → pvL m l < 2 ^ (m * l.length)
  | [], _ => by simp [pvL]
  | d :: r, h => by
    have h1 := pvL_lt m r fun x hx => h x (.tail _ hx)
    have h2 := h d (.head _)
    rw [pvL, List.length_cons, Nat.mul_succ, Nat.pow_add, Nat.mul_comm (2 ^ (m * r.length))]
    have h3 : 2 ^ m * pvL m r + 2 ^ m ≤ 2 ^ m * 2 ^ (m * r.length) := by
      rw [← Nat.mul_succ]; exact Nat.mul_le_mul_left _ h1
    omega
noncomputable def seg (ds : List Nat) (L R : Nat) : List Nat := (ds.drop L).take (R - L)
theorem seg_len {ds : List Nat} {L R : Nat} (h1 : L ≤ R) (h2 : R ≤ ds.length) : (seg ds L R).length = R - L := by
  unfold seg; rw [List.length_take, List.length_drop]; omega
theorem seg_split {ds : List Nat} {L M R : Nat} (h1 : L ≤ M) (h2 : M ≤ R) : seg ds L R = seg ds L M ++ seg ds M R := by
  unfold seg
  have e : R - L = (M - L) + (R - M) := by omega
  rw [e, List.take_add, List.drop_drop]
  congr 3
  omega
theorem seg_one {ds : List Nat} {L : Nat} (h : L < ds.length) : seg ds L (L + 1) = [ds[L]] := by
  unfold seg
  rw [show L + 1 - L = 1 by omega, List.drop_eq_getElem_cons h]; rfl
theorem seg_mem {ds : List Nat} {L R d : Nat} (h : d ∈ seg ds L R) : d ∈ ds := List.mem_of_mem_drop (List.mem_of_mem_take h)
theorem inner_d2i {p : Nat → Pos} {k0 k1 : Nat} (w : World) (m : Nat) (ds : List Nat) (cl : List (Str × Addr)) (hm : m ≤ 1000) (hlen : ds.length ≤ 100) (hd : ∀ d ∈ ds, d < 2 ^ m)
    {params : Arguments} {body : List Stmt} {scope : Scope}
    (hp : params = { posonlyargs := [], args := [{ arg := "L", annotation := none, pos := p 0 }, { arg := "R", annotation := none, pos := p 1 }], vararg := none, kwonlyargs := [], kw_defaults := [], kwarg := none, defaults := [] })
    (hs : scope = { kind := .function, names := [("L", .local), ("R", .local), ("mid", .local), ("shift", .local), ("digits", .free), ("inner", .free), ("n", .free)], isGenerator := false, isCoroutine := false })
    (hbody : body = [.If (.Compare (.BinOp (.Name (Str.ofString "L") (p 2)) .Add (.Constant (.int 1) k0 (p 3)) (p 4)) [.Eq] [.Name (Str.ofString "R") (p 5)] (p 6))
        [.Return (some (.Subscript (.Name (Str.ofString "digits") (p 7)) (.Name (Str.ofString "L") (p 8)) (p 9))) (p 10)] [] (p 11),
      .Assign [.Name (Str.ofString "mid") (p 12)] (.BinOp (.BinOp (.Name (Str.ofString "L") (p 13)) .Add (.Name (Str.ofString "R") (p 14)) (p 15)) .RShift (.Constant (.int 1) k1 (p 16)) (p 17)) (p 18),
      .Assign [.Name (Str.ofString "shift") (p 19)] (.BinOp (.BinOp (.Name (Str.ofString "mid") (p 20)) .Sub (.Name (Str.ofString "L") (p 21)) (p 22)) .Mult (.Name (Str.ofString "n") (p 23)) (p 24)) (p 25),
      .Return (some (.BinOp (.BinOp (.Call (.Name (Str.ofString "inner") (p 26)) [.Name (Str.ofString "mid") (p 27), .Name (Str.ofString "R") (p 28)] [] (p 29)) .LShift (.Name (Str.ofString "shift") (p 30)) (p 31)) .Add
        (.Call (.Name (Str.ofString "inner") (p 32)) [.Name (Str.ofString "L") (p 33), .Name (Str.ofString "mid") (p 34)] [] (p 35)) (p 36))) (p 37)]) (q : Str) :
    ∀ k n L R, L < R → R ≤ ds.length → R - L ≤ 2 ^ k → FcC w (n + k + 1) q params body scope cl [("digits", .list (avs ds)), ("inner", .fn q params body scope cl), ("n", .int m)] [.int (L : Nat), .int (R : Nat)] (.int (pvL m (seg ds L R) : Nat)) := by
  subst hp hs hbody
  have hdig : ∀ n, ∀ L : Nat, L < ds.length → SubOp w n (.list (avs ds)) (.int (L : Nat)) (.int (mAt ds L)) := fun n L h => SubOp.list (by omega) (avs_get h) (by omega)
  intro k
  induction k with
  | zero =>
    intro n L R hLR hR hk
    have hR1 : R = L + 1 := by simp at hk; omega
    subst hR1
    refine' FcC.intro (out := .ret (.int (pvL m (seg ds L (L + 1)) : Nat))) ["L", "R"] [("L", .int (L : Nat)), ("R", .int ((L + 1 : Nat))), ("digits", .list (avs ds))] ?hb ?hs ?hlen ?hout ?hbind ?hown ?hcap ?hco ?hgen ?hk
    case hs => walk_at "sub"
    case hlen => rfl
    case hout => rfl
    case hbind => intro fd e1 e2 e3 vs h; obtain ⟨⟩ := fd; subst e1 e2 e3; exact len2 h (fun _ _ => rfl)
    case hown => rfl
    case hcap => exact all_cons rfl (all_cons rfl (all_cons rfl all_nil))
    case hco => rfl
    case hgen => rfl
    case hk => rfl
    case hb =>
      intro f code L0
      have o1 : Op2 w n (compareOp .Eq) (.int ((L : Nat) + 1)) (.int ((L + 1 : Nat))) (.bool true) := by
        have := Op2.eq (w := w) (n := n) (i := (L : Nat) + 1) (j := ((L + 1 : Nat)))
        rwa [show (((L : Nat) : Int) + 1 == ((L + 1 : Nat) : Int)) = true from by simp] at this
      have s1 := hdig n L (by omega)
      with_reducible refine' Ex.stop (Es.ift ?t ?b)
      case t =>
        with_reducible refine' Et.cmp (hm := ?m1) ?m2 ?m3 o1
        case m1 => with_unfolding_all rfl
        case m2 => walk_at "ev"
        case m3 => walk_at "ev"
      case b =>
        walk_at "ret"
        with_reducible refine' Ev.of (v := .int (mAt ds L)) ?e1 ?e2
        case e1 => walk_at "ev"
        case e2 => rw [seg_one (by omega)]; simp [pvL, mAt, List.getElem?_eq_getElem (show L < ds.length by omega)]
  | succ k ih =>
    intro n L R hLR hR hk
    by_cases h1 : R = L + 1
    · subst h1
      exact ih (n + 1) L (L + 1) hLR hR (by rw [show L + 1 - L = 1 by omega]; exact Nat.one_le_two_pow) |> fun h => by
        rw [show n + (k + 1) + 1 = n + 1 + k + 1 by omega]; exact h
    · have hk2 : R - L ≤ 2 ^ k * 2 := by rw [← Nat.pow_succ]; exact hk
      generalize hM : (L + R) / 2 = M
      have hLM : L < M := by omega
      have hMR : M < R := by omega
      have c1 := ih n M R hMR hR (by omega)
      have c2 := ih n L M hLM (by omega) (by omega)
      have lt1 := pvL_lt m (seg ds M R) fun d h => hd d (seg_mem h)
      rw [seg_len (by omega) hR] at lt1
      have hb1 : m * (R - M) ≤ 1000 * 100 := Nat.mul_le_mul hm (by omega)
      have hb2 : (M - L) * m ≤ 100 * 1000 := Nat.mul_le_mul (by omega) hm
      have hval : pvL m (seg ds L R) = pvL m (seg ds L M) + 2 ^ (m * (M - L)) * pvL m (seg ds M R) := by
        rw [seg_split (show L ≤ M by omega) (show M ≤ R by omega), pvL_append, seg_len (by omega) (by omega)]
      refine' FcC.intro (out := .ret (.int (pvL m (seg ds L R) : Nat))) ["L", "R"] [("L", .int (L : Nat)), ("R", .int (R : Nat)), ("digits", .list (avs ds)), ("inner", _), ("n", .int m)] ?hb ?hs ?hlen ?hout ?hbind ?hown ?hcap ?hco ?hgen ?hk
      case hs => walk_at "sub"
      case hlen => rfl
      case hout => rfl
      case hbind => intro fd e1 e2 e3 vs h; obtain ⟨⟩ := fd; subst e1 e2 e3; exact len2 h (fun _ _ => rfl)
      case hown => rfl
      case hcap => exact all_cons rfl (all_cons rfl (all_cons rfl all_nil))
      case hco => rfl
      case hgen => rfl
      case hk => rfl
      case hb =>
        intro f code L0
        have o1 : Op2 w (n + (k + 1)) (compareOp .Eq) (.int ((L : Nat) + 1)) (.int (R : Nat)) (.bool false) := by
          have := Op2.eq (w := w) (n := n + (k + 1)) (i := (L : Nat) + 1) (j := (R : Nat))
          rwa [show (((L : Nat) : Int) + 1 == ((R : Nat) : Int)) = false from beq_eq_false_iff_ne.mpr (by omega)] at this
        have o2 : Op2 w (n + (k + 1)) (binaryOp .RShift) (.int ((L : Nat) + (R : Nat))) (.int 1) (.int (M : Nat)) := by
          have := Op2.shr (w := w) (n := n + (k + 1)) (i := (L : Nat) + (R : Nat)) (j := 1) (by decide)
          rw [show (2 : Int) ^ (1 : Int).toNat = 2 from rfl, Int.fdiv_eq_ediv_of_nonneg _ (by decide), show (((L : Nat) : Int) + ((R : Nat) : Int)) / 2 = ((M : Nat) : Int) by omega] at this
          exact this
        have o3 : Op2 w (n + (k + 1)) (binaryOp .Mult) (.int ((M : Nat) - (L : Nat))) (.int (m : Nat)) (.int (((M - L) * m : Nat))) := by
          have := Op2.mul (w := w) (n := n + (k + 1)) (i := (M : Nat) - (L : Nat)) (j := (m : Nat)) (IntMulOk.of_left (intBits_le_64 (by omega) (by omega)))
          rw [show (((M : Nat) : Int) - ((L : Nat) : Int)) * ((m : Nat) : Int) = (((M - L) * m : Nat) : Int) by
            rw [Int.natCast_mul, Int.natCast_sub (by omega)]] at this
          exact this
        have o4 : Op2 w (n + (k + 1)) (binaryOp .LShift) (.int (pvL m (seg ds M R) : Nat)) (.int (((M - L) * m : Nat))) (.int (pvL m (seg ds M R) * 2 ^ ((M - L) * m) : Nat)) := by
          have hbt := intBits_le (a := (pvL m (seg ds M R) : Nat)) (k := m * (R - M)) (by simpa using lt1)
          have := Op2.shl (w := w) (n := n + (k + 1)) (i := (pvL m (seg ds M R) : Nat)) (j := (((M - L) * m : Nat))) (by omega) (by
            have e : (2 : Int) ^ 27 = 134217728 := rfl
            rw [e]; omega)
          rw [show (((M - L) * m : Nat) : Int).toNat = (M - L) * m from rfl] at this
          rw [show ((pvL m (seg ds M R) * 2 ^ ((M - L) * m) : Nat) : Int) = ((pvL m (seg ds M R) : Nat) : Int) * 2 ^ ((M - L) * m) by rw [Int.natCast_mul, Int.natCast_pow]; rfl]
          exact this
        have cσ : ∀ (env : Env) (σ : Sto), True := fun _ _ => trivial
        with_reducible refine' Ex.cons (Es.iff ?t Ex.nil) ?r1
        case t =>
          with_reducible refine' Et.cmp (hm := ?m1) ?m2 ?m3 o1
          case m1 => with_unfolding_all rfl
          case m2 => walk_at "ev"
          case m3 => walk_at "ev"
        walk_at "asg"
        walk_at "asg"
        refine Ex.weaken (σ' := [("L", .int (L : Nat)), ("R", .int (R : Nat)), ("digits", .list (avs ds)), ("inner", _), ("n", .int m), ("mid", .int (M : Nat)), ("shift", .int (((M - L) * m : Nat)))]) ?_ (by walk_at "sub")
        walk_at "ret"
        with_reducible refine' Ev.of (v := .int (((pvL m (seg ds M R) * 2 ^ ((M - L) * m) : Nat) : Int) + (pvL m (seg ds L M) : Nat))) ?e1 ?e2
        case e2 => rw [hval, Nat.mul_comm m, Nat.mul_comm (2 ^ _)]; congr 1; omega
        case e1 =>
          with_reducible refine' Ev.bin (Ev.bin ?b1 ?b2 o4) ?b3 Op2.add
          case b2 => walk_at "ev"
          case b1 =>
            with_reducible refine' Ev.callclo ?x1 ?x2 c1 ?x3 ?x4
            case x1 => walk_at "ev"
            case x2 => walk_at "evl"
            case x3 => exact fun _ _ h => h
            case x4 => exact all_cons ⟨by walk_at "mem", by walk_at "nmu", (fun h => nomatch (show some NameKind.free = some NameKind.local from h)), rfl⟩ (all_cons ⟨by walk_at "mem", by walk_at "nmu", (fun h => nomatch (show some NameKind.free = some NameKind.local from h)), rfl⟩ (all_cons ⟨by walk_at "mem", by walk_at "nmu", (fun h => nomatch (show some NameKind.free = some NameKind.local from h)), rfl⟩ all_nil))
          case b3 =>
            with_reducible refine' Ev.callclo ?x1 ?x2 c2 ?x3 ?x4
            case x1 => walk_at "ev"
            case x2 => walk_at "evl"
            case x3 => exact fun _ _ h => h
            case x4 => exact all_cons ⟨by walk_at "mem", by walk_at "nmu", (fun h => nomatch (show some NameKind.free = some NameKind.local from h)), rfl⟩ (all_cons ⟨by walk_at "mem", by walk_at "nmu", (fun h => nomatch (show some NameKind.free = some NameKind.local from h)), rfl⟩ (all_cons ⟨by walk_at "mem", by walk_at "nmu", (fun h => nomatch (show some NameKind.free = some NameKind.local from h)), rfl⟩ all_nil))
noncomputable def posD2i : List Pos := [⟨50, 14, 50, 15⟩, ⟨50, 17, 50, 18⟩, ⟨51, 11, 51, 12⟩, ⟨51, 15, 51, 16⟩, ⟨51, 11, 51, 16⟩, ⟨51, 20, 51, 21⟩, ⟨51, 11, 51, 21⟩, ⟨52, 19, 52, 25⟩, ⟨52, 26, 52, 27⟩, ⟨52, 19, 52, 28⟩, ⟨52, 12, 52, 28⟩, ⟨51, 8, 52, 28⟩, ⟨53, 8, 53, 11⟩, ⟨53, 14, 53, 15⟩, ⟨53, 18, 53, 19⟩, ⟨53, 14, 53, 19⟩, ⟨53, 23, 53, 24⟩, ⟨53, 14, 53, 24⟩, ⟨53, 8, 53, 24⟩, ⟨54, 8, 54, 13⟩, ⟨54, 17, 54, 20⟩, ⟨54, 23, 54, 24⟩, ⟨54, 17, 54, 24⟩, ⟨54, 28, 54, 29⟩, ⟨54, 16, 54, 29⟩, ⟨54, 8, 54, 29⟩, ⟨55, 16, 55, 21⟩, ⟨55, 22, 55, 25⟩, ⟨55, 27, 55, 28⟩, ⟨55, 16, 55, 29⟩, ⟨55, 33, 55, 38⟩, ⟨55, 16, 55, 38⟩, ⟨55, 42, 55, 47⟩, ⟨55, 48, 55, 49⟩, ⟨55, 51, 55, 54⟩, ⟨55, 42, 55, 55⟩, ⟨55, 15, 55, 55⟩, ⟨55, 8, 55, 55⟩]
theorem f_digits2int (w : World) (n : Nat) (ds : List Nat) (m : Nat) (hm : m ≤ 1000) (hlen : ds.length ≤ 100) (hd : ∀ d ∈ ds, d < 2 ^ m) : Fn w (n + 9) 49 [.list (avs ds), .int (m : Nat)] (.int (pvL m ds : Nat)) := by
  refine' Fn.intro (n := n + 8) (out := .ret (.int (pvL m ds : Nat))) ["digits", "n"] [("digits", .list (avs ds)), ("n", .int (m : Nat))] ?hb ?hs ?ho ?hd ?hbody ?hlen ?hout ?hbind ?hown ?hcode ?hclo ?hgl ?hbu ?hco ?hgen ?hk
  walk_at "fn"
  with_reducible refine' Ex.cons (Es.deffn ⟨48, 44, [(50, 4, "_digits2int.<locals>.inner")]⟩ (50, 4, "_digits2int.<locals>.inner") ?d1 ?d2 ?d3 ?d4 ?d5 ?d6 ?d7 ?d8 ?d9 ?d10 ?d11) ?r1
  case d1 => simp [makers]
  case d2 => exact .head _
  case d3 => rfl
  case d4 => rfl
  case d5 => rfl
  case d6 => rfl
  case d7 => rfl
  case d8 => rfl
  case d9 => first | rfl | kernel_rfl | with_unfolding_all rfl
  case d10 => exact fun _ => rfl
  case d11 => exact Wr.fn (by kernel_rfl)
  have tr : Tr w (n + 8) (.list (avs ds)) (!ds.isEmpty) := by
    have := Tr.list (w := w) (n := n + 8) (l := avs ds) (by unfold avs; rw [List.length_map]; omega)
    rwa [show (avs ds).isEmpty = ds.isEmpty from by cases ds <;> rfl] at this
  have fl : Fc w (n + 8) (.builtin "len") [.list (avs ds)] (.int (ds.length : Nat)) := by
    have := Fc.len (w := w) (n := n + 8) (l := avs ds) (by unfold avs; rw [List.length_map]; omega)
    rwa [show (avs ds).length = ds.length from by unfold avs; rw [List.length_map]] at this
  walk_at "ret"
  with_reducible refine' Ev.ifexp (b := !ds.isEmpty) ?t ?x ?y
  case t =>
    with_reducible refine' Et.plain (hv := ?u1) (he := ?u2) ?u3 tr
    case u1 => walk_at "nmu"
    case u2 => intro _; rfl
    case u3 => walk_at "ev"
  case y =>
    intro h
    have : ds = [] := by simpa using h
    subst this
    exact Ev.of Ev.cint rfl
  case x =>
    intro h
    have hne : ds ≠ [] := by simpa using h
    have h0 : 0 < ds.length := List.length_pos_iff.mpr hne
    rw [show pvL m ds = pvL m (seg ds 0 ds.length) from by unfold seg; simp]
    with_reducible refine' Ev.callclo (Ev.var (hd := ?y1) (hc := ?y2) mem_upd) ?x2 ?hcc ?x3 ?x4
    case y1 => decide
    case y2 => decide
    case hcc => exact inner_d2i (p := fun i => (posD2i[i]?).getD default) (k0 := 0) (k1 := 0) w m ds _ hm hlen hd rfl rfl rfl "_digits2int.<locals>.inner" 7 n 0 ds.length h0 (Nat.le_refl _) (by have : (2:Nat)^7 = 128 := rfl; omega)
    case x2 =>
      with_reducible refine' EvL.cons (hv := ?v3) (he := ?v4) ?v1 ?v2
      case v3 => walk_at "nmu"
      case v4 => rfl
      case v1 => exact Ev.of Ev.cint rfl
      case v2 =>
        with_reducible refine' EvL.cons (hv := ?w3) (he := ?w4) ?w1 EvL.nil
        case w3 => walk_at "nmu"
        case w4 => rfl
        case w1 =>
          with_reducible refine' Ev.callb ?c1 ?c2 fl
          case c1 => walk_at "ev"
          case c2 => walk_at "evl"
    case x3 => exact fun _ _ h => clOf_look h
    case x4 => exact all_cons ⟨by walk_at "mem", by walk_at "nmu", (fun h => nomatch (show some NameKind.cell = some NameKind.local from h)), rfl⟩ (all_cons ⟨mem_upd, by walk_at "nmu", (fun h => nomatch (show some NameKind.cell = some NameKind.local from h)), rfl⟩ (all_cons ⟨by walk_at "mem", by walk_at "nmu", (fun h => nomatch (show some NameKind.cell = some NameKind.local from h)), rfl⟩ all_nil))
noncomputable def digs (m : Nat) : Nat → Nat → List Nat
  | 0, _ => []
  | c + 1, x => x % 2 ^ m :: digs m c (x / 2 ^ m)
theorem digs_len (m : Nat) : ∀ c x, (digs m c x).length = c
  | 0, _ => rfl
  | c + 1, x => by rw [digs, List.length_cons, digs_len]
theorem digs_add (m : Nat) : ∀ a b x, digs m (a + b) x = digs m a x ++ digs m b (x / 2 ^ (m * a))
  | 0, b, x => by simp [digs]
  | a + 1, b, x => by
    rw [show a + 1 + b = (a + b) + 1 by omega, digs, digs, digs_add m a b, List.cons_append, Nat.div_div_eq_div_mul, ← Nat.pow_add, show m + m * a = m * (a + 1) by rw [Nat.mul_succ]; omega]
theorem digs_mod (m : Nat) : ∀ a c x, a ≤ c → digs m a (x % 2 ^ (m * c)) = digs m a x
  | 0, c, x, _ => rfl
  | a + 1, c, x, h => by
    obtain ⟨c, rfl⟩ : ∃ c', c = c' + 1 := ⟨c - 1, by omega⟩
    rw [digs, digs, show m * (c + 1) = m + m * c by rw [Nat.mul_succ]; omega, Nat.pow_add]
    congr 1
    · exact Nat.mod_mul_right_mod x (2 ^ m) (2 ^ (m * c))
    · rw [Nat.mod_mul_right_div_self]; exact digs_mod m a c _ (by omega)
noncomputable def put (l : List AV) (L : Nat) (ds : List AV) : List AV := l.take L ++ ds ++ l.drop (L + ds.length)
theorem put_len {l ds : List AV} {L : Nat} (h : L + ds.length ≤ l.length) : (put l L ds).length = l.length := by
  unfold put; simp; omega
theorem put_put {l a b : List AV} {L : Nat} (h : L + a.length + b.length ≤ l.length) : put (put l L a) (L + a.length) b = put l L (a ++ b) := by
  unfold put
  have e : (List.take L l ++ a).length = L + a.length := by simp; omega
  rw [List.take_append_of_le_length (by omega), List.take_of_length_le (by omega)]
  rw [show L + a.length + b.length = (List.take L l ++ a).length + b.length by omega, List.drop_append, List.drop_of_length_le (by omega)]
  simp
  congr 1
  omega
theorem put_one {l : List AV} {L : Nat} {v : AV} (h : L < l.length) : put l L [v] = l.set L v := by
  unfold put
  rw [List.set_eq_take_append_cons_drop, if_pos h]
  simp
theorem bitXor_nat (a b : Nat) : Builtin.bitXor (a : Int) (b : Int) = ((a ||| b : Nat) : Int) - ((a &&& b : Nat) : Int) := by
  have n1 : ∀ c : Nat, Builtin.bitNot (c : Int) = -(c : Int) - 1 := fun c => rfl
  have h1 : ∀ c : Nat, ¬ (0 ≤ Builtin.bitNot (c : Int)) := fun c => by rw [n1]; omega
  have h2 : ∀ c : Nat, Builtin.bitNot (Builtin.bitNot (c : Int)) = (c : Int) := fun c => by rw [n1]; show -(-(c : Int) - 1) - 1 = _; omega
  unfold Builtin.bitXor Builtin.bitOr
  rw [bitAnd_nn (h1 a) (h1 b), h2, h2, h2, bitAnd_pp (Int.natCast_nonneg a) (Int.natCast_nonneg b)]
  rfl
theorem bitXor_low (x s : Nat) : Builtin.bitXor (x : Int) ((x / 2 ^ s * 2 ^ s : Nat) : Int) = ((x % 2 ^ s : Nat) : Int) := by
  have key : ∀ i, (x / 2 ^ s * 2 ^ s).testBit i = (decide (s ≤ i) && x.testBit i) := fun i => by
    rw [← Nat.shiftRight_eq_div_pow, ← Nat.shiftLeft_eq, Nat.testBit_shiftLeft, Nat.testBit_shiftRight]
    by_cases h : s ≤ i
    · have h3 : s + (i - s) = i := by omega
      simp [h, h3]
    · simp [h]
  have e1 : x ||| (x / 2 ^ s * 2 ^ s) = x := by
    apply Nat.eq_of_testBit_eq
    intro i
    rw [Nat.testBit_or, key]
    cases x.testBit i <;> simp
  have e2 : x &&& (x / 2 ^ s * 2 ^ s) = x / 2 ^ s * 2 ^ s := by
    apply Nat.eq_of_testBit_eq
    intro i
    rw [Nat.testBit_and, key]
    cases x.testBit i <;> simp
  rw [bitXor_nat, e1, e2]
  have := Nat.div_add_mod x (2 ^ s)
  rw [Nat.mul_comm] at this
  omega
noncomputable def dvs (m c x : Nat) : List AV := (digs m c x).map fun d => .int (d : Nat)
theorem dvs_len (m c x : Nat) : (dvs m c x).length = c := by unfold dvs; rw [List.length_map, digs_len]
theorem inner_i2d {p : Nat → Pos} {k0 k1 : Nat} (w : World) (m : Nat) (cl : List (Str × Addr)) (hm : m ≤ 1000)
    {params : Arguments} {body : List Stmt} {scope : Scope}
    (hp : params = { posonlyargs := [], args := [{ arg := "x", annotation := none, pos := p 0 }, { arg := "L", annotation := none, pos := p 1 }, { arg := "R", annotation := none, pos := p 2 }], vararg := none, kwonlyargs := [], kw_defaults := [], kwarg := none, defaults := [] })
    (hs : scope = { kind := .function, names := [("x", .local), ("L", .local), ("R", .local), ("mid", .local), ("shift", .local), ("upper", .local), ("lower", .local), ("a_digits", .free), ("inner", .free), ("n", .free)], isGenerator := false, isCoroutine := false })
    (hbody : body = [.If (.Compare (.BinOp (.Name (Str.ofString "L") (p 3)) .Add (.Constant (.int 1) k0 (p 4)) (p 5)) [.Eq] [.Name (Str.ofString "R") (p 6)] (p 7))
        [.Assign [.Subscript (.Name (Str.ofString "a_digits") (p 8)) (.Name (Str.ofString "L") (p 9)) (p 10)] (.Name (Str.ofString "x") (p 11)) (p 12), .Return none (p 13)] [] (p 14),
      .Assign [.Name (Str.ofString "mid") (p 15)] (.BinOp (.BinOp (.Name (Str.ofString "L") (p 16)) .Add (.Name (Str.ofString "R") (p 17)) (p 18)) .RShift (.Constant (.int 1) k1 (p 19)) (p 20)) (p 21),
      .Assign [.Name (Str.ofString "shift") (p 22)] (.BinOp (.BinOp (.Name (Str.ofString "mid") (p 23)) .Sub (.Name (Str.ofString "L") (p 24)) (p 25)) .Mult (.Name (Str.ofString "n") (p 26)) (p 27)) (p 28),
      .Assign [.Name (Str.ofString "upper") (p 29)] (.BinOp (.Name (Str.ofString "x") (p 30)) .RShift (.Name (Str.ofString "shift") (p 31)) (p 32)) (p 33),
      .Assign [.Name (Str.ofString "lower") (p 34)] (.BinOp (.Name (Str.ofString "x") (p 35)) .BitXor (.BinOp (.Name (Str.ofString "upper") (p 36)) .LShift (.Name (Str.ofString "shift") (p 37)) (p 38)) (p 39)) (p 40),
      .Expr (.Call (.Name (Str.ofString "inner") (p 41)) [.Name (Str.ofString "lower") (p 42), .Name (Str.ofString "L") (p 43), .Name (Str.ofString "mid") (p 44)] [] (p 45)) (p 46),
      .Expr (.Call (.Name (Str.ofString "inner") (p 47)) [.Name (Str.ofString "upper") (p 48), .Name (Str.ofString "mid") (p 49), .Name (Str.ofString "R") (p 50)] [] (p 51)) (p 52)]) (q : Str) :
    ∀ k n L R x (l : List AV), L < R → R ≤ l.length → l.length ≤ 100 → R - L ≤ 2 ^ k → x < 2 ^ (m * (R - L)) →
      FcM w (n + k + 1) q params body scope cl [("a_digits", .mu), ("inner", .fn q params body scope cl), ("n", .int m)] [.int (x : Nat), .int (L : Nat), .int (R : Nat)] l (put l L (dvs m (R - L) x)) := by
  subst hp hs hbody
  intro k
  induction k with
  | zero =>
    intro n L R x l hLR hR hll hk hx
    have hR1 : R = L + 1 := by simp at hk; omega
    subst hR1
    have hval : put l L (dvs m (L + 1 - L) x) = l.set L (.int (x : Nat)) := by
      rw [show L + 1 - L = 1 by omega] at hx ⊢
      rw [Nat.mul_one] at hx
      unfold dvs digs digs
      rw [Nat.mod_eq_of_lt hx, ← put_one (by omega)]; rfl
    rw [hval]
    refine' FcM.intro (out := .retm (some (.list (l.set L (.int (x : Nat))))) [("L", .int (L : Nat)), ("x", .int (x : Nat)), ("R", .int ((L + 1 : Nat))), ("a_digits", .mu)] .none) "a_digits" ["x", "L", "R"] [("L", .int (L : Nat)), ("x", .int (x : Nat)), ("R", .int ((L + 1 : Nat))), ("a_digits", .mu)] ?hb ?hs ?hlen ?hout ?hy ?hbind ?hown ?hcap ?hco ?hgen ?hk
    case hs => walk_at "sub"
    case hlen => rfl
    case hout => exact ⟨rfl, by walk_at "mem", rfl⟩
    case hy => walk_at "mem"
    case hbind => intro fd e1 e2 e3 vs h; obtain ⟨⟩ := fd; subst e1 e2 e3; exact len3 h (fun _ _ _ => rfl)
    case hown => rfl
    case hcap => exact all_cons rfl (all_cons rfl (all_cons rfl all_nil))
    case hco => rfl
    case hgen => rfl
    case hk => rfl
    case hb =>
      intro f code L0
      have o1 : Op2 w n (compareOp .Eq) (.int ((L : Nat) + 1)) (.int ((L + 1 : Nat))) (.bool true) := by
        have := Op2.eq (w := w) (n := n) (i := (L : Nat) + 1) (j := ((L + 1 : Nat)))
        rwa [show (((L : Nat) : Int) + 1 == ((L + 1 : Nat) : Int)) = true from by simp] at this
      with_reducible refine' Ex.stopm (Es.ift ?t ?b)
      case t =>
        with_reducible refine' Et.cmp (hm := ?m1) ?m2 ?m3 o1
        case m1 => with_unfolding_all rfl
        case m2 => walk_at "ev"
        case m3 => walk_at "ev"
      case b =>
        with_reducible refine' Ex.cons (Es.setsub (k := (L : Nat)) (c := .int (x : Nat)) ?s1 ?s2 ?s3 ?s4 ?s5 ?s6 ?s7 ?s8 ?s9 ?s10) ?rr
        case s1 => walk_at "mem"
        case s2 => walk_at "ev"
        case s3 => walk_at "ev"
        case s4 => omega
        case s5 => omega
        case s6 => omega
        case s7 => walk_at "nmu"
        case s8 => decide
        case s9 => decide
        case s10 => rfl
        exact Ex.stopm Es.retm0
  | succ k ih =>
    intro n L R x l hLR hR hll hk hx
    by_cases h1 : R = L + 1
    · subst h1
      exact ih (n + 1) L (L + 1) x l hLR hR hll (by rw [show L + 1 - L = 1 by omega]; exact Nat.one_le_two_pow) hx |> fun h => by
        rw [show n + (k + 1) + 1 = n + 1 + k + 1 by omega]; exact h
    · have hk2 : R - L ≤ 2 ^ k * 2 := by rw [← Nat.pow_succ]; exact hk
      generalize hM : (L + R) / 2 = M
      have hLM : L < M := by omega
      have hMR : M < R := by omega
      have hb2 : (M - L) * m ≤ 100 * 1000 := Nat.mul_le_mul (by omega) hm
      have hb3 : m * (R - L) ≤ 1000 * 100 := Nat.mul_le_mul hm (by omega)
      generalize hs : (M - L) * m = s at hb2
      have hs' : m * (M - L) = s := by rw [Nat.mul_comm]; exact hs
      have hlow : x % 2 ^ s < 2 ^ (m * (M - L)) := by rw [hs']; exact Nat.mod_lt _ (Nat.two_pow_pos s)
      have hup : x / 2 ^ s < 2 ^ (m * (R - M)) := by
        apply Nat.div_lt_of_lt_mul
        rw [← Nat.pow_add, ← hs', ← Nat.mul_add, show M - L + (R - M) = R - L by omega]; exact hx
      have c1 := ih n L M (x % 2 ^ s) l hLM (by omega) hll (by omega) hlow
      have pl := put_len (l := l) (ds := dvs m (M - L) (x % 2 ^ s)) (L := L) (by rw [dvs_len]; omega)
      have c2 := ih n M R (x / 2 ^ s) (put l L (dvs m (M - L) (x % 2 ^ s))) hMR (by rw [pl]; exact hR) (by rw [pl]; exact hll) (by omega) hup
      have hval : put l L (dvs m (R - L) x) = put (put l L (dvs m (M - L) (x % 2 ^ s))) M (dvs m (R - M) (x / 2 ^ s)) := by
        have e := put_put (l := l) (a := dvs m (M - L) (x % 2 ^ s)) (b := dvs m (R - M) (x / 2 ^ s)) (L := L) (by rw [dvs_len, dvs_len]; omega)
        rw [dvs_len, show L + (M - L) = M by omega] at e
        rw [e]
        congr 1
        unfold dvs
        rw [← List.map_append, ← hs', digs_mod m (M - L) (M - L) x (Nat.le_refl _), ← digs_add, show M - L + (R - M) = R - L by omega]
      rw [hval]
      refine' FcM.intro (out := .nxt (some (.list (put (put l L (dvs m (M - L) (x % 2 ^ s))) M (dvs m (R - M) (x / 2 ^ s))))) _) "a_digits" ["x", "L", "R"] [("L", .int (L : Nat)), ("x", .int (x : Nat)), ("R", .int (R : Nat)), ("a_digits", .mu), ("inner", _), ("n", .int m)] ?hb ?hs ?hlen ?hout ?hy ?hbind ?hown ?hcap ?hco ?hgen ?hk
      case hs => walk_at "sub"
      case hlen => rfl
      case hy => walk_at "mem"
      case hbind => intro fd e1 e2 e3 vs h; obtain ⟨⟩ := fd; subst e1 e2 e3; exact len3 h (fun _ _ _ => rfl)
      case hown => rfl
      case hcap => exact all_cons rfl (all_cons rfl (all_cons rfl all_nil))
      case hco => rfl
      case hgen => rfl
      case hk => rfl
      case hb =>
        intro f code L0
        have o1 : Op2 w (n + (k + 1)) (compareOp .Eq) (.int ((L : Nat) + 1)) (.int (R : Nat)) (.bool false) := by
          have := Op2.eq (w := w) (n := n + (k + 1)) (i := (L : Nat) + 1) (j := (R : Nat))
          rwa [show (((L : Nat) : Int) + 1 == ((R : Nat) : Int)) = false from beq_eq_false_iff_ne.mpr (by omega)] at this
        have o2 : Op2 w (n + (k + 1)) (binaryOp .RShift) (.int ((L : Nat) + (R : Nat))) (.int 1) (.int (M : Nat)) := by
          have := Op2.shr (w := w) (n := n + (k + 1)) (i := (L : Nat) + (R : Nat)) (j := 1) (by decide)
          rw [show (2 : Int) ^ (1 : Int).toNat = 2 from rfl, Int.fdiv_eq_ediv_of_nonneg _ (by decide), show (((L : Nat) : Int) + ((R : Nat) : Int)) / 2 = ((M : Nat) : Int) by omega] at this
          exact this
        have o3 : Op2 w (n + (k + 1)) (binaryOp .Mult) (.int ((M : Nat) - (L : Nat))) (.int (m : Nat)) (.int (s : Nat)) := by
          have := Op2.mul (w := w) (n := n + (k + 1)) (i := (M : Nat) - (L : Nat)) (j := (m : Nat)) (IntMulOk.of_left (intBits_le_64 (by omega) (by omega)))
          rw [show (((M : Nat) : Int) - ((L : Nat) : Int)) * ((m : Nat) : Int) = ((s : Nat) : Int) by
            rw [← hs, Int.natCast_mul, Int.natCast_sub (by omega)]] at this
          exact this
        have o4 : Op2 w (n + (k + 1)) (binaryOp .RShift) (.int (x : Nat)) (.int (s : Nat)) (.int (x / 2 ^ s : Nat)) := by
          have := Op2.shr (w := w) (n := n + (k + 1)) (i := (x : Nat)) (j := (s : Nat)) (by omega)
          rw [show ((s : Nat) : Int).toNat = s from rfl, Int.fdiv_eq_ediv_of_nonneg _ (by exact_mod_cast Nat.zero_le _)] at this
          rw [show ((x / 2 ^ s : Nat) : Int) = ((x : Nat) : Int) / 2 ^ s by rw [Int.natCast_ediv, Int.natCast_pow]; rfl]
          exact this
        have o5 : Op2 w (n + (k + 1)) (binaryOp .LShift) (.int (x / 2 ^ s : Nat)) (.int (s : Nat)) (.int (x / 2 ^ s * 2 ^ s : Nat)) := by
          have hlt : x / 2 ^ s < 2 ^ (m * (R - L)) := Nat.lt_of_le_of_lt (Nat.div_le_self _ _) hx
          have hbt := intBits_le (a := ((x / 2 ^ s : Nat) : Int)) (k := m * (R - L)) hlt
          have := Op2.shl (w := w) (n := n + (k + 1)) (i := (x / 2 ^ s : Nat)) (j := (s : Nat)) (by omega) (by
            have e : (2 : Int) ^ 27 = 134217728 := rfl
            rw [e]; omega)
          rw [show ((s : Nat) : Int).toNat = s from rfl] at this
          rw [show ((x / 2 ^ s * 2 ^ s : Nat) : Int) = ((x / 2 ^ s : Nat) : Int) * 2 ^ s by rw [Int.natCast_mul, Int.natCast_pow]; rfl]
          exact this
        have o6 : Op2 w (n + (k + 1)) (binaryOp .BitXor) (.int (x : Nat)) (.int (x / 2 ^ s * 2 ^ s : Nat)) (.int (x % 2 ^ s : Nat)) := by
          rw [← bitXor_low]; exact Op2.bxor
        with_reducible refine' Ex.cons (Es.iff ?t Ex.nil) ?r1
        case t =>
          with_reducible refine' Et.cmp (hm := ?m1) ?m2 ?m3 o1
          case m1 => with_unfolding_all rfl
          case m2 => walk_at "ev"
          case m3 => walk_at "ev"
        walk_at "asg"
        walk_at "asg"
        walk_at "asg"
        walk_at "asg"
        refine Ex.weaken (σ' := [("L", .int (L : Nat)), ("x", .int (x : Nat)), ("R", .int (R : Nat)), ("a_digits", .mu), ("inner", _), ("n", .int m), ("mid", .int (M : Nat)), ("upper", .int (x / 2 ^ s : Nat)), ("lower", .int (x % 2 ^ s : Nat))]) ?_ (by walk_at "sub")
        with_reducible refine' Ex.cons (Es.callm ?x1 ?x2 c1 ?x3 ?x4 ?x5 ?x6) ?r2
        case x1 => walk_at "ev"
        case x2 => walk_at "evl"
        case x3 => exact fun _ _ h => h
        case x4 => exact all_cons ⟨by walk_at "mem", (fun h => nomatch (show some NameKind.free = some NameKind.local from h)), rfl⟩ (all_cons ⟨by walk_at "mem", (fun h => nomatch (show some NameKind.free = some NameKind.local from h)), rfl⟩ (all_cons ⟨by walk_at "mem", (fun h => nomatch (show some NameKind.free = some NameKind.local from h)), rfl⟩ all_nil))
        case x5 => rfl
        case x6 => rfl
        with_reducible refine' Ex.one (Es.callm ?y1 ?y2 c2 ?y3 ?y4 ?y5 ?y6)
        case y1 => walk_at "ev"
        case y2 => walk_at "evl"
        case y3 => exact fun _ _ h => h
        case y4 => exact all_cons ⟨by walk_at "mem", (fun h => nomatch (show some NameKind.free = some NameKind.local from h)), rfl⟩ (all_cons ⟨by walk_at "mem", (fun h => nomatch (show some NameKind.free = some NameKind.local from h)), rfl⟩ (all_cons ⟨by walk_at "mem", (fun h => nomatch (show some NameKind.free = some NameKind.local from h)), rfl⟩ all_nil))
        case y5 => rfl
        case y6 => rfl
      case hout => exact ⟨rfl, by walk_at "mem"⟩
noncomputable def posI2d : List Pos := [⟨35, 14, 35, 15⟩, ⟨35, 17, 35, 18⟩, ⟨35, 20, 35, 21⟩, ⟨36, 11, 36, 12⟩, ⟨36, 15, 36, 16⟩, ⟨36, 11, 36, 16⟩, ⟨36, 20, 36, 21⟩, ⟨36, 11, 36, 21⟩, ⟨37, 12, 37, 20⟩, ⟨37, 21, 37, 22⟩, ⟨37, 12, 37, 23⟩, ⟨37, 26, 37, 27⟩, ⟨37, 12, 37, 27⟩, ⟨38, 12, 38, 18⟩, ⟨36, 8, 38, 18⟩, ⟨39, 8, 39, 11⟩, ⟨39, 14, 39, 15⟩, ⟨39, 18, 39, 19⟩, ⟨39, 14, 39, 19⟩, ⟨39, 23, 39, 24⟩, ⟨39, 14, 39, 24⟩, ⟨39, 8, 39, 24⟩, ⟨40, 8, 40, 13⟩, ⟨40, 17, 40, 20⟩, ⟨40, 23, 40, 24⟩, ⟨40, 17, 40, 24⟩, ⟨40, 28, 40, 29⟩, ⟨40, 16, 40, 29⟩, ⟨40, 8, 40, 29⟩, ⟨41, 8, 41, 13⟩, ⟨41, 16, 41, 17⟩, ⟨41, 21, 41, 26⟩, ⟨41, 16, 41, 26⟩, ⟨41, 8, 41, 26⟩, ⟨42, 8, 42, 13⟩, ⟨42, 16, 42, 17⟩, ⟨42, 20, 42, 25⟩, ⟨42, 29, 42, 34⟩, ⟨42, 20, 42, 34⟩, ⟨42, 16, 42, 34⟩, ⟨42, 8, 42, 34⟩, ⟨43, 8, 43, 13⟩, ⟨43, 14, 43, 19⟩, ⟨43, 21, 43, 22⟩, ⟨43, 24, 43, 27⟩, ⟨43, 8, 43, 28⟩, ⟨43, 8, 43, 28⟩, ⟨44, 8, 44, 13⟩, ⟨44, 14, 44, 19⟩, ⟨44, 21, 44, 24⟩, ⟨44, 26, 44, 27⟩, ⟨44, 8, 44, 28⟩, ⟨44, 8, 44, 28⟩]
noncomputable def cntD (a m : Nat) : Nat := (Builtin.Int.intBits (a : Nat) + m - 1) / m
theorem lt_cntD (a m : Nat) (hm : 0 < m) : a < 2 ^ (m * cntD a m) := by
  have h1 : a < 2 ^ Builtin.Int.intBits (a : Nat) := by
    unfold Builtin.Int.intBits
    split
    · rename_i h
      have : a = 0 := by simpa using h
      subst this; decide
    · show a < 2 ^ (a.log2 + 1)
      exact Nat.lt_log2_self
  refine Nat.lt_of_lt_of_le h1 (Nat.pow_le_pow_right (by decide) ?_)
  unfold cntD
  have := Nat.div_add_mod (Builtin.Int.intBits (a : Nat) + m - 1) m
  have := Nat.mod_lt (Builtin.Int.intBits (a : Nat) + m - 1) hm
  omega
theorem f_int2digits (w : World) (n : Nat) (a m : Nat) (hm0 : 0 < m) (hm : m ≤ 1000) (hc : cntD a m ≤ 100) : Fn w (n + 9) 42 [.int (a : Nat), .int (m : Nat)] (.list (dvs m (cntD a m) a)) := by
  generalize hcc : cntD a m = c at hc
  have hlt := lt_cntD a m hm0
  rw [hcc] at hlt
  refine' Fn.intro (n := n + 8) (out := .ret (.list (dvs m c a))) ["a", "n"] [("a", .int (a : Nat)), ("n", .int (m : Nat))] ?hb ?hs ?ho ?hd ?hbody ?hlen ?hout ?hbind ?hown ?hcode ?hclo ?hgl ?hbu ?hco ?hgen ?hk
  walk_at "fn"
  have o1 : Op2 w (n + 8) (binaryOp .FloorDiv) (.int ((Builtin.Int.intBits (a : Nat) : Nat) + (m : Nat) - 1)) (.int (m : Nat)) (.int (c : Nat)) := by
    have := Op2.fdiv (w := w) (n := n + 8) (i := (Builtin.Int.intBits (a : Nat) : Nat) + (m : Nat) - 1) (j := (m : Nat)) (by omega) (by
      show m.log2 < 9000
      exact Nat.lt_of_le_of_lt (Nat.log2_le_self m) (by omega))
    rw [Int.fdiv_eq_ediv_of_nonneg _ (by omega), show ((((Builtin.Int.intBits (a : Nat) : Nat) : Int) + (m : Nat) - 1) / ((m : Nat) : Int)) = ((c : Nat) : Int) by
      rw [← hcc]; unfold cntD; rw [Int.natCast_ediv]; congr 1; omega] at this
    exact this
  with_reducible refine' Ex.cons (Es.newmu (hs := ?bs) (NewM.times (v := .int 0) (k := (c : Nat)) ?t1 ?t2 ?t3 ?t4) ?bw) ?br
  case bs => rfl
  case bw => exact Wr.fn (by kernel_rfl)
  case t1 => walk_at "evl"
  case t3 => omega
  case t4 => omega
  case t2 =>
    with_reducible refine' Ev.bin (Ev.bin (Ev.bin (Ev.bitlen ?l1 ?l2) ?l3 Op2.add) ?l4 Op2.sub) ?l5 o1
    case l1 => walk_at "ev"
    case l2 => walk_at "mform"
    case l3 => walk_at "ev"
    case l4 => walk_at "ev"
    case l5 => walk_at "ev"
  with_reducible refine' Ex.cons (Es.deffn ⟨41, 37, [(35, 4, "_int2digits.<locals>.inner")]⟩ (35, 4, "_int2digits.<locals>.inner") ?d1 ?d2 ?d3 ?d4 ?d5 ?d6 ?d7 ?d8 ?d9 ?d10 ?d11) ?r1
  case d1 => simp [makers]
  case d2 => exact .head _
  case d3 => rfl
  case d4 => rfl
  case d5 => rfl
  case d6 => rfl
  case d7 => rfl
  case d8 => rfl
  case d9 => first | rfl | kernel_rfl | with_unfolding_all rfl
  case d10 => exact fun _ => rfl
  case d11 => exact Wr.fn (by kernel_rfl)
  have hlr : (List.replicate ((c : Nat) : Int).toNat (AV.int 0)).length = c := by rw [List.length_replicate]; rfl
  generalize hl0 : List.replicate ((c : Nat) : Int).toNat (AV.int 0) = l0 at hlr
  with_reducible refine' Ex.cons (mc' := some (.list (dvs m c a))) (σ' := [("a_digits", .mu)]) (Es.ifb (c := ((a : Nat) : Int) != 0) ?i1 ?i2) ?r2
  case i1 =>
    with_reducible refine' Et.plain (hv := ?u1) (he := ?u2) ?u3 Tr.int
    case u1 => walk_at "nmu"
    case u2 => intro _; rfl
    case u3 => walk_at "ev"
  case r2 =>
    with_reducible refine' Ex.stop (Es.retmu ?v)
    walk_at "ev"
  case i2 =>
    by_cases ha : a = 0
    · subst ha
      have hc0 : c = 0 := by
        rw [← hcc]
        show (0 + m - 1) / m = 0
        exact Nat.div_eq_of_lt (by omega)
      subst hc0
      have : l0 = [] := List.length_eq_zero_iff.mp hlr
      subst this
      exact Ex.nxtw Ex.nil (by walk_at "sub")
    · have hne : (((a : Nat) : Int) != 0) = true := by simpa using ha
      rw [hne, if_pos rfl]
      have hcp : 0 < c := by
        rcases Nat.eq_zero_or_pos c with h | h
        · subst h; simp at hlt; exact absurd hlt ha
        · exact h
      have hput : put l0 0 (dvs m (c - 0) a) = dvs m c a := by
        unfold put
        rw [Nat.sub_zero, dvs_len, List.drop_of_length_le (by omega)]; simp
      rw [← hput]
      with_reducible refine' Ex.nxtw (Ex.one (Es.callm (Ev.var (hd := ?y1) (hc := ?y2) mem_upd) ?x2 ?hcc ?x3 ?x4 ?x5 ?x6)) ?x7
      case y1 => decide
      case y2 => decide
      case hcc => exact inner_i2d (p := fun i => (posI2d[i]?).getD default) (k0 := 0) (k1 := 0) w m _ hm rfl rfl rfl "_int2digits.<locals>.inner" 7 n 0 c a l0 hcp (by omega) (by omega) (by have : (2:Nat)^7 = 128 := rfl; omega) (by rw [Nat.sub_zero]; exact hlt)
      case x2 =>
        with_reducible refine' EvL.cons (hv := ?v3) (he := ?v4) ?v1 ?v2
        case v3 => walk_at "nmu"
        case v4 => rfl
        case v1 => walk_at "ev"
        case v2 =>
          with_reducible refine' EvL.cons (hv := ?w3) (he := ?w4) ?w1 ?w2
          case w3 => walk_at "nmu"
          case w4 => rfl
          case w1 => exact Ev.of Ev.cint rfl
          case w2 =>
            with_reducible refine' EvL.cons (hv := ?z3) (he := ?z4) ?z1 EvL.nil
            case z3 => walk_at "nmu"
            case z4 => rfl
            case z1 =>
              rw [← hlr]
              with_reducible refine' Ev.lenmu ?q1 ?q2 ?q3 ?q4 ?q5 ?q6
              case q1 => walk_at "ev"
              case q2 => walk_at "mem"
              case q3 => omega
              case q4 => decide
              case q5 => decide
              case q6 => rfl
      case x3 => exact fun _ _ h => clOf_look h
      case x4 => exact all_cons ⟨by walk_at "mem", (fun h => nomatch (show some NameKind.cell = some NameKind.local from h)), rfl⟩ (all_cons ⟨mem_upd, (fun h => nomatch (show some NameKind.cell = some NameKind.local from h)), rfl⟩ (all_cons ⟨by walk_at "mem", (fun h => nomatch (show some NameKind.cell = some NameKind.local from h)), rfl⟩ all_nil))
      case x5 => rfl
      case x6 => rfl
      case x7 => walk_at "sub"
noncomputable def dmQ (b m : Nat) : List Nat → Nat → List Nat
  | [], _ => []
  | d :: ds, r => ((r * 2 ^ m + d) / b) :: dmQ b m ds ((r * 2 ^ m + d) % b)
noncomputable def dmR (b m : Nat) : List Nat → Nat → Nat
  | [], r => r
  | d :: ds, r => dmR b m ds ((r * 2 ^ m + d) % b)
theorem dmQ_len (b m : Nat) : ∀ l r, (dmQ b m l r).length = l.length
  | [], _ => rfl
  | d :: ds, r => by rw [dmQ, List.length_cons, List.length_cons, dmQ_len b m ds]
theorem dmQ_snoc (b m d : Nat) : ∀ l r, dmQ b m (l ++ [d]) r = dmQ b m l r ++ [(dmR b m l r * 2 ^ m + d) / b]
  | [], _ => rfl
  | e :: ds, r => by rw [List.cons_append, dmQ, dmQ, dmR, List.cons_append, dmQ_snoc b m d ds]
theorem dmR_snoc (b m d : Nat) : ∀ l r, dmR b m (l ++ [d]) r = (dmR b m l r * 2 ^ m + d) % b
  | [], _ => rfl
  | e :: ds, r => by rw [List.cons_append, dmR, dmR, dmR_snoc b m d ds]
theorem dmR_lt (b m : Nat) (hb : 0 < b) : ∀ l r, r < b → dmR b m l r < b
  | [], r, h => h
  | d :: ds, r, h => by rw [dmR]; exact dmR_lt b m hb ds _ (Nat.mod_lt _ hb)
theorem dmQ_lt (b m : Nat) (hb : 0 < b) : ∀ l r, r < b → (∀ d ∈ l, d < 2 ^ m) → ∀ q ∈ dmQ b m l r, q < 2 ^ m
  | [], r, h, hd, q, hq => nomatch hq
  | d :: ds, r, h, hd, q, hq => by
    rw [dmQ] at hq
    rcases List.mem_cons.mp hq with rfl | hq
    · refine Nat.div_lt_of_lt_mul ?_
      have h1 := hd d (.head _)
      have h2 : r * 2 ^ m + 2 ^ m ≤ b * 2 ^ m := by
        have : (r + 1) * 2 ^ m ≤ b * 2 ^ m := Nat.mul_le_mul_right _ h
        rwa [Nat.add_mul, Nat.one_mul] at this
      omega
    · exact dmQ_lt b m hb ds _ (Nat.mod_lt _ hb) (fun e he => hd e (.tail _ he)) q hq
theorem dm_val (b m : Nat) : ∀ l r, r * 2 ^ (m * l.length) + pvL m l.reverse = b * pvL m (dmQ b m l r).reverse + dmR b m l r
  | [], r => by simp [dmQ, dmR, pvL]
  | d :: ds, r => by
    have ih := dm_val b m ds ((r * 2 ^ m + d) % b)
    have hq := Nat.div_add_mod (r * 2 ^ m + d) b
    rw [dmQ, dmR, List.reverse_cons, List.reverse_cons, pvL_append, pvL_append, List.length_reverse, List.length_reverse, dmQ_len, List.length_cons]
    generalize (r * 2 ^ m + d) % b = R at ih hq ⊢
    generalize (r * 2 ^ m + d) / b = Q at hq ⊢
    have e : 2 ^ (m * (ds.length + 1)) = 2 ^ (m * ds.length) * 2 ^ m := by rw [Nat.mul_add, Nat.mul_one, Nat.pow_add]
    rw [e]
    generalize 2 ^ (m * ds.length) = B at ih ⊢
    generalize 2 ^ m = C at hq ⊢
    simp only [pvL, Nat.mul_zero, Nat.add_zero]
    have : B * (r * C + d) = B * (b * Q + R) := by rw [hq]
    rw [Nat.mul_add, Nat.mul_add] at this
    have e1 : r * (B * C) = B * (r * C) := by rw [← Nat.mul_assoc, Nat.mul_comm r B, Nat.mul_assoc]
    have e2 : b * (pvL m (dmQ b m ds R).reverse + B * Q) = b * pvL m (dmQ b m ds R).reverse + B * (b * Q) := by
      rw [Nat.mul_add]; congr 1; rw [← Nat.mul_assoc, Nat.mul_comm b B, Nat.mul_assoc]
    have e3 : R * B = B * R := Nat.mul_comm _ _
    rw [e1, e2]
    omega
theorem pvL_digs (m : Nat) : ∀ c x, x < 2 ^ (m * c) → pvL m (digs m c x) = x
  | 0, x, h => by
    rw [Nat.mul_zero, Nat.pow_zero] at h
    rw [digs, pvL]; omega
  | c + 1, x, h => by
    rw [digs, pvL, pvL_digs m c _ (by rw [Nat.div_lt_iff_lt_mul (Nat.two_pow_pos m), ← Nat.pow_add]; rwa [Nat.mul_add, Nat.mul_one] at h)]
    exact Nat.mod_add_div x (2 ^ m)
theorem digs_lt (m : Nat) : ∀ c x, ∀ d ∈ digs m c x, d < 2 ^ m
  | 0, _, d, h => nomatch h
  | c + 1, x, d, h => by
    rw [digs] at h
    rcases List.mem_cons.mp h with rfl | h
    · exact Nat.mod_lt _ (Nat.two_pow_pos m)
    · exact digs_lt m c _ d h
theorem intBits_lt (a : Nat) : a < 2 ^ Builtin.Int.intBits (a : Nat) := by
  have := lt_cntD a 1 (by decide)
  unfold cntD at this
  simpa using this
theorem intBits_le {a k : Nat} (h : a < 2 ^ k) : Builtin.Int.intBits (a : Nat) ≤ k := by
  unfold Builtin.Int.intBits
  split
  · exact Nat.zero_le _
  · rename_i h0
    show a.log2 + 1 ≤ k
    have h0 : a ≠ 0 := by intro e; subst e; simp at h0
    exact (Nat.log2_lt h0).mpr h
theorem f_divmod_pos (w : World) (n : Nat) (a b : Nat) (hb : 0 < b) (hm : Builtin.Int.intBits (b : Nat) ≤ 1000) (hc : cntD a (Builtin.Int.intBits (b : Nat)) ≤ 100) :
    Fn w (n + 10) 56 [.int (a : Nat), .int (b : Nat)] (.tuple [.int (a / b : Nat), .int (a % b : Nat)]) := by
  have hbl := intBits_lt b
  have hlog : (b : Int).natAbs.log2 < 9000 := by
    show b.log2 < 9000
    have : b.log2 < Builtin.Int.intBits (b : Nat) := (Nat.log2_lt (by omega)).mpr hbl
    omega
  generalize hmm : Builtin.Int.intBits (b : Nat) = m at *
  have hm0 : 0 < m := by
    rcases Nat.eq_zero_or_pos m with h | h
    · subst h; simp at hbl; omega
    · exact h
  have hlt := lt_cntD a m hm0
  have fi := f_int2digits w n a m hm0 hm hc
  generalize cntD a m = c at *
  have hdl : (digs m c a).reverse.length = c := by rw [List.length_reverse, digs_len]
  have hdm : ∀ d ∈ (digs m c a).reverse, d < 2 ^ m := fun d hd => digs_lt m c a d (List.mem_reverse.mp hd)
  have hpv : pvL m (digs m c a).reverse.reverse = a := by rw [List.reverse_reverse]; exact pvL_digs m c a hlt
  have hrev : (dvs m c a).reverse = (digs m c a).reverse.map fun d => .int (d : Nat) := by unfold dvs; rw [List.map_reverse]
  generalize (digs m c a).reverse = L at *
  have hval := dm_val b m L 0
  rw [Nat.zero_mul, Nat.zero_add, hpv] at hval
  have hRlt := dmR_lt b m hb L 0 hb
  have hQlt := dmQ_lt b m hb L 0 hb hdm
  have hql := dmQ_len b m L 0
  have fd := f_digits2int w n (dmQ b m L 0).reverse m hm (by rw [List.length_reverse]; omega) (fun d hd => hQlt d (List.mem_reverse.mp hd))
  have hq : a / b = pvL m (dmQ b m L 0).reverse := by
    rw [hval, Nat.mul_add_div hb, Nat.div_eq_of_lt hRlt, Nat.add_zero]
  have hr : a % b = dmR b m L 0 := by
    rw [hval, Nat.mul_add_mod, Nat.mod_eq_of_lt hRlt]
  rw [hq, hr]
  refine' Fn.intro (n := n + 9) (out := .ret (.tuple [.int (pvL m (dmQ b m L 0).reverse : Nat), .int (dmR b m L 0 : Nat)])) ["a", "b"] [("a", .int (a : Nat)), ("b", .int (b : Nat))] ?hb ?hs ?ho ?hd ?hbody ?hlen ?hout ?hbind ?hown ?hcode ?hclo ?hgl ?hbu ?hco ?hgen ?hk
  walk_at "fn"
  with_reducible refine' Ex.cons (Es.assign (v := .int (m : Nat)) (hs := ?as) ?ae ?aw) ?ar
  case as => rfl
  case aw => exact Wr.fn (by kernel_rfl)
  case ae =>
    rw [← hmm]
    with_reducible refine' Ev.bitlen ?l1 ?l2
    case l1 => walk_at "ev"
    case l2 => walk_at "mform"
  with_reducible refine' Ex.cons (Es.assign (hs := ?bs) (Ev.calld ?be1 ?be2 ?be3 ?be4 fi.fc) ?bw) ?br
  case bs => rfl
  case bw => exact Wr.fn (by kernel_rfl)
  case be1 => walk_at "ev"
  case be2 => walk_at "evl"
  case be3 => exact rfl
  case be4 => exact rfl
  with_reducible refine' Ex.cons (Es.assign (v := .int (dmR b m (L.take 0) 0 : Nat)) (hs := ?cs) ?ce ?cw) ?cr
  case cs => rfl
  case cw => exact Wr.fn (by kernel_rfl)
  case ce => exact Ev.of Ev.cint rfl
  with_reducible refine' Ex.cons (Es.newmu (hs := ?ds) (NewM.lst (vs := []) EvL.nil ?dt) ?dw) ?dr
  case dt => exact Nat.zero_le _
  case ds => rfl
  case dw => exact Wr.fn (by kernel_rfl)
  with_reducible refine' Ex.cons (Es.forx (l := (dvs m c a).reverse) (fun j => (some (.list (avs (dmQ b m (L.take j) 0))), [("b", .int (b : Nat)), ("n", .int (m : Nat)), ("r", .int (dmR b m (L.take j) 0 : Nat)), ("q_digits", .mu)]))
    (some (.list (avs (dmQ b m L 0)))) [("n", .int (m : Nat)), ("r", .int (dmR b m L 0 : Nat)), ("q_digits", .mu)] ?f1 ?f2 ?f3 ?f4 ?f5 ?f6 ?f7 ?f8 ?f9) ?fr
  case f1 =>
    with_reducible refine' Itb.rev ?g1 ?g2 ?g3
    case g1 => walk_at "ev"
    case g2 => walk_at "ev"
    case g3 => rfl
  case f2 => rfl
  case f3 => walk_at "sub"
  case f4 => exact Wr.fn (by kernel_rfl)
  case f6 => intro _; rfl
  case f7 =>
    intro v hv e
    subst e
    rw [hrev] at hv
    obtain ⟨_, _, h⟩ := List.mem_map.mp hv
    cases h
  case f8 => rw [hrev, List.length_map]; dsimp only; rw [List.take_of_length_le (Nat.le_refl _)]
  case f9 =>
    rw [hrev, List.length_map]; dsimp only; rw [List.take_of_length_le (Nat.le_refl _)]
    exact forall_cons (.tail _ (.head _)) (forall_cons (.tail _ (.tail _ (.head _))) (forall_cons (.tail _ (.tail _ (.tail _ (.head _)))) forall_nil))
  case f5 =>
    intro j v hv
    rw [hrev, List.getElem?_map] at hv
    obtain ⟨d, hd, rfl⟩ : ∃ d, L[j]? = some d ∧ v = .int (d : Nat) := by
      cases h : L[j]? with
      | none => rw [h] at hv; cases hv
      | some x => rw [h] at hv; exact ⟨x, rfl, by simpa using hv.symm⟩
    have hj : j < L.length := (List.getElem?_eq_some_iff.mp hd).1
    have hdj : d < 2 ^ m := hdm d (List.mem_of_getElem? hd)
    have htk : L.take (j + 1) = L.take j ++ [d] := by rw [List.take_add_one, hd]; rfl
    have hrj : dmR b m (L.take j) 0 < b := dmR_lt b m hb _ 0 hb
    have hqj : (dmQ b m (L.take j) 0).length = j := by rw [dmQ_len, List.length_take]; omega
    have hpm : 2 ^ (m + m) = 2 ^ m * 2 ^ m := Nat.pow_add ..
    dsimp only
    rw [htk, dmQ_snoc, dmR_snoc]
    generalize dmR b m (L.take j) 0 = r at *
    generalize dmQ b m (L.take j) 0 = qs at *
    have hbits : Builtin.Int.intBits ((r * 2 ^ m + d : Nat) : Int) ≤ m + m := by
      refine intBits_le ?_
      have h2 : (r + 1) * 2 ^ m ≤ 2 ^ m * 2 ^ m := Nat.mul_le_mul_right _ (by omega)
      rw [Nat.add_mul, Nat.one_mul] at h2
      omega
    have fv := f_div2n1n w (n + 8) ((r * 2 ^ m + d : Nat) : Int) (b : Nat) (m : Nat) (by omega) hlog (by omega)
    rw [Int.fdiv_eq_ediv_of_nonneg _ (by omega), Int.fmod_eq_emod_of_nonneg _ (by omega), ← Int.natCast_ediv, ← Int.natCast_emod] at fv
    have o1 : Op2 w (n + 9) (binaryOp .LShift) (.int (r : Nat)) (.int (m : Nat)) (.int ((r * 2 ^ m : Nat))) := by
      have := Op2.shl (w := w) (n := n + 9) (i := (r : Nat)) (j := (m : Nat)) (by omega) (by
        have h1 : Builtin.Int.intBits ((r : Nat) : Int) ≤ m := intBits_le (by omega)
        have : (2 : Int) ^ 27 = 134217728 := rfl
        omega)
      rw [show ((r : Nat) : Int) * 2 ^ ((m : Nat) : Int).toNat = ((r * 2 ^ m : Nat) : Int) from by simp] at this
      exact this
    have o2 : Op2 w (n + 9) (binaryOp .Add) (.int ((r * 2 ^ m : Nat))) (.int (d : Nat)) (.int ((r * 2 ^ m + d : Nat))) := by
      rw [Int.natCast_add]; exact Op2.add
    refine Ex.weaken (σ' := [("b", .int (b : Nat)), ("n", .int (m : Nat)), ("r", .int (r : Nat)), ("q_digits", .mu), ("a_digit", .int (d : Nat))]) ?_ (by walk_at "sub")
    with_reducible refine' Ex.nxtw (Ex.cons (Es.tup2 (u := .int ((r * 2 ^ m + d) / b : Nat)) (v := .int ((r * 2 ^ m + d) % b : Nat)) (hs := ?t1) (hw := ?t2) ?t3 ?t4 ?t5) ?t6) ?t7
    case t1 => rfl
    case t2 => rfl
    case t4 => exact Wr.fn (by kernel_rfl)
    case t5 => exact Wr.fn (by kernel_rfl)
    case t3 =>
      with_reducible refine' Ev.calld ?be1 ?be2 ?be3 ?be4 fv.fc
      case be1 => walk_at "ev"
      case be2 => walk_at "evl"
      case be3 => exact rfl
      case be4 => exact rfl
    case t6 =>
      have e : avs (qs ++ [(r * 2 ^ m + d) / b]) = avs qs ++ [.int ((r * 2 ^ m + d) / b : Nat)] := by unfold avs; simp
      rw [e]
      with_reducible refine' Ex.one (Es.mumeth (vs := [.int ((r * 2 ^ m + d) / b : Nat)]) (hd := ?m1) (hcc := ?m2) (hbase := ?m3) (hfew := ?m4) (hline := ?m5) (hi := ?m6) (hsw := ?m7) ?m8 ?m9 (MuM.append ?m10) _root_.PySem.F.slot_list_append _root_.PySem.F.type_list_append)
      case m1 => decide
      case m2 => decide
      case m3 => rfl
      case m4 => rfl
      case m5 => rfl
      case m6 => rfl
      case m7 => rfl
      case m8 => walk_at "mem"
      case m9 => walk_at "evl"
      case m10 => unfold avs; rw [List.length_map]; omega
    case t7 => walk_at "sub"
  have erv : (avs (dmQ b m L 0)).reverse = avs (dmQ b m L 0).reverse := by unfold avs; rw [List.map_reverse]
  with_reducible refine' Ex.cons (mc' := some (.list (avs (dmQ b m L 0).reverse))) ?sr ?sr2
  case sr =>
    rw [← erv]
    with_reducible refine' Es.mumeth (vs := []) (hd := ?m1) (hcc := ?m2) (hbase := ?m3) (hfew := ?m4) (hline := ?m5) (hi := ?m6) (hsw := ?m7) ?m8 ?m9 (MuM.reverse ?m10) _root_.PySem.F.slot_list_reverse _root_.PySem.F.type_list_reverse
    case m1 => decide
    case m2 => decide
    case m3 => rfl
    case m4 => rfl
    case m5 => rfl
    case m6 => rfl
    case m7 => rfl
    case m8 => walk_at "mem"
    case m9 => walk_at "evl"
    case m10 => unfold avs; rw [List.length_map]; omega
  refine Ex.freeze [("n", .int (m : Nat)), ("r", .int (dmR b m L 0 : Nat)), ("q_digits", .list (avs (dmQ b m L 0).reverse))] ?_ ?hth
  case hth => walk_at "thaw"
  with_reducible refine' Ex.cons (Es.assign (hs := ?zs) (Ev.calld ?ze1 ?ze2 ?ze3 ?ze4 fd.fc) ?zw) ?zr
  case zs => rfl
  case zw => exact Wr.fn (by kernel_rfl)
  case ze1 => walk_at "ev"
  case ze2 => walk_at "evl"
  case ze3 => exact rfl
  case ze4 => exact rfl
  walk_at "ret"
  with_reducible refine' Ev.tup ?ta ?tb
  case ta => walk_at "evl"
  case tb => exact Nat.le_of_ble_eq_true rfl
noncomputable def posK : List Pos := [⟨3, 25, 3, 30⟩, ⟨3, 34, 3, 37⟩, ⟨3, 25, 3, 37⟩, ⟨3, 42, 3, 43⟩, ⟨3, 42, 3, 51⟩, ⟨3, 42, 3, 53⟩, ⟨3, 25, 3, 53⟩, ⟨3, 20, 3, 21⟩, ⟨3, 59, 3, 64⟩, ⟨3, 20, 3, 64⟩]
theorem f_keep (w : World) (n : Nat) (a b : List Nat) (ha : ∀ c ∈ a, c < 128) (hb : ∀ c ∈ b, c < 128) (hla : a.length ≤ 100) : Fn w (n + 1) 21 [.str (S a), .str (S b)] (.str (S (keepL a b))) := by
  refine' Fn.intro (n := n) (out := .ret (.str (S (keepL a b)))) ["s", "tag_s"] [("s", .str (S a)), ("tag_s", .str (S b))] ?hb ?hs ?ho ?hd ?hbody ?hlen ?hout ?hbind ?hown ?hcode ?hclo ?hgl ?hbu ?hco ?hgen ?hk
  walk_at "fn"
  walk_at "ret"
  refine' Ev.joinkeep (p := fun i => (posK[i]?).getD default) (e1 := .Name (Str.ofString "s") ⟨3, 85, 3, 86⟩) (e2 := .Name (Str.ofString "tag_s") ⟨3, 88, 3, 93⟩) (np := ⟨3, 81, 3, 84⟩) (zpos := ⟨3, 81, 3, 94⟩) (pa := ⟨3, 69, 3, 70⟩) (pb := ⟨3, 72, 3, 77⟩) (pt := ⟨3, 69, 3, 77⟩) (gpos := ⟨3, 19, 3, 95⟩) rfl ?x1 ?x2 ha hb hla ⟨20, 16, [(3, 19, "_keep_original_ws.<locals>.<genexpr>")]⟩ (3, 19, "_keep_original_ws.<locals>.<genexpr>") ?x3 ?x4 ?x5 ?x6 ?x7 ?x8 ?x9 ?x10 ?x11 ?x12
  case x1 => walk_at "ev"
  case x2 => walk_at "evl"
  case x3 => simp [makers]
  case x4 => exact .head _
  case x5 => rfl
  case x6 => rfl
  case x7 => rfl
  case x8 => first | rfl | kernel_rfl
  case x9 => rfl
  case x10 => intro _; rfl
  case x11 => rfl
  case x12 => walk_at "mform"
noncomputable def wsL : List Nat := [9, 11, 12, 13, 10]
noncomputable def wsAt (x : Nat) : Nat := wsL[x]?.getD 0
noncomputable def dashAt (x : Nat) : Nat := ([45, 98, 45, 100, 45] : List Nat)[x]?.getD 0
noncomputable def offC (odd : Nat) : Nat := if odd = 0 then 43 else 94
noncomputable def lineC (own x : Nat) : Nat := if bitB own x then wsAt x else dashAt x
noncomputable def tagC (other odd x : Nat) : Nat := if bitB other x then 32 else offC odd
noncomputable def dueC (own other odd x : Nat) : Nat := if !bitB other x then offC odd else if bitB own x then wsAt x else 32
noncomputable def lineL (own : Nat) : List Nat := (List.range 5).map (lineC own)
noncomputable def tagL (other odd : Nat) : List Nat := (List.range 5).map (tagC other odd)
noncomputable def dueL (own other odd j : Nat) : List Nat := (List.range j).map (dueC own other odd)
noncomputable def shrN (own other : Nat) : Nat := (List.range 5).countP fun x => bitB own x && bitB other x
noncomputable def isWs (c : Nat) : Bool := !(Builtin.Str.occurrences (S wsL) (S [c]) 0 (S wsL).length 1).isEmpty
theorem isspace_ws : ∀ x < 5, isspN (wsAt x) = true := by decide +kernel
theorem isspace_dash : ∀ x < 5, isspN (dashAt x) = false := by decide +kernel
theorem isWs_ws : ∀ x < 5, isWs (wsAt x) = true := by decide +kernel
theorem isWs_other : isWs 32 = false ∧ isWs 43 = false ∧ isWs 94 = false := by decide +kernel
theorem keep_one (own other odd x : Nat) (hx : x < 5) (ho : odd ≤ 1) : keep1 (lineC own x) (tagC other odd x) = dueC own other odd x := by
  unfold keep1 lineC tagC dueC offC
  cases h1 : bitB other x
  · have : odd = 0 ∨ odd = 1 := by omega
    rcases this with rfl | rfl <;> simp
  · cases h2 : bitB own x
    · simp [isspace_dash x hx]
    · simp [isspace_ws x hx]
theorem keep_due (own other odd : Nat) (ho : odd ≤ 1) : keepL (lineL own ++ List.replicate odd 9) (tagL other odd ++ List.replicate (1 - odd) 32) = dueL own other odd 5 := by
  have key : keepL (lineL own ++ List.replicate odd 9) (tagL other odd ++ List.replicate (1 - odd) 32) = [keep1 (lineC own 0) (tagC other odd 0), keep1 (lineC own 1) (tagC other odd 1), keep1 (lineC own 2) (tagC other odd 2), keep1 (lineC own 3) (tagC other odd 3), keep1 (lineC own 4) (tagC other odd 4)] := by
    have : odd = 0 ∨ odd = 1 := by omega
    rcases this with rfl | rfl <;> rfl
  rw [key, keep_one _ _ _ 0 (by decide) ho, keep_one _ _ _ 1 (by decide) ho, keep_one _ _ _ 2 (by decide) ho, keep_one _ _ _ 3 (by decide) ho, keep_one _ _ _ 4 (by decide) ho]
  rfl
theorem due_cnt (own other odd : Nat) (ho : odd ≤ 1) : ((dueL own other odd 5).filter isWs).length = shrN own other := by
  rw [← List.countP_eq_length_filter, dueL, List.countP_map, shrN]
  refine List.countP_congr fun x hx => ?_
  have hx := List.mem_range.mp hx
  have : isWs (dueC own other odd x) = (bitB own x && bitB other x) := by
    unfold dueC offC
    cases h1 : bitB other x
    · have : odd = 0 ∨ odd = 1 := by omega
      rcases this with rfl | rfl <;> simp [isWs_other]
    · cases h2 : bitB own x
      · simp [isWs_other]
      · simp [isWs_ws x hx]
  rw [Function.comp, this]
theorem due_lt (own other odd j : Nat) (hj : j ≤ 5) : ∀ c ∈ dueL own other odd j, c < 128 := by
  intro c hc
  obtain ⟨x, hx, rfl⟩ := List.mem_map.mp hc
  have hx := List.mem_range.mp hx
  have : ∀ x < 5, wsAt x < 128 := by decide
  have := this x (by omega)
  unfold dueC offC
  split
  · split <;> decide
  · split
    · exact this
    · decide
theorem line_lt (own : Nat) : ∀ c ∈ lineL own, c < 128 := by
  intro c hc
  obtain ⟨x, hx, rfl⟩ := List.mem_map.mp hc
  have hx := List.mem_range.mp hx
  have h1 : ∀ x < 5, wsAt x < 128 := by decide
  have h2 : ∀ x < 5, dashAt x < 128 := by decide
  unfold lineC
  split
  · exact h1 x hx
  · exact h2 x hx
theorem tag_lt (other odd : Nat) : ∀ c ∈ tagL other odd, c < 128 := by
  intro c hc
  obtain ⟨x, hx, rfl⟩ := List.mem_map.mp hc
  unfold tagC offC
  split
  · decide
  · split <;> decide
theorem rep_lt {c k d : Nat} (hc : c < 128) (h : d ∈ List.replicate k c) : d < 128 := by rw [(List.mem_replicate.mp h).2]; exact hc
theorem f_shared (w : World) (n : Nat) (own other odd : Nat) (h1 : own < 32) (h2 : other < 32) (ho : odd ≤ 1) :
    Fn w (n + 2) 189 [.str (S (lineL own)), .str (S (tagL other odd)), .int (own : Nat), .int (other : Nat), .int (odd : Nat)] (.int (shrN own other : Nat)) := by
  have hll : (lineL own).length = 5 := by unfold lineL; simp
  have htl : (tagL other odd).length = 5 := by unfold tagL; simp
  have hdl : ∀ j, (dueL own other odd j).length = j := fun j => by unfold dueL; simp
  have fk := f_keep w n (lineL own ++ List.replicate odd 9) (tagL other odd ++ List.replicate (1 - odd) 32)
    (fun c hc => (List.mem_append.mp hc).elim (line_lt own c) (rep_lt (by decide))) (fun c hc => (List.mem_append.mp hc).elim (tag_lt other odd c) (rep_lt (by decide))) (by rw [List.length_append, hll, List.length_replicate]; omega)
  rw [keep_due own other odd ho] at fk
  refine' Fn.intro (n := n + 1) (out := .ret (.int (shrN own other : Nat))) ["line", "tags", "own", "other", "odd"] [("line", .str (S (lineL own))), ("tags", .str (S (tagL other odd))), ("own", .int (own : Nat)), ("other", .int (other : Nat)), ("odd", .int (odd : Nat))] ?hb ?hs ?ho ?hd ?hbody ?hlen ?hout ?hbind ?hown ?hcode ?hclo ?hgl ?hbu ?hco ?hgen ?hk
  walk_at "fn"
  with_reducible refine' Ex.cons (Es.assign (hs := ?bs) (Ev.calld ?be1 ?be2 ?be3 ?be4 fk.fc) ?bw) ?br
  case bs => rfl
  case bw => exact Wr.fn (by kernel_rfl)
  case be1 => walk_at "ev"
  case be3 => exact rfl
  case be4 => exact rfl
  case be2 =>
    have a1 : Op2 w (n + 1) (binaryOp .Add) (.str (S (lineL own))) (.str (S (List.replicate odd 9))) (.str (S (lineL own ++ List.replicate odd 9))) := Op2.addS (by rw [hll, List.length_replicate]; omega)
    have a2 : Op2 w (n + 1) (binaryOp .Add) (.str (S (tagL other odd))) (.str (S (List.replicate (1 - odd) 32))) (.str (S (tagL other odd ++ List.replicate (1 - odd) 32))) := Op2.addS (by rw [htl, List.length_replicate]; omega)
    have a3 : Op2 w (n + 1) (binaryOp .Sub) (.int 1) (.int (odd : Nat)) (.int ((1 - odd : Nat))) := by rw [Int.natCast_sub ho]; exact Op2.sub
    with_reducible refine' EvL.cons (hv := ?v3) (he := ?v4) ?v1 ?v2
    case v3 => walk_at "nmu"
    case v4 => rfl
    case v1 =>
      with_reducible refine' Ev.bin ?w1 (Ev.bin (a := .str (S [9])) ?w2 ?w3 (Op2.mulS ho)) a1
      case w1 => walk_at "ev"
      case w2 => exact Ev.of Ev.cstr rfl
      case w3 => walk_at "ev"
    case v2 =>
      with_reducible refine' EvL.cons (hv := ?v3) (he := ?v4) ?v1 EvL.nil
      case v3 => walk_at "nmu"
      case v4 => rfl
      case v1 =>
        with_reducible refine' Ev.bin ?w1 (Ev.bin (a := .str (S [32])) ?w2 (Ev.bin ?w3 ?w4 a3) (Op2.mulS ?w5)) a2
        case w1 => walk_at "ev"
        case w2 => exact Ev.of Ev.cstr rfl
        case w3 => walk_at "ev"
        case w4 => walk_at "ev"
        case w5 => omega
  with_reducible refine' Ex.cons (Es.assign (v := .str (S (dueL own other odd 0))) (hs := ?as) ?ae ?aw) ?ar
  case as => rfl
  case aw => exact Wr.fn (by kernel_rfl)
  case ae => exact Ev.of Ev.cstr rfl
  have hx5 : ∀ x : Nat, (2 : Int) ^ ((x : Nat) : Int).toNat = 2 ^ x := fun x => by simp
  with_reducible refine' Ex.cons (Es.forx (l := natsL 5) (fun j => (none, [("own", .int (own : Nat)), ("other", .int (other : Nat)), ("odd", .int (odd : Nat)), ("kept", .str (S (dueL own other odd 5))), ("due", .str (S (dueL own other odd j)))])) none [("kept", .str (S (dueL own other odd 5))), ("due", .str (S (dueL own other odd 5)))] ?f1 ?f2 ?f3 ?f4 ?f5 ?f6 ?f7 ?f8 ?f9) ?fr
  case f1 => walk_at "range"
  case f2 => rfl
  case f3 => walk_at "sub"
  case f4 => exact Wr.fn (by kernel_rfl)
  case f6 => intro _; rfl
  case f7 => exact natsL_ne 5
  case f8 => rfl
  case f9 => exact forall_cons (.tail _ (.tail _ (.tail _ (.head _)))) (forall_cons (.tail _ (.tail _ (.tail _ (.tail _ (.head _))))) forall_nil)
  case f5 =>
    intro x v hv
    obtain ⟨hx, rfl⟩ := natsL_get hv
    dsimp only
    have hsucc : dueL own other odd (x + 1) = dueL own other odd x ++ [dueC own other odd x] := by unfold dueL; rw [List.range_succ, List.map_append]; rfl
    have o1 : ∀ m : Nat, Op2 w (n + 1) (binaryOp .RShift) (.int m) (.int (x : Nat)) (.int ((m : Int).fdiv (2 ^ x))) := fun m => by
      have := Op2.shr (w := w) (n := n + 1) (i := m) (j := (x : Nat)) (by omega)
      rwa [hx5] at this
    have oo := o1 other
    have ow := o1 own
    have b1 : ∀ m : Nat, m < 32 → Op2 w (n + 1) (binaryOp .BitAnd) (.int ((m : Int).fdiv (2 ^ x))) (.int 1) (.int (bitI m x)) := fun m hm => by
      rw [← bitI_eq _ hm x hx]; exact Op2.band
    have bo := b1 other h2
    have bw := b1 own h1
    rw [hsucc]
    have ad : ∀ c : Nat, Op2 w (n + 1) (binaryOp .Add) (.str (S (dueL own other odd x))) (.str (S [c])) (.str (S (dueL own other odd x ++ [c]))) := fun c => Op2.addS (by rw [hdl]; simp; omega)
    refine Ex.weaken (σ' := [("own", .int (own : Nat)), ("other", .int (other : Nat)), ("odd", .int (odd : Nat)), ("kept", .str (S (dueL own other odd 5))), ("due", .str (S (dueL own other odd x))), ("x", .int (x : Nat))]) ?_ (by walk_at "sub")
    with_reducible refine' Ex.nxtw (Ex.one (Es.ifb (c := !bitB other x) ?i1 ?i2)) ?i3
    case i3 => exact fun q hq => hq
    case i1 =>
      with_reducible refine' Et.not ?t3
      rw [← bitI_ne]
      with_reducible refine' Et.plain (hv := ?u1) (he := ?u2) ?u3 Tr.int
      case u1 => walk_at "nmu"
      case u2 => intro _; rfl
      case u3 => walk_at "ev"
    case i2 =>
      cases hbo : bitB other x with
      | false =>
        have hc : dueC own other odd x = offC odd := by unfold dueC; rw [hbo]; rfl
        rw [hc]
        simp only [Bool.not_false, if_true]
        have sb : SubOp w (n + 1) (.str (S [43, 94])) (.int (odd : Nat)) (.str (S [offC odd])) := SubOp.strS (by omega) (by omega) (by
          have : odd = 0 ∨ odd = 1 := by omega
          rcases this with rfl | rfl <;> rfl)
        with_reducible refine' Ex.nxtw (Ex.one (Es.assign (hs := ?as) (Ev.bin ?ae (Ev.sub (hsub := ?ah) (a := .str (S [43, 94])) ?ai ?aj sb) (ad _)) ?aw)) ?ax
        case as => rfl
        case aw => exact Wr.fn (by kernel_rfl)
        case ae => walk_at "ev"
        case ai => exact Ev.of Ev.cstr rfl
        case aj => walk_at "ev"
        case ah => intro o i; exact ⟨_, rfl⟩
        case ax => walk_at "sub"
      | true =>
        simp only [Bool.not_true, Bool.false_eq_true, if_false]
        with_reducible refine' Ex.one (Es.ifb (c := bitB own x) ?k1 ?k2)
        case k1 =>
          rw [← bitI_ne]
          with_reducible refine' Et.plain (hv := ?u1) (he := ?u2) ?u3 Tr.int
          case u1 => walk_at "nmu"
          case u2 => intro _; rfl
          case u3 => walk_at "ev"
        case k2 =>
          cases hbw : bitB own x with
          | true =>
            have hc : dueC own other odd x = wsAt x := by unfold dueC; rw [hbo, hbw]; rfl
            rw [hc]
            simp only [if_true]
            have sb : SubOp w (n + 1) (.str (S wsL)) (.int (x : Nat)) (.str (S [wsAt x])) := SubOp.strS (by omega) (by omega) (by
              show wsL[x]? = _
              unfold wsAt
              rw [List.getElem?_eq_getElem (show x < wsL.length from hx)]; rfl)
            with_reducible refine' Ex.nxtw (Ex.one (Es.assign (hs := ?as) (Ev.bin ?ae (Ev.sub (hsub := ?ah) (a := .str (S wsL)) ?ai ?aj sb) (ad _)) ?aw)) ?ax
            case as => rfl
            case aw => exact Wr.fn (by kernel_rfl)
            case ae => walk_at "ev"
            case ai => exact Ev.of Ev.cstr rfl
            case aj => walk_at "ev"
            case ah => intro o i; exact ⟨_, rfl⟩
            case ax => walk_at "sub"
          | false =>
            have hc : dueC own other odd x = 32 := by unfold dueC; rw [hbo, hbw]; rfl
            rw [hc]
            simp only [Bool.false_eq_true, if_false]
            with_reducible refine' Ex.nxtw (Ex.one (Es.assign (hs := ?as) (Ev.bin (b := .str (S [32])) ?ae ?ai (ad _)) ?aw)) ?ax
            case as => rfl
            case aw => exact Wr.fn (by kernel_rfl)
            case ae => walk_at "ev"
            case ai => exact Ev.of Ev.cstr rfl
            case ax => walk_at "sub"
  case fr =>
    walk_at "ret"
    have oeq : Op2 w (n + 1) (compareOp .Eq) (.str (S (dueL own other odd 5))) (.str (S (dueL own other odd 5))) (.bool true) := by
      have := Op2.eqS (w := w) (n := n + 1) (a := dueL own other odd 5) (b := dueL own other odd 5)
      rwa [decide_eq_true rfl] at this
    with_reducible refine' Ev.ifexp (b := true) ?jt ?jx ?jy
    case jt =>
      with_reducible refine' Et.cmp (hm := ?m1) ?m2 ?m3 oeq
      case m1 => with_unfolding_all rfl
      case m2 => walk_at "ev"
      case m3 => walk_at "ev"
    case jy => exact fun h => nomatch h
    case jx =>
      intro _
      have fl : Fc w (n + 1) (.builtin "len") [.list (((dueL own other odd 5).filter isWs).map fun c => .str (S [c]))] (.int (shrN own other : Nat)) := by
        have := Fc.len (w := w) (n := n + 1) (l := ((dueL own other odd 5).filter isWs).map fun c => AV.str (S [c])) (by
          rw [List.length_map]
          exact Nat.le_trans (List.length_filter_le ..) (by rw [hdl]; decide))
        rwa [List.length_map, due_cnt _ _ _ ho] at this
      with_reducible refine' Ev.callb ?c1 ?c2 fl
      case c1 => walk_at "ev"
      case c2 =>
        with_reducible refine' EvL.cons (hv := ?v3) (he := ?v4) ?v1 EvL.nil
        case v3 => walk_at "nmu"
        case v4 => rfl
        case v1 =>
          with_reducible refine' Ev.comp (L := dueL own other odd 5) (g := fun c => .str (S [c])) isWs (fun c => .str (S [c])) [] ?ci ?cb ?cσ ?cfree ?cx ?ck ?cn ?cs ?clen
          walk_at "comp"
          case clen => rw [hdl]; decide
          case ci =>
            rw [← signs_S]
            refine Itb.str ?_ (S_ascii (due_lt own other odd 5 (Nat.le_refl _)))
            walk_at "ev"
          case cb =>
            intro C c hc
            refine ⟨EtL.one ?_, fun _ => ⟨?_, by intro h; cases h⟩⟩
            · have oi : Op2 w (n + 1) (compareOp .In) (.str (S [c])) (.str (S wsL)) (.bool (isWs c)) := Op2.instr rfl
              with_reducible refine' Et.cmp (hm := ?m1) ?m2 ?m3 oi
              case m1 => with_unfolding_all rfl
              case m2 => walk_at "ev"
              case m3 => exact Ev.of Ev.cstr rfl
            · walk_at "ev"
section
variable {w : World}
/-- QName(a, b): its own dict has the text -/
theorem call_q {n : Nat} {A : Around} (hA : Lim (n + 3) A) {F : Part} {s : Shared} {E : Value → Shared → Prop} (ok : OK w F s) {a b : List Nat} {t u : Tok} (ha : a.length ≤ 1000) (hb : b.length ≤ 1000) (hb0 : b ≠ []) :
    wpAny (model prog w) A (call (.ref 137) [.str (S a) t, .str (S b) u]) (fun v s' => ∃ x mA tk F', v = .ref x ∧ Fw w [] F s F' s' ∧ s'.heap.Inst x 137 mA ∧ mA "text" = some (.str (S (braceL a b)) tk)) E s := by
  obtain ⟨o, ho, nm, q, bs, sn, sub, col, dd, k0, k1, k2, k3, k5, rfl⟩ := q_cls w
  obtain ⟨hh, g, d, tks, os⟩ := s
  have hC := ok.K _ _ ho
  have hn : hh.Ns 136 (hh.nsMap 136) := .of_isNs (isNs_of_in ok.K (q_nsOk w))
  have hi : hh.nsMap 136 "__init__" = some (.ref 78) := ns_some_of ok.K hn (by rfl)
  refine wpAny_call_obj_init _root_.PySem.F.objNew hC hn hi (ok.K 78 _ rfl) rfl fun h' x dx Mk => ?_
  have W0 : Fw w [] F ⟨hh, g, d, tks, os⟩ F ⟨h', g, d, tks, os⟩ := Fw.grow ok Mk.keeps Mk.grows rfl rfl
  have hA1 := hA.under 137 [.str (S a) t, .str (S b) u]
  have hxT : x ∉ TAB := fun m => by obtain ⟨o, e⟩ := tab_some ok m; rw [Mk.newX] at e; cases e
  have hdT : dx ∉ TAB := fun m => by obtain ⟨o, e⟩ := tab_some ok m; rw [Mk.newD] at e; cases e
  obtain ⟨ox, hox, hcx, hncx, hdx⟩ := Mk.inst
  have hdd := Mk.dict ox hox
  obtain ⟨hdne, hns⟩ : dx ≠ x ∧ h'.Ns1 dx fun _ => none := by
    rcases hdx with ⟨h0, _⟩ | ⟨d', h1, h2, h3⟩
    · rw [hdd] at h0; cases h0
    · obtain rfl : d' = dx := Option.some.inj (h1.symm.trans hdd); exact ⟨h2, h3⟩
  have hxlt : x < h'.objs.size := Heap.lt_size hox
  obtain ⟨od, hod⟩ : ∃ od, h'.get? dx = some od := by
    obtain ⟨o, es, ep, e, _⟩ := id hns
    exact ⟨o, e⟩
  have hdlt : dx < h'.objs.size := Heap.lt_size hod
  refine wpAny_call (fnEnter (n := n + 1) ["self", "text_or_uri", "tag"] W0.ok hA1 (vs := [.ref x, .str (S a) t, .str (S b) u]) (avs := [.raw (.ref x), .str (S a), .str (S b)]) (.cons (.raw _) (.cons (.str ..) (.cons (.str ..) .nil))) (f := 78) rfl rfl rfl ?hbind (by kernel_rfl) (by kernel_rfl) rfl rfl rfl rfl rfl rfl fun s₁ I₁ hfr W₁ => ?hbody)
  case hbind =>
    intro Q E hQ
    show wpAny _ _ (seqItems? (.ref 71) >>= _) _ _ _
    refine wpAny_bind (wpAny_seqItems (W0.ok.K 71 _ rfl) rfl ?_)
    exact wpAny_pure hQ
  case hbody =>
    dsimp only at I₁ hfr W₁ ⊢
    have ht : Tr w n (.str (S b)) true := by
      have := Tr.str (w := w) (n := n) (x := S b) (by rw [S_length]; omega)
      rwa [S_length, show (((b.length : Nat) : Int) != 0) = true from by
        have : b.length ≠ 0 := fun h => hb0 (List.length_eq_zero_iff.mp h)
        simpa using this] at this
    refine wpAny_execs_cons (wpAny_mono ((?hE : Es w n _ _ none _ _ (.nxt none [("self", .raw (.ref x)), ("text_or_uri", .str (S (braceL a b)))])) _ ((hA1.deeper _).mono (by omega)) F s₁ _ none I₁) (fun fl s₂ ⟨F₂, W₂, hfl, mu', I₂, _⟩ => ?hrest) fun _ _ h => h)
    case hE =>
      with_reducible refine' Es.ift ?t1 ?t2
      case t1 =>
        with_reducible refine' Et.plain (hv := ?u1) (he := ?u2) ?u3 ht
        case u1 => walk_at "nmu"
        case u2 => intro _; rfl
        case u3 => walk_at "ev"
      case t2 =>
        with_reducible refine' Ex.nxtw (Ex.one (Es.assign (hs := ?as) (Ev.brace ?ae ?ai ha hb) ?aw)) ?ax
        case as => rfl
        case aw => exact Wr.fn (by kernel_rfl)
        case ae => walk_at "ev"
        case ai => walk_at "ev"
        case ax => walk_at "sub"
    case hrest =>
      obtain rfl := muNone I₂
      subst hfl
      dsimp only
      refine wpAny_execs_cons (plainObj_wpAny_Assign_Attribute ?_ rfl)
      refine (Ev.var (n := n) (List.mem_cons_of_mem _ List.mem_cons_self : ("text_or_uri", AV.str (S (braceL a b))) ∈ _) (by decide) (by decide)).use ((hA1.deeper _).mono (by omega)) I₂ (Fw.refl I₂.ok) fun v s₃ F₃ I₃ W₃ L₃ R₃ => ?_
      refine (Ev.var (n := n) (List.mem_cons_self : ("self", AV.raw (.ref x)) ∈ _) (by decide) (by decide)).use ((hA1.deeper _).mono (by omega)) I₃ W₃ fun v' s₄ F₄ I₄ W₄ L₄ R₄ => ?_
      obtain ⟨tv, rfl⟩ := R₃.str
      obtain rfl := R₄.raw
      have W43 := W₁.trans ((W₂.mono (T' := frOf _ _) fun a m => by simpa using m).trans W₄.wide)
      have hfx : ∀ c : Nat, c < h'.objs.size → c ∉ frOf _ _ := fun c hc m => Nat.lt_irrefl _ (Nat.lt_of_lt_of_le hc (hfr c m))
      have Wt := (W0.wide.trans W43).drop (T := []) (G := []) (fun a m => .inr (Nat.le_trans Mk.grows (hfr a m))) (fun _ m => nomatch m)
      have hx4 := W43.heap x hxT (hfx x hxlt) ox hox
      have k4 := W43.heap dx hdT (hfx dx hdlt)
      have hF4 : ∀ c : Nat, hh.get? c = none → c < h'.objs.size → F₄ c = none := fun c h1 h2 => by
        cases e : F₄ c with
        | none => rfl
        | some oo =>
          rcases W43.new c oo e with h | h | h
          · have := (ok.sub c oo h).2
            rw [show hh.get? c = some oo from this] at h1; cases h1
          · exact absurd h2 (Nat.not_lt.mpr h)
          · exact absurd h (hfx c h2)
      have hFx := hF4 x Mk.newX hxlt
      have hFd := hF4 dx Mk.newD hdlt
      have hC4 := W43.ok.K _ _ ho
      have hxC : x ≠ 137 := fun e => by
        have h1 := Mk.newX
        rw [e] at h1
        rw [show hh.get? 137 = some _ from hC] at h1; cases h1
      have hK4 := W43.ok.K
      have hok4 := W43.ok
      obtain ⟨h4, g4, d4, t4, os4⟩ := s₄
      have hn4 : h4.Ns 136 (h4.nsMap 136) := .of_isNs (isNs_of_in hK4 (q_nsOk w))
      have I4 : h4.Inst x 137 (fun _ => none) := by
        obtain ⟨o, es, ep, e, r⟩ := hns
        exact ⟨ox, hx4, hcx, hncx, .inr ⟨dx, hdd, hdne, ⟨o, es, ep, k4 o e, r⟩⟩⟩
      refine with_gr (store_attr _root_.PySem.F.store_object hC4 hn4 (ns_none_of hK4 hn4 (by rfl)) (ns_none_of hK4 hn4 (by rfl)) (by rw [typeLookup_type, builtinLookup_eq_fast]; kernel_rfl) hxC I4 fun h5 tk5 I5 hk hsame gr => ?_)
      have hsz : h4.objs.size ≤ h5.objs.size := gr.1
      have hkk : ∀ c : Nat, c ∉ [x, dx] → ∀ oo, h4.get? c = some oo → h5.get? c = some oo := fun c hc oo e => hk c oo (fun h => hc (by simp [h])) (fun o₀ d' e1 e2 h => by
        have e3 : o₀ = ox := Option.some.inj (e1.symm.trans hx4)
        subst e3
        have e4 : d' = dx := Option.some.inj (e2.symm.trans hdd)
        subst e4
        exact hc (by simp [h])) e
      refine wpAny_execs_nil ⟨rfl, x, _, tv, F₄, rfl, ⟨Wt.le, Wt.new, fun c h1 h2 oo e => hkk c (fun m => ?_) oo (Wt.heap c h1 h2 oo e), Nat.le_trans Wt.size hsz, Wt.gens, Wt.gsz, Wt.os, ?_⟩, I5, by simp⟩
      · have e : hh.get? c = some oo := e
        rcases List.mem_cons.mp m with h | m
        · rw [h, Mk.newX] at e; cases e
        · rw [List.mem_singleton.mp m, Mk.newD] at e; cases e
      · refine ok.step2 hok4 (T := [x, dx]) (fun c m => ?_) hkk hsz hok4.bare
        rcases List.mem_cons.mp m with h | m
        · subst h; exact ⟨Mk.newX, hFx⟩
        · rw [List.mem_singleton.mp m]; exact ⟨Mk.newD, hFd⟩
theorem Ev.qtext {n : Nat} {env : Env} {fr : List Addr} {mc : Option MC} {σ : Sto} {e1 e2 : Expr} {np cpos apos : Pos} {a b : List Nat} (hf : Ev w (n + 3) env fr mc σ (.Name (Str.ofString "QName") np) (.raw (.ref 137))) (hs : EvL w (n + 3) env fr mc σ [e1, e2] [.str (S a), .str (S b)])
    (ha : a.length ≤ 1000) (hb : b.length ≤ 1000) (hb0 : b ≠ [])
    (he : eval (.Attribute (.Call (.Name (Str.ofString "QName") np) [e1, e2] [] cpos) (Str.ofString "text") apos) env = (do
      let o ← eval (.Call (.Name (Str.ofString "QName") np) [e1, e2] [] cpos) env
      standAt apos.atName
      let r ← holding [o] (getAttr o (Str.ofString "text") true)
      letTemporaryGo (.Call (.Name (Str.ofString "QName") np) [e1, e2] [] cpos) o r
      pure r)) : Ev w (n + 3) env fr mc σ (.Attribute (.Call (.Name (Str.ofString "QName") np) [e1, e2] [] cpos) (Str.ofString "text") apos) (.str (S (braceL a b))) := fun A hA F s E mu I => by
  rw [he]
  refine wpAny_bind (wpAny_Call_NameR (hf.use hA I (Fw.refl I.ok) fun fv s₁ F₁ I₁ W₁ L₁ R₁ => ?_))
  obtain rfl := R₁.raw
  refine callWith_q (hs cpos).1 (hs.use hA I₁ W₁ fun xs s₂ F₂ I₂ W₂ L₂ R₂ => ⟨⟨F₂, I₂.ok⟩, ?_⟩)
  obtain ⟨t, u, rfl⟩ : ∃ t u, xs = [.str (S a) t, .str (S b) u] := by
    cases R₂ with | cons r rs => cases rs with | cons r2 rs => cases rs with | nil =>
    cases r with | str _ t => cases r2 with | str _ u => exact ⟨t, u, rfl⟩
  refine wpAny_mono (call_q hA I₂.ok ha hb hb0) (fun v s₃ ⟨x, mA, tk, F₃, hv, W₃, hI, hm⟩ => ?_) fun _ _ h => h
  subst hv
  refine wpAny_bind (wpAny_standAt (wpAny_bind (wpAny_holding ?_)))
  have W := W₂.trans W₃
  obtain ⟨o, ho, nm, q, bs, sn, sub, col, dd, k0, k1, k2, k3, k5, rfl⟩ := q_cls w
  have hC := W.ok.K _ _ ho
  have hK := W.ok.K
  obtain ⟨h4, g4, d4, t4, os4⟩ := s₃
  have hn4 : h4.Ns 136 (h4.nsMap 136) := .of_isNs (isNs_of_in hK (q_nsOk w))
  refine load_attr hC hn4 (ns_none_of hK hn4 (by rfl)) (ns_none_of hK hn4 (by rfl)) (by rw [typeLookup_type, builtinLookup_eq_fast]; kernel_rfl) hI hm (by rfl) ?_
  refine wpAny_bind (wpAny_letTemporaryGo (wpAny_pure ⟨F₃, W.trans (Fw.toks W.ok _), .inl (.str ..)⟩))
end
noncomputable def nmAt (nms : List (List Nat)) (k : Nat) : List Nat := nms[k]?.getD []
noncomputable def fullT (nm : List Nat) (x : Nat) : List Nat := braceL (escL nm) [97 + x]
noncomputable def grpT (nms : List (List Nat)) (ms : List Nat) (k j : Nat) : List (List Nat) := ((List.range j).filter (bitB (mAt ms k))).map (fullT (nmAt nms k))
noncomputable def midT (nms : List (List Nat)) (ms : List Nat) (turn : Nat) : Nat → List (List Nat)
  | 0 => []
  | j + 1 => midT nms ms turn j ++ grpT nms ms ((turn + j) % 4) 5
noncomputable def avT (t : List Nat) : AV := .thing (.str (S t))
noncomputable def feT (nms : List (List Nat)) (turn : Nat) : List Nat := braceL (escL (nmAt nms turn ++ nmAt nms turn)) [102, 101]
noncomputable def thingsV (nms : List (List Nat)) (ms : List Nat) (turn : Nat) : List AV := .thing .none :: avT (feT nms turn) :: ((midT nms ms turn 4).map avT ++ (List.range 5).map fun x => avT [97 + x])
noncomputable def nmsV (nms : List (List Nat)) : AV := .list (nms.map fun l => .str (S l))
theorem grpT_len (nms : List (List Nat)) (ms : List Nat) (k j : Nat) : (grpT nms ms k j).length ≤ j := by
  unfold grpT
  rw [List.length_map]
  exact Nat.le_trans (List.length_filter_le ..) (by simp)
theorem midT_len (nms : List (List Nat)) (ms : List Nat) (turn : Nat) : ∀ j, (midT nms ms turn j).length ≤ 5 * j
  | 0 => Nat.le_refl _
  | j + 1 => by
    rw [midT, List.length_append]
    have := midT_len nms ms turn j
    have := grpT_len nms ms ((turn + j) % 4) 5
    omega
theorem grpT_succ (nms : List (List Nat)) (ms : List Nat) (k j : Nat) : grpT nms ms k (j + 1) = grpT nms ms k j ++ (if bitB (mAt ms k) j then [fullT (nmAt nms k) j] else []) := by
  unfold grpT
  rw [List.range_succ, List.filter_append, List.map_append]
  congr 1
  rw [List.filter_cons]
  cases bitB (mAt ms k) j <;> rfl
theorem digs1_get : ∀ (c a x : Nat), x < c → (digs 1 c a)[x]? = some (a / 2 ^ x % 2)
  | c + 1, a, 0, _ => by rw [digs]; simp
  | c + 1, a, x + 1, h => by
    rw [digs, List.getElem?_cons_succ, digs1_get c _ x (by omega), Nat.div_div_eq_div_mul, Nat.pow_one, Nat.pow_succ, Nat.mul_comm 2]
theorem cntD5 : ∀ m : Nat, m < 32 → 16 ≤ m → cntD m 1 = 5 := by decide
theorem f_things (w : World) (n : Nat) (nms : List (List Nat)) (ms : List Nat) (turn : Nat) (hn : nms.length = 4) (hml : ms.length = 4) (hm : ∀ k < 4, 16 ≤ mAt ms k ∧ mAt ms k < 32) (ht : turn < 4)
    (he : ∀ k < 4, escOk (nmAt nms k) = true ∧ (escL (nmAt nms k)).length ≤ 100 ∧ (nmAt nms k).length ≤ 100) (he2 : escOk (nmAt nms turn ++ nmAt nms turn) = true ∧ (escL (nmAt nms turn ++ nmAt nms turn)).length ≤ 100) :
    Fn w (n + 10) 184 [.list (avs ms), nmsV nms, .int (turn : Nat)] (.list (thingsV nms ms turn)) := by
  have ft : ∀ t, PlainT t → Fc w (n + 9) (.ref 179) [t] (.thing t) := fun t ht => (f_thing w (n + 8) t ht).fc
  have ftn := ft .none trivial
  have fts : ∀ l : List Nat, Fc w (n + 9) (.ref 179) [.str (S l)] (avT l) := fun l => ft (.str (S l)) trivial
  have fe : ∀ l, escOk l = true → Fc w (n + 9) (.ref 155) [.str (S l)] (.str (S (escL l))) := fun l hl => (f_escape w (n + 8) l hl).fc
  have fi : ∀ k < 4, Fc w (n + 9) (.ref 42) [.int (mAt ms k : Nat), .int (1 : Nat)] (.list (dvs 1 5 (mAt ms k))) := fun k hk => by
    have h5 := cntD5 _ (hm k hk).2 (hm k hk).1
    have := f_int2digits w n (mAt ms k) 1 (by decide) (by decide) (by rw [h5]; decide)
    rw [h5] at this
    exact this.fc
  have hng : ∀ k : Nat, k < 4 → SubOp w (n + 9) (nmsV nms) (.int (k : Nat)) (.str (S (nmAt nms k))) := fun k hk => SubOp.list (by omega) (by
    unfold nmAt
    rw [Int.toNat_natCast, List.getElem?_map, List.getElem?_eq_getElem (show k < nms.length by omega)]; rfl) (by omega)
  have hmg : ∀ k : Nat, k < 4 → SubOp w (n + 9) (.list (avs ms)) (.int (k : Nat)) (.int (mAt ms k : Nat)) := fun k hk => SubOp.list (by omega) (avs_get (by omega)) (by omega)
  refine' Fn.intro (n := n + 9) (out := .ret (.list (thingsV nms ms turn))) ["masks", "names", "turn"] [("masks", .list (avs ms)), ("names", nmsV nms), ("turn", .int (turn : Nat))] ?hb ?hs ?ho ?hd ?hbody ?hlen ?hout ?hbind ?hown ?hcode ?hclo ?hgl ?hbu ?hco ?hgen ?hk
  walk_at "fn"
  with_reducible refine' Ex.cons (Es.newmu (hs := ?ds) (NewM.lst (vs := [.thing .none, avT (feT nms turn)]) ?dl ?dt) ?dw) ?dr
  case dt => exact Nat.le_of_ble_eq_true rfl
  case ds => rfl
  case dw => exact Wr.fn (by kernel_rfl)
  case dl =>
    with_reducible refine' EvL.cons (hv := ?v3) (he := ?v4) ?v1 ?v2
    case v3 => walk_at "nmu"
    case v4 => rfl
    case v1 =>
      with_reducible refine' Ev.calld ?be1 ?be2 ?be3 ?be4 ftn
      case be1 => walk_at "ev"
      case be2 => walk_at "evl"
      case be3 => exact rfl
      case be4 => exact rfl
    case v2 =>
      with_reducible refine' EvL.cons (hv := ?v3) (he := ?v4) ?v1 EvL.nil
      case v3 => exact fun h => nomatch h
      case v4 => rfl
      case v1 =>
        have s1 := hng turn ht
        have a1 : Op2 w (n + 9) (binaryOp .Add) (.str (S (nmAt nms turn))) (.str (S (nmAt nms turn))) (.str (S (nmAt nms turn ++ nmAt nms turn))) := Op2.addS (by have := (he turn ht).2.2; omega)
        with_reducible refine' Ev.calld ?be1 ?be2 ?be3 ?be4 (fts (feT nms turn))
        case be1 => walk_at "ev"
        case be3 => exact rfl
        case be4 => exact rfl
        case be2 =>
          with_reducible refine' EvL.cons (hv := ?v3) (he := ?v4) ?v1 EvL.nil
          case v3 => walk_at "nmu"
          case v4 => rfl
          case v1 =>
            refine Ev.qtext (n := n + 6) ?q1 ?q2 (Nat.le_trans he2.2 (by decide)) (by decide) (by decide) rfl
            case q1 => walk_at "ev"
            case q2 =>
              with_reducible refine' EvL.cons (hv := ?v3) (he := ?v4) ?v1 ?v2
              case v3 => walk_at "nmu"
              case v4 => rfl
              case v1 =>
                with_reducible refine' Ev.calld ?ce1 ?ce2 ?ce3 ?ce4 (fe _ he2.1)
                case ce1 => walk_at "ev"
                case ce2 => walk_at "evl"
                case ce3 => exact rfl
                case ce4 => exact rfl
              case v2 =>
                with_reducible refine' EvL.cons (hv := ?v3) (he := ?v4) ?v1 EvL.nil
                case v3 => walk_at "nmu"
                case v4 => rfl
                case v1 => exact Ev.of Ev.cstr rfl
  with_reducible refine' Ex.cons (Es.forx (l := natsL 4) (fun j => (some (.list ([.thing .none, avT (feT nms turn)] ++ (midT nms ms turn j).map avT)), [("masks", .list (avs ms)), ("names", nmsV nms), ("turn", .int (turn : Nat)), ("things", .mu)]))
    (some (.list ([.thing .none, avT (feT nms turn)] ++ (midT nms ms turn 4).map avT))) [("things", .mu)] ?f1 ?f2 ?f3 ?f4 ?f5 ?f6 ?f7 ?f8 ?f9) ?fr
  case f1 => walk_at "range"
  case f2 => rfl
  case f3 => walk_at "sub"
  case f4 => exact Wr.fn (by kernel_rfl)
  case f6 => intro _; rfl
  case f7 => exact natsL_ne 4
  case f8 => rfl
  case f9 => exact forall_cons (.tail _ (.tail _ (.tail _ (.head _)))) forall_nil
  case f5 =>
    intro j v hv
    obtain ⟨hj, rfl⟩ := natsL_get hv
    dsimp only
    have hk4 : (turn + j) % 4 < 4 := Nat.mod_lt _ (by decide)
    have o1 : Op2 w (n + 9) (binaryOp .Mod) (.int ((turn : Nat) + (j : Nat))) (.int 4) (.int ((turn + j) % 4 : Nat)) := by
      have := Op2.mod (w := w) (n := n + 9) (i := (turn : Nat) + (j : Nat)) (j := 4) (by decide)
      rw [Int.fmod_eq_emod_of_nonneg _ (by decide)] at this
      rw [show (((turn + j) % 4 : Nat) : Int) = (((turn : Nat) : Int) + (j : Nat)) % 4 from by omega]
      exact this
    rw [midT, List.map_append, ← List.append_assoc _ _ _]
    have hcl : ([AV.thing .none, avT (feT nms turn)] ++ (midT nms ms turn j).map avT).length ≤ 100 := by
      rw [List.length_append, List.length_map]
      have := midT_len nms ms turn j
      simp only [List.length_cons, List.length_nil]
      omega
    generalize [AV.thing .none, avT (feT nms turn)] ++ (midT nms ms turn j).map avT = cur at *
    generalize hkk : (turn + j) % 4 = k at *
    refine Ex.weaken (σ' := [("masks", .list (avs ms)), ("names", nmsV nms), ("turn", .int (turn : Nat)), ("things", .mu), ("step", .int (j : Nat))]) ?_ (by walk_at "sub")
    with_reducible refine' Ex.cons (Es.assign (v := .int (k : Nat)) (hs := ?asn) ?ae ?aw) ?ar
    case asn => rfl
    case aw => exact Wr.fn (by kernel_rfl)
    case ae => walk_at "ev"
    have hdl : (dvs 1 5 (mAt ms k)).length = 5 := dvs_len ..
    have e5 : grpT nms ms k 5 = grpT nms ms k (dvs 1 5 (mAt ms k)).length := by rw [hdl]
    rw [e5]
    with_reducible refine' Ex.nxtw (Ex.one (Es.forEnum (l := dvs 1 5 (mAt ms k)) (fun x => (some (.list (cur ++ (grpT nms ms k x).map avT)), [("masks", .list (avs ms)), ("names", nmsV nms), ("turn", .int (turn : Nat)), ("things", .mu), ("step", .int (j : Nat)), ("k", .int (k : Nat))])) ?e1 ?e2 ?e3 ?e4 ?e5 ?e6 ?e7 ?e8)) ?e9
    case e1 => walk_at "ev"
    case e2 =>
      have fik := fi k hk4
      have mgk := hmg k hk4
      with_reducible refine' EvL.cons (hv := ?v3) (he := ?v4) ?v1 EvL.nil
      case v3 => walk_at "nmu"
      case v4 => rfl
      case v1 =>
        with_reducible refine' Ev.calld ?be1 ?be2 ?be3 ?be4 fik
        case be1 => walk_at "ev"
        case be3 => exact rfl
        case be4 => exact rfl
        case be2 =>
          with_reducible refine' EvL.cons (hv := ?w3) (he := ?w4) ?w1 ?w2
          case w3 => walk_at "nmu"
          case w4 => rfl
          case w1 => walk_at "ev"
          case w2 =>
            with_reducible refine' EvL.cons (hv := ?w3) (he := ?w4) ?w1 EvL.nil
            case w3 => walk_at "nmu"
            case w4 => rfl
            case w1 => exact Ev.of Ev.cint rfl
    case e3 =>
      dsimp only
      rw [show grpT nms ms k 0 = [] from rfl, List.map_nil, List.append_nil]
    case e4 => walk_at "sub"
    case e5 => exact Wr.fn (by kernel_rfl)
    case e6 => exact Wr.fn (by kernel_rfl)
    case e8 => exact fun _ => rfl
    case e9 => exact forall_cons (.head _) (forall_cons (.tail _ (.head _)) (forall_cons (.tail _ (.tail _ (.head _))) (forall_cons (.tail _ (.tail _ (.tail _ (.head _)))) forall_nil)))
    case e7 =>
      intro x v hv
      have hx : x < 5 := by
        have := (List.getElem?_eq_some_iff.mp hv).1
        omega
      have hv' : v = .int (mAt ms k / 2 ^ x % 2 : Nat) := by
        unfold dvs at hv
        rw [List.getElem?_map, digs1_get 5 _ x hx] at hv
        exact (Option.some.inj hv).symm
      subst hv'
      dsimp only
      refine Ex.weaken (σ' := [("masks", .list (avs ms)), ("names", nmsV nms), ("turn", .int (turn : Nat)), ("things", .mu), ("step", .int (j : Nat)), ("k", .int (k : Nat)), ("x", .int (x : Nat)), ("figure", .int (mAt ms k / 2 ^ x % 2 : Nat))]) ?_ (by walk_at "sub")
      have oeq : Op2 w (n + 9) (compareOp .Eq) (.int (mAt ms k / 2 ^ x % 2 : Nat)) (.int 1) (.bool (bitB (mAt ms k) x)) := by
        rw [show bitB (mAt ms k) x = (((mAt ms k / 2 ^ x % 2 : Nat) : Int) == 1) from by
          unfold bitB
          have : mAt ms k / 2 ^ x % 2 = 0 ∨ mAt ms k / 2 ^ x % 2 = 1 := by omega
          rcases this with h | h <;> rw [h] <;> rfl]
        exact Op2.eq
      rw [grpT_succ, List.map_append, ← List.append_assoc _ _ _]
      have hgl := grpT_len nms ms k x
      have hcl2 : (cur ++ (grpT nms ms k x).map avT).length ≤ 1000 := by rw [List.length_append, List.length_map]; omega
      generalize cur ++ (grpT nms ms k x).map avT = cur2 at *
      with_reducible refine' Ex.nxtw (Ex.one (Es.ifb (c := bitB (mAt ms k) x) ?i1 ?i2)) ?i3
      case i3 => exact fun q hq => hq
      case i1 =>
        with_reducible refine' Et.cmp (hm := ?m1) ?m2 ?m3 oeq
        case m1 => with_unfolding_all rfl
        case m2 => walk_at "ev"
        case m3 => walk_at "ev"
      case i2 =>
        cases hb : bitB (mAt ms k) x with
        | false =>
          simp only [Bool.false_eq_true, if_false, List.map_nil, List.append_nil]
          exact Ex.nxtw Ex.nil (by walk_at "sub")
        | true =>
          simp only [if_true, List.map_cons, List.map_nil]
          have s1 := hng k hk4
          have sb : SubOp w (n + 9) (.str (S [97, 98, 99, 100, 101])) (.int (x : Nat)) (.str (S [97 + x])) := SubOp.strS (by omega) (by omega) (by
            have : x = 0 ∨ x = 1 ∨ x = 2 ∨ x = 3 ∨ x = 4 := by omega
            rcases this with rfl | rfl | rfl | rfl | rfl <;> rfl)
          with_reducible refine' Ex.nxtw (Ex.one (Es.mumeth (vs := [avT (fullT (nmAt nms k) x)]) (hd := ?m1) (hcc := ?m2) (hbase := ?m3) (hfew := ?m4) (hline := ?m5) (hi := ?m6) (hsw := ?m7) ?m8 ?m9 (MuM.append ?m10) _root_.PySem.F.slot_list_append _root_.PySem.F.type_list_append)) ?m11
          case m1 => decide
          case m2 => decide
          case m3 => rfl
          case m4 => rfl
          case m5 => rfl
          case m6 => rfl
          case m7 => rfl
          case m8 => walk_at "mem"
          case m10 => omega
          case m11 => walk_at "sub"
          case m9 =>
            with_reducible refine' EvL.cons (hv := ?v3) (he := ?v4) ?v1 EvL.nil
            case v3 => exact fun h => nomatch h
            case v4 => rfl
            case v1 =>
              with_reducible refine' Ev.calld ?be1 ?be2 ?be3 ?be4 (fts (fullT (nmAt nms k) x))
              case be1 => walk_at "ev"
              case be3 => exact rfl
              case be4 => exact rfl
              case be2 =>
                with_reducible refine' EvL.cons (hv := ?v3) (he := ?v4) ?v1 EvL.nil
                case v3 => walk_at "nmu"
                case v4 => rfl
                case v1 =>
                  refine Ev.qtext (n := n + 6) ?q1 ?q2 (Nat.le_trans (he k hk4).2.1 (by decide)) (Nat.le_of_ble_eq_true rfl) (fun h => nomatch h) rfl
                  case q1 => walk_at "ev"
                  case q2 =>
                    with_reducible refine' EvL.cons (hv := ?v3) (he := ?v4) ?v1 ?v2
                    case v3 => walk_at "nmu"
                    case v4 => rfl
                    case v1 =>
                      with_reducible refine' Ev.calld ?ce1 ?ce2 ?ce3 ?ce4 (fe _ (he k hk4).1)
                      case ce1 => walk_at "ev"
                      case ce2 => walk_at "evl"
                      case ce3 => exact rfl
                      case ce4 => exact rfl
                    case v2 =>
                      with_reducible refine' EvL.cons (hv := ?v3) (he := ?v4) ?v1 EvL.nil
                      case v3 => walk_at "nmu"
                      case v4 => rfl
                      case v1 =>
                        with_reducible refine' Ev.sub (hsub := ?ah) (a := .str (S [97, 98, 99, 100, 101])) ?ai ?aj sb
                        case ai => exact Ev.of Ev.cstr rfl
                        case aj => walk_at "ev"
                        case ah => intro o i; exact ⟨_, rfl⟩
  case fr =>
    have hml := midT_len nms ms turn 4
    refine Ex.freeze [("things", .list ([.thing .none, avT (feT nms turn)] ++ (midT nms ms turn 4).map avT))] ?_ ?hth
    case hth => walk_at "thaw"
    have oadd : Op2 w (n + 9) (binaryOp .Add) (.list ([.thing .none, avT (feT nms turn)] ++ (midT nms ms turn 4).map avT)) (.list ((List.range 5).map fun x => avT [97 + x])) (.list (thingsV nms ms turn)) := Op2.addlist (by
      simp only [List.length_append, List.length_map, List.length_cons, List.length_nil, List.length_range]
      omega)
    walk_at "ret"
    with_reducible refine' Ev.bin ?b1 ?b2 oadd
    case b1 => walk_at "ev"
    case b2 =>
      refine Ev.of (Ev.comp (L := List.range 5) (g := fun x => .str (S [97 + x])) (fun _ => true) (fun x => avT [97 + x]) [] ?ci ?cbb ?cσ ?cfree ?cx ?ck ?cn ?cs ?clen) ?ce
      walk_at "comp"
      case clen => decide
      case ce => rfl
      case ci =>
        refine Itb.str (x := S [97, 98, 99, 100, 101]) ?_ (by simp [S])
        exact Ev.of Ev.cstr rfl
      case cbb =>
        intro C x hx
        refine ⟨EtL.nil, fun _ => ⟨?_, by intro h; cases h⟩⟩
        with_reducible refine' Ev.calld ?be1 ?be2 ?be3 ?be4 (fts [97 + x])
        case be1 => walk_at "ev"
        case be2 => walk_at "evl"
        case be3 => exact rfl
        case be4 => exact rfl
theorem boot_slice : bootBuiltins (Str.ofString "slice") = some (.type "slice") := by decide +kernel
theorem Ex.retmw {w : World} {n : Nat} {env : Env} {fr : List Addr} {mc mc' : Option MC} {σ σ' : Sto} {ss : List Stmt} {σ'' : Sto} {v : AV} (h : Ex w n env fr mc σ ss (.retm mc' σ' v)) (hσ : ∀ p ∈ σ'', p ∈ σ') : Ex w n env fr mc σ ss (.retm mc' σ'' v) := fun A hA F s E mu I =>
  wpAny_mono (h A hA F s E mu I) (fun fl s' ⟨F', W, x, hf, hr, mu', I', hm⟩ => ⟨F', W, x, hf, hr, mu', I'.weaken hσ, hm⟩) fun _ _ y => y
noncomputable def selQ : Str := "_prepare_tag.<locals>.select"
noncomputable def params4 : Arguments := { posonlyargs := [], args := [{ arg := "context", annotation := none, pos := ⟨98, 19, 98, 26⟩ }, { arg := "result", annotation := none, pos := ⟨98, 28, 98, 34⟩ }], vararg := none, kwonlyargs := [], kw_defaults := [], kwarg := none, defaults := [] }
noncomputable def stA4 : Stmt := .Assign [.Name (Str.ofString "el_tag") ⟨100, 16, 100, 22⟩] (.Attribute (.Name (Str.ofString "elem") ⟨100, 25, 100, 29⟩) (Str.ofString "tag") ⟨100, 25, 100, 33⟩) ⟨100, 16, 100, 33⟩
noncomputable def test4 : Expr := .BoolOp .And [.Call (.Name (Str.ofString "_isinstance") ⟨101, 19, 101, 30⟩) [.Name (Str.ofString "el_tag") ⟨101, 31, 101, 37⟩, .Name (Str.ofString "_str") ⟨101, 39, 101, 43⟩] [] ⟨101, 19, 101, 44⟩,
  .Compare (.Subscript (.Name (Str.ofString "el_tag") ⟨101, 49, 101, 55⟩) (.Name (Str.ofString "ns_only") ⟨101, 56, 101, 63⟩) ⟨101, 49, 101, 64⟩) [.Eq] [.Name (Str.ofString "ns") ⟨101, 68, 101, 70⟩] ⟨101, 49, 101, 70⟩] ⟨101, 19, 101, 70⟩
noncomputable def ye4 : Expr := .Name (Str.ofString "elem") ⟨102, 26, 102, 30⟩
noncomputable def body4 : List Stmt := [.For (.Name (Str.ofString "elem") ⟨99, 16, 99, 20⟩) (.Name (Str.ofString "result") ⟨99, 24, 99, 30⟩) (gbody stA4 test4 ye4 ⟨102, 20, 102, 30⟩ ⟨102, 20, 102, 30⟩ ⟨101, 16, 102, 30⟩) [] ⟨99, 12, 102, 30⟩]
noncomputable def scope4 : Scope := { kind := .function, names := [("context", .local), ("result", .local), ("elem", .local), ("el_tag", .local), ("_isinstance", .free), ("_str", .free), ("ns", .free), ("ns_only", .free)], isGenerator := true, isCoroutine := false, more := [] }
noncomputable def vars4 (nm : List Nat) : Sto := [("_isinstance", .raw (.builtin "isinstance")), ("_str", .raw (.type "str")), ("ns", .str (S (123 :: (nm ++ [125])))), ("ns_only", .slc none (some ((nm.length + 2 : Nat) : Int)))]
theorem f_prep4 (w : World) (n : Nat) (nm : List Nat) (c : Nat) (nm' : List Nat) (hnm : nm = c :: nm') (hc : c ≠ 42 ∧ c ≠ 125) (hl : nm.length ≤ 1000) : FnS w (n + 1) 63 [.str (S (123 :: (nm ++ [125, 42])))] selQ params4 body4 scope4 (vars4 nm) := by
  refine' FnS.intro (n := n) ["tag"] [("tag", .str (S (123 :: (nm ++ [125, 42]))))] (fun _ => vars4 nm) ?hb ?hs ?hse ?hsk ?ho ?hd ?hbody ?hlen ?hbind ?hown ?hcode ?hclo ?hgl ?hbu ?hco ?hgen ?hk
  case ho => exact rfl
  case hd => exact rfl
  case hbody => exact rfl
  case hlen => rfl
  case hbind => intro vs h; exact len1 h (fun _ => rfl)
  case hown => kernel_rfl
  case hcode => kernel_rfl
  case hclo => rfl
  case hgl => rfl
  case hbu => rfl
  case hco => rfl
  case hgen => rfl
  case hk => rfl
  case hs => walk_at "sub"
  case hse => exact fun _ _ h => h
  case hsk => exact all_cons ⟨by walk_at "nmu", rfl, rfl⟩ (all_cons ⟨by walk_at "nmu", rfl, rfl⟩ (all_cons ⟨by walk_at "nmu", rfl, rfl⟩ (all_cons ⟨by walk_at "nmu", rfl, rfl⟩ all_nil)))
  case hb =>
    intro L
    dsimp only
    have hT1 : (123 :: (nm ++ [125, 42]) = [123, 42, 125, 42]) = False := by subst hnm; simp [hc.1]
    have hT2 : (123 :: (nm ++ [125, 42]) = [123, 125, 42]) = False := by subst hnm; simp [hc.2]
    have hT3 : ((123 :: (nm ++ [125, 42])).take 3 = [123, 42, 125]) = False := by subst hnm; simp [hc.1]
    generalize hTT : 123 :: (nm ++ [125, 42]) = T at *
    have hTl : T.length = nm.length + 3 := by rw [← hTT]; simp
    have c1 : cutStr (S T) none (some 3) = S (T.take 3) := by
      have := cut_eq (l := T) (lo := none) (hi := some 3) 0 3 rfl (by unfold clipA; simp; omega) (by omega) (by omega)
      simpa using this
    have c2 : cutStr (S T) (some (-2)) none = S [125, 42] := by
      rw [cut_eq (l := T) (lo := some (-2)) (hi := none) (T.length - 2) T.length (by unfold clipA; simp; omega) rfl (by omega) (by omega)]
      rw [← hTT]
      congr 1
      simp
    have c3 : cutStr (S T) none (some (-1)) = S (123 :: (nm ++ [125])) := by
      rw [cut_eq (l := T) (lo := none) (hi := some (-1)) 0 (T.length - 1) rfl (by unfold clipA; simp; omega) (by omega) (by omega)]
      rw [← hTT]
      congr 1
      simp
      rw [List.take_append]
      simp
      exact List.take_of_length_le (by omega)
    with_reducible refine' Ex.cons (Es.tup2 (u := .raw (.builtin "isinstance")) (v := .raw (.type "str")) (hs := ?t1) (hw := ?t2) ?t3 ?t4 ?t5) ?t6
    case t1 => rfl
    case t2 => rfl
    case t4 => exact Wr.fn (by kernel_rfl)
    case t5 => exact Wr.fn (by kernel_rfl)
    case t3 =>
      with_reducible refine' Ev.tup ?ta ?tb
      case ta => walk_at "evl"
      case tb => exact Nat.le_of_ble_eq_true rfl
    case t6 =>
    have oe : ∀ l : List Nat, (T = l) = False → Op2 w n (compareOp .Eq) (.str (S T)) (.str (S l)) (.bool false) := fun l h => by
      have := Op2.eqS (w := w) (n := n) (a := T) (b := l)
      rwa [decide_eq_false (by rw [h]; exact id)] at this
    have oe1 := oe _ hT1
    have oe2 := oe _ hT2
    have oe3 : Op2 w n (compareOp .Eq) (.str (S (T.take 3))) (.str (S [123, 42, 125])) (.bool false) := by
      have := Op2.eqS (w := w) (n := n) (a := T.take 3) (b := [123, 42, 125])
      rwa [decide_eq_false (by rw [hT3]; exact id)] at this
    have oe4 : Op2 w n (compareOp .Eq) (.str (S [125, 42])) (.str (S [125, 42])) (.bool true) := by
      have := Op2.eqS (w := w) (n := n) (a := [125, 42]) (b := [125, 42])
      rwa [decide_eq_true rfl] at this
    have s1 : SubOp w n (.str (S T)) (.slc none (some 3)) (.str (S (T.take 3))) := SubOp.cutS (by omega) c1
    have s2 : SubOp w n (.str (S T)) (.slc (some (-2)) none) (.str (S [125, 42])) := SubOp.cutS (by omega) c2
    have s3 : SubOp w n (.str (S T)) (.slc none (some (-1))) (.str (S (123 :: (nm ++ [125])))) := SubOp.cutS (by omega) c3
    have fl : Fc w n (.builtin "len") [.str (S (123 :: (nm ++ [125])))] (.int ((nm.length + 2 : Nat) : Int)) := by
      have := Fc.lenS (w := w) (n := n) (l := 123 :: (nm ++ [125])) (by simp; omega)
      rwa [show (123 :: (nm ++ [125])).length = nm.length + 2 from by simp] at this
    have fsl : Fc w n (.type "slice") [.none, .int ((nm.length + 2 : Nat) : Int)] (.slc none (some ((nm.length + 2 : Nat) : Int))) := Fc.slice (l := none) (u := some _)
    with_reducible refine' Ex.cons (mc' := none) (σ' := _) (Es.iff ?i1 (Ex.one (σ' := _) (Es.iff ?i2 (Ex.one (σ' := _) (Es.iff ?i3 (Ex.one (σ' := _) (Es.ift ?i4 ?i5))))))) ?i6
    case i1 =>
      with_reducible refine' Et.cmp (hm := ?m1) ?m2 ?m3 oe1
      case m1 => with_unfolding_all rfl
      case m2 => walk_at "ev"
      case m3 => exact Ev.of Ev.cstr rfl
    case i2 =>
      with_reducible refine' Et.cmp (hm := ?m1) ?m2 ?m3 oe2
      case m1 => with_unfolding_all rfl
      case m2 => walk_at "ev"
      case m3 => exact Ev.of Ev.cstr rfl
    case i3 =>
      with_reducible refine' Et.cmp (hm := ?m1) (Ev.sub (hsub := ?m4) ?m2 (Ev.slice ?m5 ?m6) s1) ?m3 oe3
      case m1 => with_unfolding_all rfl
      case m2 => walk_at "ev"
      case m3 => exact Ev.of Ev.cstr rfl
      case m4 => intro o i; exact ⟨_, rfl⟩
      case m5 => exact True.intro
      case m6 => exact Ev.cint
    case i4 =>
      with_reducible refine' Et.cmp (hm := ?m1) (Ev.sub (hsub := ?m4) ?m2 (Ev.slice ?m5 ?m6) s2) ?m3 oe4
      case m1 => with_unfolding_all rfl
      case m2 => walk_at "ev"
      case m3 => exact Ev.of Ev.cstr rfl
      case m4 => intro o i; exact ⟨_, rfl⟩
      case m5 => exact Ev.una Ev.cint Op1.neg (by intro h; cases h)
      case m6 => exact True.intro
    case i5 =>
      with_reducible refine' Ex.cons (Es.assign (hs := ?as) (Ev.sub (hsub := ?m4) ?m2 (Ev.slice ?m5 ?m6) s3) ?aw) ?ar
      case as => rfl
      case aw => exact Wr.fn (by kernel_rfl)
      case m2 => walk_at "ev"
      case m4 => intro o i; exact ⟨_, rfl⟩
      case m5 => exact True.intro
      case m6 => exact Ev.una Ev.cint Op1.neg (by intro h; cases h)
      with_reducible refine' Ex.cons (Es.assign (hs := ?bs) (Ev.callt ?b1 ?b2 fsl) ?bw) ?br
      case bs => rfl
      case bw => exact Wr.fn (by kernel_rfl)
      case b1 => exact Ev.boot rfl rfl boot_slice (by decide) (by decide)
      case b2 =>
        with_reducible refine' EvL.cons (hv := ?v3) (he := ?v4) ?v1 ?v2
        case v3 => walk_at "nmu"
        case v4 => rfl
        case v1 => walk_at "ev"
        case v2 =>
          with_reducible refine' EvL.cons (hv := ?v3) (he := ?v4) ?v1 EvL.nil
          case v3 => walk_at "nmu"
          case v4 => rfl
          case v1 =>
            with_reducible refine' Ev.callb ?c1 ?c2 fl
            case c1 => walk_at "ev"
            case c2 => walk_at "evl"
      with_reducible refine' Ex.one (Es.deffn ⟨62, 58, [(73, 8, "_prepare_tag.<locals>.select"), (79, 8, "_prepare_tag.<locals>.select"), (89, 8, "_prepare_tag.<locals>.select"), (98, 8, "_prepare_tag.<locals>.select")]⟩ (98, 8, "_prepare_tag.<locals>.select") ?d1 ?d2 ?d3 ?d4 ?d5 ?d6 ?d7 ?d8 ?d9 ?d10 ?d11)
      case d1 => simp [makers]
      case d2 => exact .tail _ (.tail _ (.tail _ (.head _)))
      case d3 => rfl
      case d4 => rfl
      case d5 => rfl
      case d6 => rfl
      case d7 => rfl
      case d8 => rfl
      case d9 => first | rfl | kernel_rfl | with_unfolding_all rfl
      case d10 => exact fun _ => rfl
      case d11 => exact Wr.fn (by kernel_rfl)
    case i6 =>
      refine Ex.retmw (Ex.stopm (Es.retv (Ev.var (x := "select") mem_upd (by decide) (by decide)) (by intro h; cases h))) ?hsub
      unfold vars4
      walk_at "sub"
noncomputable def params3 : Arguments := { posonlyargs := [], args := [{ arg := "context", annotation := none, pos := ⟨89, 19, 89, 26⟩ }, { arg := "result", annotation := none, pos := ⟨89, 28, 89, 34⟩ }], vararg := none, kwonlyargs := [], kw_defaults := [], kwarg := none, defaults := [] }
noncomputable def stA3 : Stmt := .Assign [.Name (Str.ofString "el_tag") ⟨91, 16, 91, 22⟩] (.Attribute (.Name (Str.ofString "elem") ⟨91, 25, 91, 29⟩) (Str.ofString "tag") ⟨91, 25, 91, 33⟩) ⟨91, 16, 91, 33⟩
noncomputable def test3 : Expr := .BoolOp .Or [.Compare (.Name (Str.ofString "el_tag") ⟨92, 19, 92, 25⟩) [.Eq] [.Name (Str.ofString "tag") ⟨92, 29, 92, 32⟩] ⟨92, 19, 92, 32⟩,
  .BoolOp .And [.Call (.Name (Str.ofString "_isinstance") ⟨92, 37, 92, 48⟩) [.Name (Str.ofString "el_tag") ⟨92, 49, 92, 55⟩, .Name (Str.ofString "_str") ⟨92, 57, 92, 61⟩] [] ⟨92, 37, 92, 62⟩,
  .Compare (.Subscript (.Name (Str.ofString "el_tag") ⟨92, 67, 92, 73⟩) (.Name (Str.ofString "no_ns") ⟨92, 74, 92, 79⟩) ⟨92, 67, 92, 80⟩) [.Eq] [.Name (Str.ofString "suffix") ⟨92, 84, 92, 90⟩] ⟨92, 67, 92, 90⟩] ⟨92, 37, 92, 90⟩] ⟨92, 19, 92, 91⟩
noncomputable def ye3 : Expr := .Name (Str.ofString "elem") ⟨93, 26, 93, 30⟩
noncomputable def body3 : List Stmt := [.For (.Name (Str.ofString "elem") ⟨90, 16, 90, 20⟩) (.Name (Str.ofString "result") ⟨90, 24, 90, 30⟩) (gbody stA3 test3 ye3 ⟨93, 20, 93, 30⟩ ⟨93, 20, 93, 30⟩ ⟨92, 16, 93, 30⟩) [] ⟨90, 12, 93, 30⟩]
noncomputable def scope3 : Scope := { kind := .function, names := [("context", .local), ("result", .local), ("elem", .local), ("el_tag", .local), ("_isinstance", .free), ("_str", .free), ("no_ns", .free), ("suffix", .free), ("tag", .free)], isGenerator := true, isCoroutine := false, more := [] }
noncomputable def vars3 (c : Nat) : Sto := [("_isinstance", .raw (.builtin "isinstance")), ("_str", .raw (.type "str")), ("no_ns", .slc (some (-2)) none), ("suffix", .str (S [125, c])), ("tag", .str (S [c]))]
theorem f_prep3 (w : World) (n : Nat) (c : Nat) (hc : c ≠ 42) : FnS w (n + 1) 63 [.str (S [123, 42, 125, c])] selQ params3 body3 scope3 (vars3 c) := by
  refine' FnS.intro (n := n) ["tag"] [("tag", .str (S [123, 42, 125, c]))] (fun _ => vars3 c) ?hb ?hs ?hse ?hsk ?ho ?hd ?hbody ?hlen ?hbind ?hown ?hcode ?hclo ?hgl ?hbu ?hco ?hgen ?hk
  case ho => exact rfl
  case hd => exact rfl
  case hbody => exact rfl
  case hlen => rfl
  case hbind => intro vs h; exact len1 h (fun _ => rfl)
  case hown => kernel_rfl
  case hcode => kernel_rfl
  case hclo => rfl
  case hgl => rfl
  case hbu => rfl
  case hco => rfl
  case hgen => rfl
  case hk => rfl
  case hs => walk_at "sub"
  case hse => exact fun _ _ h => h
  case hsk => exact all_cons ⟨by walk_at "nmu", rfl, rfl⟩ (all_cons ⟨by walk_at "nmu", rfl, rfl⟩ (all_cons ⟨by walk_at "nmu", rfl, rfl⟩ (all_cons ⟨by walk_at "nmu", rfl, rfl⟩ (all_cons ⟨by walk_at "nmu", rfl, rfl⟩ all_nil))))
  case hb =>
    intro L
    dsimp only
    have c1 : cutStr (S [123, 42, 125, c]) none (some 3) = S [123, 42, 125] := cut_eq (l := [123, 42, 125, c]) (lo := none) (hi := some 3) 0 3 rfl rfl (by decide) (Nat.le_of_ble_eq_true rfl)
    have c2 : cutStr (S [123, 42, 125, c]) (some 2) none = S [125, c] := cut_eq (l := [123, 42, 125, c]) (lo := some 2) (hi := none) 2 4 rfl rfl (by decide) (Nat.le_of_ble_eq_true rfl)
    have c3 : cutStr (S [123, 42, 125, c]) (some 3) none = S [c] := cut_eq (l := [123, 42, 125, c]) (lo := some 3) (hi := none) 3 4 rfl rfl (by decide) (Nat.le_of_ble_eq_true rfl)
    with_reducible refine' Ex.cons (Es.tup2 (u := .raw (.builtin "isinstance")) (v := .raw (.type "str")) (hs := ?t1) (hw := ?t2) ?t3 ?t4 ?t5) ?t6
    case t1 => rfl
    case t2 => rfl
    case t4 => exact Wr.fn (by kernel_rfl)
    case t5 => exact Wr.fn (by kernel_rfl)
    case t3 =>
      with_reducible refine' Ev.tup ?ta ?tb
      case ta => walk_at "evl"
      case tb => exact Nat.le_of_ble_eq_true rfl
    case t6 =>
    have oe1 : Op2 w n (compareOp .Eq) (.str (S [123, 42, 125, c])) (.str (S [123, 42, 125, 42])) (.bool false) := by
      have := Op2.eqS (w := w) (n := n) (a := [123, 42, 125, c]) (b := [123, 42, 125, 42])
      rwa [decide_eq_false (by simpa using hc)] at this
    have oe2 : Op2 w n (compareOp .Eq) (.str (S [123, 42, 125, c])) (.str (S [123, 125, 42])) (.bool false) := by
      have := Op2.eqS (w := w) (n := n) (a := [123, 42, 125, c]) (b := [123, 125, 42])
      rwa [decide_eq_false (by simp)] at this
    have oe3 : Op2 w n (compareOp .Eq) (.str (S [123, 42, 125])) (.str (S [123, 42, 125])) (.bool true) := by
      have := Op2.eqS (w := w) (n := n) (a := [123, 42, 125]) (b := [123, 42, 125])
      rwa [decide_eq_true rfl] at this
    have s1 : SubOp w n (.str (S [123, 42, 125, c])) (.slc none (some 3)) (.str (S [123, 42, 125])) := SubOp.cutS (Nat.le_of_ble_eq_true rfl) c1
    have s2 : SubOp w n (.str (S [123, 42, 125, c])) (.slc (some 2) none) (.str (S [125, c])) := SubOp.cutS (Nat.le_of_ble_eq_true rfl) c2
    have s3 : SubOp w n (.str (S [123, 42, 125, c])) (.slc (some 3) none) (.str (S [c])) := SubOp.cutS (Nat.le_of_ble_eq_true rfl) c3
    have fl : Fc w n (.builtin "len") [.str (S [125, c])] (.int 2) := Fc.lenS (w := w) (n := n) (l := [125, c]) (Nat.le_of_ble_eq_true rfl)
    have fsl : Fc w n (.type "slice") [.int (-2), .none] (.slc (some (-2)) none) := Fc.slice (l := some (-2)) (u := none)
    with_reducible refine' Ex.cons (mc' := none) (σ' := _) (Es.iff ?i1 (Ex.one (σ' := _) (Es.iff ?i2 (Ex.one (σ' := _) (Es.ift ?i3 ?i5))))) ?i6
    case i1 =>
      with_reducible refine' Et.cmp (hm := ?m1) ?m2 ?m3 oe1
      case m1 => with_unfolding_all rfl
      case m2 => walk_at "ev"
      case m3 => exact Ev.of Ev.cstr rfl
    case i2 =>
      with_reducible refine' Et.cmp (hm := ?m1) ?m2 ?m3 oe2
      case m1 => with_unfolding_all rfl
      case m2 => walk_at "ev"
      case m3 => exact Ev.of Ev.cstr rfl
    case i3 =>
      with_reducible refine' Et.cmp (hm := ?m1) (Ev.sub (hsub := ?m4) ?m2 (Ev.slice ?m5 ?m6) s1) ?m3 oe3
      case m1 => with_unfolding_all rfl
      case m2 => walk_at "ev"
      case m3 => exact Ev.of Ev.cstr rfl
      case m4 => intro o i; exact ⟨_, rfl⟩
      case m5 => exact True.intro
      case m6 => exact Ev.cint
    case i5 =>
      with_reducible refine' Ex.cons (Es.assign (hs := ?as) (Ev.sub (hsub := ?m4) ?m2 (Ev.slice ?m5 ?m6) s2) ?aw) ?ar
      case as => rfl
      case aw => exact Wr.fn (by kernel_rfl)
      case m2 => walk_at "ev"
      case m4 => intro o i; exact ⟨_, rfl⟩
      case m5 => exact Ev.cint
      case m6 => exact True.intro
      with_reducible refine' Ex.cons (Es.assign (hs := ?bs) (Ev.callt ?b1 ?b2 fsl) ?bw) ?br
      case bs => rfl
      case bw => exact Wr.fn (by kernel_rfl)
      case b1 => exact Ev.boot rfl rfl boot_slice (by decide) (by decide)
      case b2 =>
        with_reducible refine' EvL.cons (hv := ?v3) (he := ?v4) ?v1 ?v2
        case v3 => walk_at "nmu"
        case v4 => rfl
        case v2 =>
          with_reducible refine' EvL.cons (hv := ?k3) (he := ?k4) ?k1 EvL.nil
          case k3 => walk_at "nmu"
          case k4 => rfl
          case k1 => walk_at "ev"
        case v1 =>
          refine Ev.of (Ev.una (a := .int 2) ?c3 Op1.neg (by intro h; cases h)) rfl
          with_reducible refine' Ev.callb ?c1 ?c2 fl
          case c1 => walk_at "ev"
          case c2 => walk_at "evl"
      with_reducible refine' Ex.cons (Es.assign (hs := ?es) (Ev.sub (hsub := ?m4) ?m2 (Ev.slice ?m5 ?m6) s3) ?ew) ?er
      case es => rfl
      case ew => exact Wr.fn (by kernel_rfl)
      case m2 => walk_at "ev"
      case m4 => intro o i; exact ⟨_, rfl⟩
      case m5 => exact Ev.cint
      case m6 => exact True.intro
      with_reducible refine' Ex.one (Es.deffn ⟨62, 58, [(73, 8, "_prepare_tag.<locals>.select"), (79, 8, "_prepare_tag.<locals>.select"), (89, 8, "_prepare_tag.<locals>.select"), (98, 8, "_prepare_tag.<locals>.select")]⟩ (89, 8, "_prepare_tag.<locals>.select") ?d1 ?d2 ?d3 ?d4 ?d5 ?d6 ?d7 ?d8 ?d9 ?d10 ?d11)
      case d1 => simp [makers]
      case d2 => exact .tail _ (.tail _ (.head _))
      case d3 => rfl
      case d4 => rfl
      case d5 => rfl
      case d6 => rfl
      case d7 => rfl
      case d8 => rfl
      case d9 => first | rfl | kernel_rfl | with_unfolding_all rfl
      case d10 => exact fun _ => rfl
      case d11 => exact Wr.fn (by kernel_rfl)
    case i6 =>
      refine Ex.retmw (Ex.stopm (Es.retv (Ev.var (x := "select") mem_upd (by decide) (by decide)) (by intro h; cases h))) ?hsub
      unfold vars3
      walk_at "sub"
/-- a thing, bare or with a text -/
noncomputable def ThingOk (v : AV) : Prop := v = .thing .none ∨ ∃ l : List Nat, v = .thing (.str (S l)) ∧ l.length ≤ 1000
noncomputable def tagOf : AV → AV
  | .thing t => t
  | _ => .none
noncomputable def p4 (nm : List Nat) : AV → Bool
  | .thing (.str x) => decide (cutStr x none (some ((nm.length + 2 : Nat) : Int)) = S (123 :: (nm ++ [125])))
  | _ => false
noncomputable def p3 (c : Nat) : AV → Bool
  | .thing (.str x) => decide (x = S [c]) || decide (cutStr x (some (-2)) none = S [125, c])
  | _ => false
noncomputable def vars4g (nm : List Nat) (its : List AV) : Sto := ("result", .list its) :: vars4 nm
noncomputable def vars3g (c : Nat) (its : List AV) : Sto := ("result", .list its) :: vars3 c
theorem sel4 (w : World) (n : Nat) (nm : List Nat) (its : List AV) (hits : ∀ v ∈ its, ThingOk v) (f : Addr) (code : Value) (cl : List (Str × Addr)) (L : Addr) : ∀ v ∈ its,
    Es w n (fenv scope4 selQ f code cl L) (frOf L scope4.names) none (upd (vars4g nm its) "elem" v) stA4 (.nxt none (upd (upd (vars4g nm its) "elem" v) "el_tag" (tagOf v))) ∧ (∀ q ∈ vars4g nm its, q ∈ upd (upd (vars4g nm its) "elem" v) "el_tag" (tagOf v)) ∧
    Et w n (fenv scope4 selQ f code cl L) (frOf L scope4.names) none (upd (upd (vars4g nm its) "elem" v) "el_tag" (tagOf v)) test4 (p4 nm v) ∧
    (p4 nm v = true → Ev w n (fenv scope4 selQ f code cl L) (frOf L scope4.names) none (upd (upd (vars4g nm its) "elem" v) "el_tag" (tagOf v)) ye4 v) ∧ v ≠ .mu := by
  intro v hv
  have hok := hits v hv
  have hvm : v ≠ .mu := by rcases hok with rfl | ⟨l, rfl, _⟩ <;> exact fun h => nomatch h
  obtain ⟨t, rfl, ht⟩ : ∃ t, v = .thing t ∧ PlainT t := by
    rcases hok with rfl | ⟨l, rfl, _⟩
    · exact ⟨_, rfl, True.intro⟩
    · exact ⟨_, rfl, True.intro⟩
  refine ⟨?_, ?_, ?_, ?_, hvm⟩
  · unfold stA4
    rw [show tagOf (.thing t) = t from rfl]
    with_reducible refine' Es.assign (hs := ?as) (Ev.tag ?a1 ht ?a2 ?a3) ?aw
    case as => rfl
    case aw => exact Wr.fn (by kernel_rfl)
    case a1 => exact Ev.var mem_upd (by decide) (by decide)
    case a2 => rfl
    case a3 => exact fun _ _ => rfl
  · unfold vars4g vars4
    walk_at "sub"
  · unfold test4 vars4g vars4
    rcases hok with h | ⟨l, h, hl⟩
    · cases h
      with_reducible refine' Et.of (Et.and (b := false) (c := false) ?a1 ?a2) ?a3
      case a3 => rfl
      case a2 => exact fun h => nomatch h
      case a1 =>
        with_reducible refine' Et.plain (hv := ?u1) (he := ?u2) (Ev.callb ?u3 ?u4 Fc.isiN) Tr.bool
        case u1 => walk_at "nmu"
        case u2 => intro _; rfl
        case u3 => walk_at "ev"
        case u4 =>
          with_reducible refine' EvL.cons (hv := ?v3) (he := ?v4) ?v1 ?v2
          case v3 => walk_at "nmu"
          case v4 => rfl
          case v1 => exact Ev.var mem_upd (by decide) (by decide)
          case v2 => walk_at "evl"
    · cases h
      with_reducible refine' Et.of (Et.and (b := true) (c := p4 nm (.thing (.str (S l)))) ?a1 ?a2) ?a3
      case a3 => rfl
      case a1 =>
        with_reducible refine' Et.plain (hv := ?u1) (he := ?u2) (Ev.callb ?u3 ?u4 Fc.isiS) Tr.bool
        case u1 => walk_at "nmu"
        case u2 => intro _; rfl
        case u3 => walk_at "ev"
        case u4 =>
          with_reducible refine' EvL.cons (hv := ?v3) (he := ?v4) ?v1 ?v2
          case v3 => walk_at "nmu"
          case v4 => rfl
          case v1 => exact Ev.var mem_upd (by decide) (by decide)
          case v2 => walk_at "evl"
      case a2 =>
        intro _
        have sc : SubOp w n (.str (S l)) (.slc none (some ((nm.length + 2 : Nat) : Int))) (.str (cutStr (S l) none (some ((nm.length + 2 : Nat) : Int)))) := SubOp.strcut (by
          have := PyProof.Rows.indices_len_le none (some ((nm.length + 2 : Nat) : Int)) (S l).length
          have hs : sizeLine = 16777216 := rfl
          rw [S_length] at this ⊢
          omega)
        have oe : Op2 w n (compareOp .Eq) (.str (cutStr (S l) none (some ((nm.length + 2 : Nat) : Int)))) (.str (S (123 :: (nm ++ [125])))) (.bool (p4 nm (.thing (.str (S l))))) := Op2.eqs
        with_reducible refine' Et.of (Et.and (b := p4 nm (.thing (.str (S l)))) ?q1 (fun _ => Et.and_nil)) ?q2
        case q2 => exact Bool.and_true _
        case q1 =>
          with_reducible refine' Et.cmp (hm := ?m1) (Ev.sub (hsub := ?m4) ?m2 ?m5 sc) ?m3 oe
          case m1 => with_unfolding_all rfl
          case m2 => exact Ev.var mem_upd (by decide) (by decide)
          case m3 => walk_at "ev"
          case m4 => intro o i; exact ⟨_, rfl⟩
          case m5 => walk_at "ev"
  · intro _
    unfold ye4
    exact Ev.var (mem_upd' mem_upd (by dsimp only; decide)) (by decide) (by decide)
theorem sel3 (w : World) (n : Nat) (c : Nat) (its : List AV) (hits : ∀ v ∈ its, ThingOk v) (f : Addr) (code : Value) (cl : List (Str × Addr)) (L : Addr) : ∀ v ∈ its,
    Es w n (fenv scope3 selQ f code cl L) (frOf L scope3.names) none (upd (vars3g c its) "elem" v) stA3 (.nxt none (upd (upd (vars3g c its) "elem" v) "el_tag" (tagOf v))) ∧ (∀ q ∈ vars3g c its, q ∈ upd (upd (vars3g c its) "elem" v) "el_tag" (tagOf v)) ∧
    Et w n (fenv scope3 selQ f code cl L) (frOf L scope3.names) none (upd (upd (vars3g c its) "elem" v) "el_tag" (tagOf v)) test3 (p3 c v) ∧
    (p3 c v = true → Ev w n (fenv scope3 selQ f code cl L) (frOf L scope3.names) none (upd (upd (vars3g c its) "elem" v) "el_tag" (tagOf v)) ye3 v) ∧ v ≠ .mu := by
  intro v hv
  have hok := hits v hv
  have hvm : v ≠ .mu := by rcases hok with rfl | ⟨l, rfl, _⟩ <;> exact fun h => nomatch h
  obtain ⟨t, rfl, ht⟩ : ∃ t, v = .thing t ∧ PlainT t := by
    rcases hok with rfl | ⟨l, rfl, _⟩
    · exact ⟨_, rfl, True.intro⟩
    · exact ⟨_, rfl, True.intro⟩
  refine ⟨?_, ?_, ?_, ?_, hvm⟩
  · unfold stA3
    rw [show tagOf (.thing t) = t from rfl]
    with_reducible refine' Es.assign (hs := ?as) (Ev.tag ?a1 ht ?a2 ?a3) ?aw
    case as => rfl
    case aw => exact Wr.fn (by kernel_rfl)
    case a1 => exact Ev.var mem_upd (by decide) (by decide)
    case a2 => rfl
    case a3 => exact fun _ _ => rfl
  · unfold vars3g vars3
    walk_at "sub"
  · unfold test3 vars3g vars3
    rcases hok with h | ⟨l, h, hl⟩
    · cases h
      with_reducible refine' Et.of (Et.or (b := false) (c := false) ?a1 ?a2) ?a3
      case a3 => rfl
      case a1 =>
        with_reducible refine' Et.cmp (hm := ?m1) ?m2 ?m3 Op2.eqNS
        case m1 => with_unfolding_all rfl
        case m2 => exact Ev.var mem_upd (by decide) (by decide)
        case m3 => walk_at "ev"
      case a2 =>
        intro _
        with_reducible refine' Et.of (Et.or (b := false) (c := false) ?e1 (fun _ => Et.or_nil)) ?e3
        case e3 => rfl
        case e1 =>
        with_reducible refine' Et.of (Et.and (b := false) (c := false) ?b1 ?b2) ?b3
        case b3 => rfl
        case b2 => exact fun h => nomatch h
        case b1 =>
          with_reducible refine' Et.plain (hv := ?u1) (he := ?u2) (Ev.callb ?u3 ?u4 Fc.isiN) Tr.bool
          case u1 => walk_at "nmu"
          case u2 => intro _; rfl
          case u3 => walk_at "ev"
          case u4 =>
            with_reducible refine' EvL.cons (hv := ?v3) (he := ?v4) ?v1 ?v2
            case v3 => walk_at "nmu"
            case v4 => rfl
            case v1 => exact Ev.var mem_upd (by decide) (by decide)
            case v2 => walk_at "evl"
    · cases h
      have sc : SubOp w n (.str (S l)) (.slc (some (-2)) none) (.str (cutStr (S l) (some (-2)) none)) := SubOp.strcut (by
        have := PyProof.Rows.indices_len_le (some (-2)) none (S l).length
        have hs : sizeLine = 16777216 := rfl
        rw [S_length] at this ⊢
        omega)
      have oe0 : Op2 w n (compareOp .Eq) (.str (S l)) (.str (S [c])) (.bool (decide (S l = S [c]))) := Op2.eqs
      have oe : Op2 w n (compareOp .Eq) (.str (cutStr (S l) (some (-2)) none)) (.str (S [125, c])) (.bool (decide (cutStr (S l) (some (-2)) none = S [125, c]))) := Op2.eqs
      with_reducible refine' Et.of (Et.or (b := decide (S l = S [c])) (c := decide (cutStr (S l) (some (-2)) none = S [125, c])) ?a1 ?a2) ?a3
      case a3 => rfl
      case a1 =>
        with_reducible refine' Et.cmp (hm := ?m1) ?m2 ?m3 oe0
        case m1 => with_unfolding_all rfl
        case m2 => exact Ev.var mem_upd (by decide) (by decide)
        case m3 => walk_at "ev"
      case a2 =>
        intro _
        with_reducible refine' Et.of (Et.or (b := decide (cutStr (S l) (some (-2)) none = S [125, c])) ?e1 (fun _ => Et.or_nil)) ?e3
        case e3 => exact Bool.or_false _
        case e1 =>
        with_reducible refine' Et.of (Et.and (b := true) (c := decide (cutStr (S l) (some (-2)) none = S [125, c])) ?b1 ?b2) ?b3
        case b3 => rfl
        case b1 =>
          with_reducible refine' Et.plain (hv := ?u1) (he := ?u2) (Ev.callb ?u3 ?u4 Fc.isiS) Tr.bool
          case u1 => walk_at "nmu"
          case u2 => intro _; rfl
          case u3 => walk_at "ev"
          case u4 =>
            with_reducible refine' EvL.cons (hv := ?v3) (he := ?v4) ?v1 ?v2
            case v3 => walk_at "nmu"
            case v4 => rfl
            case v1 => exact Ev.var mem_upd (by decide) (by decide)
            case v2 => walk_at "evl"
        case b2 =>
          intro _
          with_reducible refine' Et.of (Et.and (b := decide (cutStr (S l) (some (-2)) none = S [125, c])) ?q1 (fun _ => Et.and_nil)) ?q2
          case q2 => exact Bool.and_true _
          case q1 =>
            with_reducible refine' Et.cmp (hm := ?m1) (Ev.sub (hsub := ?m4) ?m2 ?m5 sc) ?m3 oe
            case m1 => with_unfolding_all rfl
            case m2 => exact Ev.var mem_upd (by decide) (by decide)
            case m3 => walk_at "ev"
            case m4 => intro o i; exact ⟨_, rfl⟩
            case m5 => walk_at "ev"
  · intro _
    unfold ye3
    exact Ev.var (mem_upd' mem_upd (by dsimp only; decide)) (by decide) (by decide)
theorem Itg.sel4 {w : World} {n : Nat} {env : Env} {fr : List Addr} {mc : Option MC} {σ : Sto} {e e2 e3 : Expr} {np p1 p2 : Pos} {nm : List Nat} {its : List AV} (c : Nat) (nm' : List Nat) (hnm : nm = c :: nm') (hc : c ≠ 42 ∧ c ≠ 125) (hl : nm.length ≤ 1000)
    (hits : ∀ v ∈ its, ThingOk v) (hf : Ev w (n + 4) env fr mc σ (.Name (Str.ofString "_prepare_tag") np) (.raw (.ref 63))) (hs1 : EvL w (n + 4) env fr mc σ [e] [.str (S (123 :: (nm ++ [125, 42])))]) (hs2 : EvL w (n + 4) env fr mc σ [e2, e3] [.none, .list its]) :
    Itg w (n + 4) env fr mc σ (.Call (.Call (.Name (Str.ofString "_prepare_tag") np) [e] [] p1) [e2, e3] [] p2) (its.filter (p4 nm)) := by
  refine Itg.sel (vars4g nm its) hf hs1 hs2 (f_prep4 w (n + 3) nm c nm' hnm hc hl) rfl rfl ?hbind (by kernel_rfl) (by kernel_rfl) ?hcap rfl rfl rfl rfl ?hσg (.head _) (Mine.sel4 w (n + 1) nm its hits)
  case hbind => intro fd e1 e2 e3 vs h; obtain ⟨⟩ := fd; subst e1 e2 e3; exact len2 h (fun _ _ => rfl)
  case hcap => exact all_cons rfl (all_cons rfl (all_cons rfl (all_cons rfl all_nil)))
  case hσg => unfold vars4g vars4; walk_at "sub"
theorem Itg.sel3 {w : World} {n : Nat} {env : Env} {fr : List Addr} {mc : Option MC} {σ : Sto} {e e2 e3 : Expr} {np p1 p2 : Pos} {c : Nat} {its : List AV} (hc : c ≠ 42)
    (hits : ∀ v ∈ its, ThingOk v) (hf : Ev w (n + 4) env fr mc σ (.Name (Str.ofString "_prepare_tag") np) (.raw (.ref 63))) (hs1 : EvL w (n + 4) env fr mc σ [e] [.str (S [123, 42, 125, c])]) (hs2 : EvL w (n + 4) env fr mc σ [e2, e3] [.none, .list its]) :
    Itg w (n + 4) env fr mc σ (.Call (.Call (.Name (Str.ofString "_prepare_tag") np) [e] [] p1) [e2, e3] [] p2) (its.filter (p3 c)) := by
  refine Itg.sel (vars3g c its) hf hs1 hs2 (f_prep3 w (n + 3) c hc) rfl rfl ?hbind (by kernel_rfl) (by kernel_rfl) ?hcap rfl rfl rfl rfl ?hσg (.head _) (Mine.sel3 w (n + 1) c its hits)
  case hbind => intro fd e1 e2 e3 vs h; obtain ⟨⟩ := fd; subst e1 e2 e3; exact len2 h (fun _ _ => rfl)
  case hcap => exact all_cons rfl (all_cons rfl (all_cons rfl (all_cons rfl (all_cons rfl all_nil))))
  case hσg => unfold vars3g vars3; walk_at "sub"
noncomputable def sgN (r : Nat) : Nat := match r % 4 with | 0 => 38 | 1 => 60 | 2 => 62 | _ => 34
noncomputable def nm4 (k r : Nat) : List Nat := [112 + k, sgN r, sgN (r + 1), sgN r]
noncomputable def nmK (q k : Nat) : List Nat := nm4 k ((q / 4 + k) % 4)
theorem sgN_mod (r : Nat) : sgN (r % 4) = sgN r := by unfold sgN; rw [Nat.mod_mod]
theorem sgN_mod1 (r : Nat) : sgN (r % 4 + 1) = sgN (r + 1) := by unfold sgN; rw [show (r % 4 + 1) % 4 = (r + 1) % 4 from by omega]
theorem sg_nat (m : Nat) : sg (m : Int) = sgN m := by
  unfold sg sgN
  rw [show (((m : Nat) : Int).fmod 4).toNat = m % 4 from by rw [Int.fmod_eq_emod_of_nonneg _ (by decide)]; omega]
  all_goals rfl
theorem nameL_eq (q k : Nat) : nameL (k : Nat) ((q / 4 + k : Nat) : Int) = nmK q k := by
  unfold nameL nmK nm4
  rw [sgN_mod, sgN_mod1, sg_nat, show (((q / 4 + k : Nat) : Int) + 1) = ((q / 4 + k + 1 : Nat) : Int) from by omega, sg_nat]
  all_goals rfl
noncomputable def nmOk (k r : Nat) : Bool := (nm4 k r).all (fun c => decide (c < 128)) && escOk (nm4 k r) && decide ((escL (nm4 k r)).length ≤ 100) && escOk (nm4 k r ++ nm4 k r) && decide ((escL (nm4 k r ++ nm4 k r)).length ≤ 100) && decide (spell (nm4 k r) = escL (nm4 k r)) &&
  decide ((escL (nm4 k r)).head? = some (112 + k))
theorem nmOk_all : ∀ k < 4, ∀ r < 4, nmOk k r = true := by decide +kernel
structure NmOk (nm : List Nat) (k : Nat) : Prop where
  asc : ∀ c ∈ nm, c < 128
  len : nm.length = 4
  esc : escOk nm = true
  el : (escL nm).length ≤ 100
  esc2 : escOk (nm ++ nm) = true
  el2 : (escL (nm ++ nm)).length ≤ 100
  sp : spell nm = escL nm
  hd : (escL nm).head? = some (112 + k)
theorem nmK_ok (q k : Nat) (hk : k < 4) : NmOk (nmK q k) k := by
  have h := nmOk_all k hk ((q / 4 + k) % 4) (Nat.mod_lt _ (by decide))
  unfold nmOk at h
  simp only [Bool.and_eq_true, decide_eq_true_eq, List.all_eq_true] at h
  obtain ⟨⟨⟨⟨⟨⟨h1, h2⟩, h3⟩, h4⟩, h5⟩, h6⟩, h7⟩ := h
  exact ⟨h1, rfl, h2, h3, h4, h5, h6, h7⟩
theorem escL_append (a b : List Nat) : escL (a ++ b) = escL a ++ escL b := by
  have : ∀ c r, ∀ a b : List Nat, rep c r (a ++ b) = rep c r a ++ rep c r b := fun c r a b => by unfold rep; simp
  unfold escL; rw [this, this, this]
theorem cutTake (l : List Nat) (k : Nat) : cutStr (S l) none (some (k : Int)) = S (l.take k) := by
  by_cases h : k ≤ l.length
  · have := cut_eq (l := l) (lo := none) (hi := some (k : Int)) 0 k rfl (by unfold clipA; simp; omega) (by omega) h
    simpa using this
  · have := cut_eq (l := l) (lo := none) (hi := some (k : Int)) 0 l.length rfl (by unfold clipA; simp; omega) (by omega) (Nat.le_refl _)
    rw [this]
    congr 1
    rw [List.drop_zero, Nat.sub_zero, List.take_of_length_le (Nat.le_refl _), List.take_of_length_le (by omega)]
theorem cutLast2 (l : List Nat) : cutStr (S l) (some (-2)) none = S (l.drop (l.length - 2)) := by
  have := cut_eq (l := l) (lo := some (-2)) (hi := none) (l.length - 2) l.length (by unfold clipA; simp; omega) rfl (by omega) (Nat.le_refl _)
  rw [this]
  congr 1
  rw [List.take_of_length_le (by rw [List.length_drop]; omega)]
theorem p4_av (nm t : List Nat) : p4 nm (avT t) = decide (t.take (nm.length + 2) = 123 :: (nm ++ [125])) := by
  show decide (cutStr (S t) none (some ((nm.length + 2 : Nat) : Int)) = S (123 :: (nm ++ [125]))) = _
  rw [cutTake]
  simp only [S_inj_iff]
theorem p3_av (c : Nat) (t : List Nat) : p3 c (avT t) = (decide (t = [c]) || decide (t.drop (t.length - 2) = [125, c])) := by
  show (decide (S t = S [c]) || decide (cutStr (S t) (some (-2)) none = S [125, c])) = _
  rw [cutLast2]
  simp only [S_inj_iff]
theorem take_brace (e s : List Nat) : (braceL e s).take (e.length + 2) = 123 :: (e ++ [125]) := by
  unfold braceL
  rw [show e.length + 2 = (e.length + 1) + 1 from rfl, List.take_succ_cons, List.take_append, List.take_of_length_le (by omega)]
  simp
theorem p4_ne {e nm t : List Nat} {a b : Nat} (h1 : e.head? = some a) (h2 : nm.head? = some b) (hab : a ≠ b) (ht : ∃ s, t = 123 :: (e ++ s)) : p4 nm (avT t) = false := by
  rw [p4_av, decide_eq_false_iff_not]
  obtain ⟨s, rfl⟩ := ht
  cases e with
  | nil => cases h1
  | cons x e =>
    cases nm with
    | nil => cases h2
    | cons y nm =>
      intro h
      rw [List.length_cons, show nm.length + 1 + 2 = (nm.length + 1) + 1 + 1 from rfl, List.take_succ_cons, List.cons_append, List.take_succ_cons] at h
      simp only [List.head?_cons, Option.some.injEq] at h1 h2
      have := (List.cons.inj (List.cons.inj h).2).1
      omega
theorem p4_same (e s : List Nat) : p4 e (avT (braceL e s)) = true := by
  rw [p4_av, decide_eq_true_eq]
  exact take_brace e s
theorem p4_twice {e s : List Nat} {a : Nat} (h1 : e.head? = some a) (ha : a ≠ 125) : p4 e (avT (braceL (e ++ e) s)) = false := by
  rw [p4_av, decide_eq_false_iff_not]
  unfold braceL
  cases e with
  | nil => cases h1
  | cons x e =>
    intro h
    simp only [List.head?_cons, Option.some.injEq] at h1
    rw [show (x :: e).length + 2 = ((x :: e).length + 1) + 1 from rfl, List.take_succ_cons, List.append_assoc, List.take_append] at h
    have h := (List.cons.inj h).2
    rw [List.take_of_length_le (by omega), show (x :: e).length + 1 - (x :: e).length = 1 from by omega] at h
    have := List.append_cancel_left h
    simp at this
    omega
theorem p4_short {nm t : List Nat} {a : Nat} (h : t.head? = some a) (ha : a ≠ 123) : p4 nm (avT t) = false := by
  rw [p4_av, decide_eq_false_iff_not]
  cases t with
  | nil => cases h
  | cons x t =>
    simp only [List.head?_cons, Option.some.injEq] at h
    intro h'
    rw [show nm.length + 2 = (nm.length + 1) + 1 from rfl, List.take_succ_cons] at h'
    have := (List.cons.inj h').1
    omega
theorem drop_brace (e s : List Nat) : (braceL e s).drop ((braceL e s).length - (s.length + 1)) = 125 :: s := by
  unfold braceL
  rw [show (123 :: (e ++ 125 :: s)).length - (s.length + 1) = e.length + 1 from by simp; omega]
  simp
theorem p3_brace (e : List Nat) (c d : Nat) : p3 c (avT (braceL e [d])) = decide (d = c) := by
  rw [p3_av]
  have h := drop_brace e [d]
  rw [show ([d] : List Nat).length + 1 = 2 from rfl] at h
  rw [h, decide_eq_false (show ¬ braceL e [d] = [c] from by unfold braceL; simp)]
  simp
theorem p3_fe (e : List Nat) (c : Nat) : p3 c (avT (braceL e [102, 101])) = false := by
  rw [p3_av]
  have h : (braceL e [102, 101]).drop ((braceL e [102, 101]).length - 2) = [102, 101] := by
    unfold braceL
    rw [show (123 :: (e ++ [125, 102, 101])).length - 2 = e.length + 2 from by simp]
    simp
  rw [h, decide_eq_false (show ¬ braceL e [102, 101] = [c] from by unfold braceL; simp)]
  simp
theorem p3_col (c d : Nat) : p3 c (avT [d]) = decide (d = c) := by
  rw [p3_av]
  simp
noncomputable def ordL (q : Nat) : List Nat := (List.range 4).map fun s => (q + s) % 4
noncomputable def msL (ce : List Nat) : List Nat := (List.range 4).map fun i => 16 + mAt ce i % 16
noncomputable def nmsL (q : Nat) : List (List Nat) := (List.range 4).map (nmK q)
noncomputable def brL (nm : List Nat) : List Nat := 123 :: (spell nm ++ [125])
noncomputable def tagT (q k x : Nat) : List Nat := brL (nmK q k) ++ [97 + x]
theorem nmAt_L (q k : Nat) (hk : k < 4) : nmAt (nmsL q) k = nmK q k := by
  unfold nmAt nmsL
  rw [List.getElem?_map, List.getElem?_range hk]; rfl
theorem full_eq (q k x : Nat) (hk : k < 4) : fullT (nmAt (nmsL q) k) x = tagT q k x := by
  unfold fullT tagT brL braceL
  rw [nmAt_L q k hk, (nmK_ok q k hk).sp]
  simp
theorem grp_eq (q : Nat) (ms : List Nat) (k : Nat) (hk : k < 4) : grpT (nmsL q) ms k 5 = ((List.range 5).filter (bitB (mAt ms k))).map (tagT q k) := by
  unfold grpT
  exact List.map_congr_left fun x _ => full_eq q k x hk
theorem mid_eq (q : Nat) (ms : List Nat) (t : Nat) : midT (nmsL q) ms t 4 = grpT (nmsL q) ms (t % 4) 5 ++ (grpT (nmsL q) ms ((t + 1) % 4) 5 ++ (grpT (nmsL q) ms ((t + 2) % 4) 5 ++ grpT (nmsL q) ms ((t + 3) % 4) 5)) := by
  simp [midT]
theorem esc_hd (q k : Nat) (hk : k < 4) : (escL (nmAt (nmsL q) k)).head? = some (112 + k) := by rw [nmAt_L q k hk]; exact (nmK_ok q k hk).hd
theorem p4_grp (q : Nat) (ms : List Nat) (k j : Nat) (hk : k < 4) (hj : j < 4) : (grpT (nmsL q) ms j 5).filter (fun t => p4 (spell (nmK q k)) (avT t)) = if j = k then grpT (nmsL q) ms k 5 else [] := by
  rw [(nmK_ok q k hk).sp]
  by_cases h : j = k
  · subst h
    rw [if_pos rfl, List.filter_eq_self]
    intro t ht
    obtain ⟨x, _, rfl⟩ := List.mem_map.mp ht
    unfold fullT
    rw [nmAt_L q j hj]
    exact p4_same _ _
  · rw [if_neg h, List.filter_eq_nil_iff]
    intro t ht
    obtain ⟨x, _, rfl⟩ := List.mem_map.mp ht
    have h0 : p4 (escL (nmK q k)) (avT (fullT (nmAt (nmsL q) j) x)) = false := p4_ne (e := escL (nmAt (nmsL q) j)) (esc_hd q j hj) (nmK_ok q k hk).hd (by omega) ⟨125 :: [97 + x], rfl⟩
    rw [h0]
    simp
set_option maxHeartbeats 1000000 in
theorem filter4 (q : Nat) (ms : List Nat) (k : Nat) (hk : k < 4) : (thingsV (nmsL q) ms (q % 4)).filter (p4 (spell (nmK q k))) = (((List.range 5).filter (bitB (mAt ms k))).map (tagT q k)).map avT := by
  have ht : q % 4 < 4 := Nat.mod_lt _ (by decide)
  have hfe : p4 (spell (nmK q k)) (avT (feT (nmsL q) (q % 4))) = false := by
    unfold feT
    rw [escL_append, (nmK_ok q k hk).sp]
    by_cases h : q % 4 = k
    · rw [h, nmAt_L q k hk]
      exact p4_twice (nmK_ok q k hk).hd (by omega)
    · exact p4_ne (e := escL (nmAt (nmsL q) (q % 4))) (esc_hd q _ ht) (nmK_ok q k hk).hd (by omega) ⟨escL (nmAt (nmsL q) (q % 4)) ++ 125 :: [102, 101], by unfold braceL; simp⟩
  have hcols : ((List.range 5).map fun x => avT [97 + x]).filter (p4 (spell (nmK q k))) = [] := by
    rw [List.filter_eq_nil_iff]
    intro v hv
    obtain ⟨x, hx, rfl⟩ := List.mem_map.mp hv
    have hx := List.mem_range.mp hx
    rw [p4_short (a := 97 + x) rfl (by omega)]
    simp
  unfold thingsV
  have h0 : ¬ p4 (spell (nmK q k)) (.thing .none) = true := fun h => nomatch (show false = true from h)
  have h1 : ¬ p4 (spell (nmK q k)) (avT (feT (nmsL q) (q % 4))) = true := by rw [hfe]; exact fun h => nomatch h
  rw [List.filter_cons_of_neg h0, List.filter_cons_of_neg h1, List.filter_append, hcols, List.append_nil, List.filter_map]
  refine congrArg (List.map avT) ?_
  rw [← grp_eq q ms k hk, mid_eq]
  have hm : ∀ j, (q % 4 + j) % 4 = (q + j) % 4 := fun j => by omega
  show List.filter (fun t => p4 (spell (nmK q k)) (avT t)) _ = _
  rw [List.filter_append, List.filter_append, List.filter_append, p4_grp q ms k _ hk (Nat.mod_lt _ (by decide)), p4_grp q ms k _ hk (Nat.mod_lt _ (by decide)), p4_grp q ms k _ hk (Nat.mod_lt _ (by decide)), p4_grp q ms k _ hk (Nat.mod_lt _ (by decide))]
  have : q % 4 % 4 = k ∨ (q % 4 + 1) % 4 = k ∨ (q % 4 + 2) % 4 = k ∨ (q % 4 + 3) % 4 = k := by omega
  rcases this with h | h | h | h
  · rw [if_pos h, if_neg (by omega), if_neg (by omega), if_neg (by omega)]; simp only [List.nil_append, List.append_nil]
  · rw [if_neg (by omega), if_pos h, if_neg (by omega), if_neg (by omega)]; simp only [List.nil_append, List.append_nil]
  · rw [if_neg (by omega), if_neg (by omega), if_pos h, if_neg (by omega)]; simp only [List.nil_append, List.append_nil]
  · rw [if_neg (by omega), if_neg (by omega), if_neg (by omega), if_pos h]; simp only [List.nil_append, List.append_nil]
theorem p3_grp (q : Nat) (ms : List Nat) (j x : Nat) (hx : x < 5) : (grpT (nmsL q) ms j 5).filter (fun t => p3 (97 + x) (avT t)) = if bitB (mAt ms j) x then [fullT (nmAt (nmsL q) j) x] else [] := by
  unfold grpT
  rw [List.filter_map]
  have e : (fun t => p3 (97 + x) (avT t)) ∘ fullT (nmAt (nmsL q) j) = fun y => decide (y = x) := by
    funext y
    show p3 (97 + x) (avT (braceL (escL (nmAt (nmsL q) j)) [97 + y])) = _
    rw [p3_brace]
    by_cases h : y = x
    · subst h; simp
    · rw [decide_eq_false h, decide_eq_false (by omega)]
  rw [e, List.filter_filter]
  have h5 : (List.range 5).filter (fun y => decide (y = x) && bitB (mAt ms j) y) = if bitB (mAt ms j) x then [x] else [] := by
    have : x = 0 ∨ x = 1 ∨ x = 2 ∨ x = 3 ∨ x = 4 := by omega
    rcases this with rfl | rfl | rfl | rfl | rfl
    all_goals
      simp [List.range, List.range.loop, List.filter_cons]
  rw [h5]
  cases bitB (mAt ms j) x <;> rfl
theorem filter3 (q : Nat) (ms : List Nat) (x : Nat) (hx : x < 5) : (thingsV (nmsL q) ms (q % 4)).filter (p3 (97 + x)) = (((ordL q).filter (fun k => bitB (mAt ms k) x)).map (fun k => tagT q k x) ++ [[97 + x]]).map avT := by
  have ht : q % 4 < 4 := Nat.mod_lt _ (by decide)
  have hcols : ((List.range 5).map fun y => avT [97 + y]).filter (p3 (97 + x)) = [avT [97 + x]] := by
    rw [List.filter_map]
    have e : p3 (97 + x) ∘ (fun y => avT [97 + y]) = fun y => decide (y = x) := by
      funext y
      show p3 (97 + x) (avT [97 + y]) = _
      rw [p3_col]
      by_cases h : y = x
      · subst h; simp
      · rw [decide_eq_false h, decide_eq_false (by omega)]
    rw [e]
    have : x = 0 ∨ x = 1 ∨ x = 2 ∨ x = 3 ∨ x = 4 := by omega
    rcases this with rfl | rfl | rfl | rfl | rfl <;> rfl
  unfold thingsV
  have h0 : ¬ p3 (97 + x) (.thing .none) = true := fun h => nomatch (show false = true from h)
  have h1 : ¬ p3 (97 + x) (avT (feT (nmsL q) (q % 4))) = true := by unfold feT; rw [p3_fe]; exact fun h => nomatch h
  rw [List.filter_cons_of_neg h0, List.filter_cons_of_neg h1, List.filter_append, hcols, List.map_append, List.filter_map]
  refine congr (congrArg HAppend.hAppend (congrArg (List.map avT) ?_)) rfl
  rw [mid_eq]
  show List.filter (fun t => p3 (97 + x) (avT t)) _ = _
  rw [List.filter_append, List.filter_append, List.filter_append, p3_grp q ms _ x hx, p3_grp q ms _ x hx, p3_grp q ms _ x hx, p3_grp q ms _ x hx]
  rw [full_eq q _ x (Nat.mod_lt _ (by decide)), full_eq q _ x (Nat.mod_lt _ (by decide)), full_eq q _ x (Nat.mod_lt _ (by decide)), full_eq q _ x (Nat.mod_lt _ (by decide))]
  have hm : ∀ j, (q % 4 + j) % 4 = (q + j) % 4 := fun j => by omega
  have hm0 : q % 4 % 4 = q % 4 := by omega
  rw [hm, hm, hm, hm0]
  have ho : ordL q = [q % 4, (q + 1) % 4, (q + 2) % 4, (q + 3) % 4] := by unfold ordL; simp [List.range, List.range.loop]
  rw [ho]
  simp only [List.filter_cons, List.filter_nil]
  cases bitB (mAt ms (q % 4)) x <;> cases bitB (mAt ms ((q + 1) % 4)) x <;> cases bitB (mAt ms ((q + 2) % 4)) x <;> cases bitB (mAt ms ((q + 3) % 4)) x <;> rfl
noncomputable def parN (c k : Nat) : Nat := ((look (pa c 3) (k : Int)).getD 0).toNat
theorem parN_ok : ∀ c < 16, ∀ k : Nat, k < 3 → look (pa c 3) (k : Int) = some ((parN c k : Nat) : Int) ∧ parN c k < 4 ∧ parN c k ≠ k := by decide +kernel
theorem par_tab : (List.range 16).map (fun c => (parN c 0, parN c 1, parN c 2)) = [(3, 0, 0), (1, 3, 0), (2, 0, 3), (3, 0, 3), (3, 0, 1), (1, 3, 1), (1, 2, 3), (1, 3, 3), (3, 2, 0), (2, 3, 1), (2, 2, 3), (2, 3, 3), (3, 3, 0), (3, 3, 1), (3, 2, 3), (3, 3, 3)] := by decide +kernel
noncomputable def shN (ms : List Nat) (j k : Nat) : Nat := shrN (mAt ms j) (mAt ms k)
theorem shN_comm (ms : List Nat) (j k : Nat) : shN ms j k = shN ms k j := by
  unfold shN shrN
  exact List.countP_congr fun x _ => by rw [Bool.and_comm]
theorem shN_le (ms : List Nat) (j k : Nat) : shN ms j k ≤ 5 := by
  unfold shN shrN
  exact Nat.le_trans (List.countP_le_length ..) (Nat.le_of_eq List.length_range)
theorem shN_pos {ms : List Nat} {j k : Nat} (hj : 16 ≤ mAt ms j ∧ mAt ms j < 32) (hk : 16 ≤ mAt ms k ∧ mAt ms k < 32) : 1 ≤ shN ms j k := by
  unfold shN shrN
  refine List.countP_pos_iff.mpr ⟨4, by simp, ?_⟩
  have h1 : mAt ms j / 16 = 1 := by omega
  have h2 : mAt ms k / 16 = 1 := by omega
  unfold bitB
  rw [show (2 : Nat) ^ 4 = 16 from rfl, h1, h2]; rfl
noncomputable def tw (ms : List Nat) (W j k : Nat) : Nat := 2 ^ (W * shN ms j k)
noncomputable def tieN (ms : List Nat) (W j k : Nat) : Nat := if j = k then 0 else tw ms W j k
noncomputable def rwI (ms : List Nat) (W j k : Nat) : Int := if j = k then ((List.range 4).map fun i => (tieN ms W j i : Int)).sum else -(tieN ms W j k : Int)
noncomputable def fI (ms : List Nat) (W : Nat) : Int := rwI ms W 0 0
noncomputable def leftI (ms : List Nat) (W j k : Nat) : Int := fI ms W * rwI ms W j k - rwI ms W j 0 * rwI ms W 0 k
noncomputable def prodI (ms : List Nat) (W : Nat) : Int := leftI ms W 1 1 * leftI ms W 2 2 - leftI ms W 1 2 * leftI ms W 2 1
noncomputable def fN (ms : List Nat) (W : Nat) : Nat := tw ms W 0 1 + tw ms W 0 2 + tw ms W 0 3
noncomputable def exC (ms : List Nat) (c : Nat) : Nat := shN ms 0 (parN c 0) + shN ms 1 (parN c 1) + shN ms 2 (parN c 2)
noncomputable def TN (ms : List Nat) (W : Nat) : Nat := ((List.range 16).map fun c => 2 ^ (W * exC ms c)).sum
theorem tw_comm (ms : List Nat) (W j k : Nat) : tw ms W j k = tw ms W k j := by unfold tw; rw [shN_comm]
theorem fI_eq (ms : List Nat) (W : Nat) : fI ms W = (fN ms W : Nat) := by
  unfold fI rwI fN tieN
  simp [List.range, List.range.loop]
  omega
theorem TN_eq (ms : List Nat) (W : Nat) : TN ms W = ([(3, 0, 0), (1, 3, 0), (2, 0, 3), (3, 0, 3), (3, 0, 1), (1, 3, 1), (1, 2, 3), (1, 3, 3), (3, 2, 0), (2, 3, 1), (2, 2, 3), (2, 3, 3), (3, 3, 0), (3, 3, 1), (3, 2, 3), (3, 3, 3)].map fun (p : Nat × Nat × Nat) => tw ms W 0 p.1 * tw ms W 1 p.2.1 * tw ms W 2 p.2.2).sum := by
  rw [← par_tab, List.map_map]
  unfold TN
  congr 1
  refine List.map_congr_left fun c _ => ?_
  show 2 ^ (W * exC ms c) = tw ms W 0 (parN c 0) * tw ms W 1 (parN c 1) * tw ms W 2 (parN c 2)
  unfold tw exC
  rw [Nat.mul_add, Nat.mul_add, Nat.pow_add, Nat.pow_add]
theorem matrix_tree (a b c d e f : Int) :
   ((a + b + c) * (a + d + e) - (-a) * (-a)) * ((a + b + c) * (b + d + f) - (-b) * (-b)) - ((a + b + c) * (-d) - (-a) * (-b)) * ((a + b + c) * (-d) - (-b) * (-a)) =
   (a + b + c) * (c * a * b + a * e * b + b * a * f + c * a * f + c * a * d + a * e * d + a * d * f + a * e * f + c * d * b + b * e * d + b * d * f + b * e * f + c * e * b + c * e * d + c * d * f + c * e * f) := by
  grind
theorem rw_diag1 (ms : List Nat) (W : Nat) : rwI ms W 1 1 = (tw ms W 0 1 : Int) + (tw ms W 1 2 : Int) + (tw ms W 1 3 : Int) := by
  unfold rwI tieN
  simp [List.range, List.range.loop]
  rw [tw_comm ms W 1 0]
  omega
theorem rw_diag2 (ms : List Nat) (W : Nat) : rwI ms W 2 2 = (tw ms W 0 2 : Int) + (tw ms W 1 2 : Int) + (tw ms W 2 3 : Int) := by
  unfold rwI tieN
  simp [List.range, List.range.loop]
  rw [tw_comm ms W 2 0, tw_comm ms W 2 1]
  omega
theorem rw_off (ms : List Nat) (W j k : Nat) (h : j ≠ k) : rwI ms W j k = -(tw ms W j k : Int) := by
  unfold rwI tieN
  rw [if_neg h, if_neg h]
theorem tree_sum (a b c d e f : Int) : c * a * b + (a * e * b + (b * a * f + (c * a * f + (c * a * d + (a * e * d + (a * d * f + (a * e * f + (c * d * b + (b * e * d + (b * d * f + (b * e * f + (c * e * b + (c * e * d + (c * d * f + (c * e * f + 0))))))))))))))) =
    c * a * b + a * e * b + b * a * f + c * a * f + c * a * d + a * e * d + a * d * f + a * e * f + c * d * b + b * e * d + b * d * f + b * e * f + c * e * b + c * e * d + c * d * f + c * e * f := by
  omega
theorem TN_int (ms : List Nat) (W : Nat) : ((TN ms W : Nat) : Int) = (fun a b c d e f : Int => c * a * b + a * e * b + b * a * f + c * a * f + c * a * d + a * e * d + a * d * f + a * e * f + c * d * b + b * e * d + b * d * f + b * e * f + c * e * b + c * e * d + c * d * f + c * e * f) (tw ms W 0 1) (tw ms W 0 2) (tw ms W 0 3) (tw ms W 1 2) (tw ms W 1 3) (tw ms W 2 3) := by
  rw [TN_eq]
  simp only [List.map_cons, List.map_nil, List.sum_cons, List.sum_nil, Int.natCast_add, Int.natCast_mul]
  rw [tw_comm ms W 1 0, tw_comm ms W 2 0, tw_comm ms W 2 1]
  exact tree_sum _ _ _ _ _ _
theorem prod_eq (ms : List Nat) (W : Nat) : prodI ms W = (fN ms W : Int) * (TN ms W : Nat) := by
  have hf : (fN ms W : Int) = (tw ms W 0 1 : Int) + (tw ms W 0 2 : Int) + (tw ms W 0 3 : Int) := by unfold fN; omega
  have e := matrix_tree (tw ms W 0 1) (tw ms W 0 2) (tw ms W 0 3) (tw ms W 1 2) (tw ms W 1 3) (tw ms W 2 3)
  unfold prodI leftI
  rw [fI_eq, rw_diag1, rw_diag2, rw_off ms W 1 0 (by decide), rw_off ms W 2 0 (by decide), rw_off ms W 0 1 (by decide), rw_off ms W 0 2 (by decide), rw_off ms W 1 2 (by decide), rw_off ms W 2 1 (by decide), tw_comm ms W 1 0, tw_comm ms W 2 0, tw_comm ms W 2 1, TN_int, hf]
  exact e
noncomputable def b2n (b : Bool) : Nat := if b then 1 else 0
theorem cnt5 (p : Nat → Bool) : (List.range 5).countP p = b2n (p 0) + b2n (p 1) + b2n (p 2) + b2n (p 3) + b2n (p 4) := by
  unfold b2n
  simp [List.range, List.range.loop, List.countP_cons]
  omega
theorem cnt4 (p : Nat → Bool) : (List.range 4).countP p = b2n (p 0) + b2n (p 1) + b2n (p 2) + b2n (p 3) := by
  unfold b2n
  simp [List.range, List.range.loop, List.countP_cons]
  omega
theorem b2n_split (b g : Bool) : b2n b = b2n (b && !g) + b2n (b && g) := by cases b <;> cases g <;> rfl
theorem cntIn4 (ms : List Nat) (par : Nat → Nat) (x : Nat) : b2n (bitB (mAt ms 0) x) + b2n (bitB (mAt ms 1) x) + b2n (bitB (mAt ms 2) x) + b2n (bitB (mAt ms 3) x) =
    cntIn ms par x 4 + (b2n (bitB (mAt ms 0) x && bitB (mAt ms (par 0)) x) + b2n (bitB (mAt ms 1) x && bitB (mAt ms (par 1)) x) + b2n (bitB (mAt ms 2) x && bitB (mAt ms (par 2)) x)) := by
  unfold cntIn
  rw [cnt4]
  unfold tP
  rw [b2n_split (bitB (mAt ms 0) x) (bitB (mAt ms (par 0)) x), b2n_split (bitB (mAt ms 1) x) (bitB (mAt ms (par 1)) x), b2n_split (bitB (mAt ms 2) x) (bitB (mAt ms (par 2)) x)]
  rw [show ((0 : Nat) == 3) = false from rfl, show ((1 : Nat) == 3) = false from rfl, show ((2 : Nat) == 3) = false from rfl, show ((3 : Nat) == 3) = true from rfl]
  simp only [Bool.false_or, Bool.true_or, Bool.and_true]
  omega
noncomputable def sizesN (ms : List Nat) : Nat := shN ms 0 0 + shN ms 1 1 + shN ms 2 2 + shN ms 3 3
theorem pieces_eq (ms : List Nat) (par : Nat → Nat) : sizesN ms = cntOut ms par 5 + (shN ms 0 (par 0) + shN ms 1 (par 1) + shN ms 2 (par 2)) := by
  have h0 := cntIn4 ms par 0
  have h1 := cntIn4 ms par 1
  have h2 := cntIn4 ms par 2
  have h3 := cntIn4 ms par 3
  have h4 := cntIn4 ms par 4
  unfold sizesN shN shrN
  simp only [cnt5, Bool.and_self]
  show _ = 0 + cntIn ms par 0 4 + cntIn ms par 1 4 + cntIn ms par 2 4 + cntIn ms par 3 4 + cntIn ms par 4 4 + _
  omega
theorem exC_le (ms : List Nat) (c : Nat) : exC ms c ≤ 15 := by
  have h0 := shN_le ms 0 (parN c 0)
  have h1 := shN_le ms 1 (parN c 1)
  have h2 := shN_le ms 2 (parN c 2)
  unfold exC; omega
/-! digits -/
theorem digs_pvL (m : Nat) : ∀ cs : List Nat, (∀ d ∈ cs, d < 2 ^ m) → digs m cs.length (pvL m cs) = cs
  | [], _ => rfl
  | d :: cs, h => by
    have hd := h d (.head _)
    rw [List.length_cons, digs, pvL, show (d + 2 ^ m * pvL m cs) % 2 ^ m = d from by rw [Nat.add_mul_mod_self_left, Nat.mod_eq_of_lt hd],
      show (d + 2 ^ m * pvL m cs) / 2 ^ m = pvL m cs from by rw [Nat.add_mul_div_left _ _ (Nat.two_pow_pos m), Nat.div_eq_of_lt hd, Nat.zero_add], digs_pvL m cs fun e he => h e (.tail _ he)]
theorem lt_bits {m x : Nat} (h : 2 ^ m ≤ x) : m < Builtin.Int.intBits (x : Nat) := by
  have := intBits_lt x
  exact (Nat.pow_lt_pow_iff_right (by decide)).mp (Nat.lt_of_le_of_lt h this)
theorem cntD_pvL (m : Nat) (hm : 0 < m) (cs : List Nat) (d : Nat) (hd : 0 < d) (h : ∀ e ∈ cs ++ [d], e < 2 ^ m) : cntD (pvL m (cs ++ [d])) m = (cs ++ [d]).length := by
  have h1 := pvL_lt m (cs ++ [d]) h
  have h2 : 2 ^ (m * cs.length) ≤ pvL m (cs ++ [d]) := by
    rw [pvL_append]
    have : 1 ≤ pvL m [d] := by show 1 ≤ d + 2 ^ m * 0; omega
    calc 2 ^ (m * cs.length) = 2 ^ (m * cs.length) * 1 := by omega
      _ ≤ 2 ^ (m * cs.length) * pvL m [d] := Nat.mul_le_mul_left _ this
      _ ≤ _ := Nat.le_add_left _ _
  have b1 := intBits_le h1
  have b2 := lt_bits h2
  unfold cntD
  generalize Builtin.Int.intBits ((pvL m (cs ++ [d]) : Nat) : Int) = B at *
  rw [List.length_append, List.length_singleton] at *
  rw [Nat.mul_add, Nat.mul_one] at b1
  apply Nat.div_eq_of_lt_le
  · rw [Nat.add_mul, Nat.one_mul, Nat.mul_comm]; omega
  · rw [Nat.add_mul, Nat.add_mul, Nat.one_mul, Nat.mul_comm cs.length m]; omega
theorem pvL_add (m : Nat) (f g : Nat → Nat) : ∀ l : List Nat, pvL m (l.map fun i => f i + g i) = pvL m (l.map f) + pvL m (l.map g)
  | [] => rfl
  | i :: l => by
    simp only [List.map_cons, pvL]
    rw [pvL_add m f g l, Nat.mul_add]; omega
theorem pvL_zero (m : Nat) : ∀ l : List Nat, pvL m (l.map fun _ => 0) = 0
  | [] => rfl
  | i :: l => by simp only [List.map_cons, pvL]; rw [pvL_zero m l]; simp
theorem pvL_unit (m e : Nat) : ∀ N, e < N → pvL m ((List.range N).map fun i => if i = e then 1 else 0) = 2 ^ (m * e)
  | 0, h => absurd h (Nat.not_lt_zero _)
  | N + 1, h => by
    rw [List.range_succ, List.map_append, pvL_append, List.length_map, List.length_range]
    by_cases hN : e = N
    · subst hN
      have z : (List.range e).map (fun i => if i = e then 1 else 0) = (List.range e).map fun _ => 0 := List.map_congr_left fun i hi => by
        have := List.mem_range.mp hi
        rw [if_neg (by omega)]
      rw [z, pvL_zero]
      simp [pvL]
    · rw [pvL_unit m e N (by omega)]
      simp [pvL, Ne.symm hN]
theorem pvL_count (m N : Nat) : ∀ l : List Nat, (∀ e ∈ l, e < N) → pvL m ((List.range N).map fun i => l.count i) = (l.map fun e => 2 ^ (m * e)).sum
  | [], _ => by
    rw [show (fun i => ([] : List Nat).count i) = fun _ => 0 from by funext i; simp, pvL_zero]; rfl
  | e :: l, h => by
    rw [show (fun i => (e :: l).count i) = fun i => l.count i + (if i = e then 1 else 0) from by
      funext i
      rw [List.count_cons]
      by_cases hi : i = e
      · subst hi; simp
      · rw [if_neg hi, beq_eq_false_iff_ne.mpr (Ne.symm hi)]; simp]
    rw [pvL_add, pvL_count m N l fun x hx => h x (.tail _ hx), pvL_unit m e N (h e (.head _)), List.map_cons, List.sum_cons]
    omega
noncomputable def exL (ms : List Nat) : List Nat := (List.range 16).map (exC ms)
noncomputable def mxL : List Nat → Nat
  | [] => 0
  | a :: l => max a (mxL l)
theorem mxL_le : ∀ l : List Nat, ∀ a ∈ l, a ≤ mxL l
  | b :: l, a, h => by
    rw [mxL]
    rcases List.mem_cons.mp h with rfl | h
    · exact Nat.le_max_left ..
    · exact Nat.le_trans (mxL_le l a h) (Nat.le_max_right ..)
theorem mxL_mem : ∀ l : List Nat, l ≠ [] → mxL l ∈ l
  | [a], _ => by simp [mxL]
  | a :: b :: l, _ => by
    have ih := mxL_mem (b :: l) (by simp)
    rw [mxL]
    rcases Nat.le_total a (mxL (b :: l)) with h | h
    · rw [Nat.max_eq_right h]; exact .tail _ ih
    · rw [Nat.max_eq_left h]; exact .head _
theorem final_digits (ms : List Nat) (W : Nat) (hW : 5 ≤ W) : cntD (TN ms W) W = mxL (exL ms) + 1 ∧ digs W (cntD (TN ms W) W) (TN ms W) = (List.range (mxL (exL ms) + 1)).map fun i => (exL ms).count i := by
  have hmem := mxL_mem (exL ms) (by unfold exL; simp)
  have hle := mxL_le (exL ms)
  have hT : TN ms W = pvL W ((List.range (mxL (exL ms) + 1)).map fun i => (exL ms).count i) := by
    rw [pvL_count W _ (exL ms) fun e he => Nat.lt_succ_of_le (hle e he)]
    unfold TN exL
    rw [List.map_map]; rfl
  have h32 : 2 ^ 5 ≤ 2 ^ W := Nat.pow_le_pow_right (by decide) hW
  have hc : ∀ i, (exL ms).count i < 2 ^ W := fun i => by
    have : (exL ms).count i ≤ (exL ms).length := List.count_le_length
    have hl : (exL ms).length = 16 := rfl
    omega
  have hd : ∀ d ∈ (List.range (mxL (exL ms) + 1)).map fun i => (exL ms).count i, d < 2 ^ W := fun d hd => by
    obtain ⟨i, _, rfl⟩ := List.mem_map.mp hd
    exact hc i
  have hcn : cntD (TN ms W) W = mxL (exL ms) + 1 := by
    have e : ((List.range (mxL (exL ms) + 1)).map fun i => (exL ms).count i) = ((List.range (mxL (exL ms))).map fun i => (exL ms).count i) ++ [(exL ms).count (mxL (exL ms))] := by
      rw [List.range_succ, List.map_append]; rfl
    rw [hT, e]
    rw [e] at hd
    rw [cntD_pvL W (by omega) _ _ (List.count_pos_iff.mpr hmem) hd]
    simp
  refine ⟨hcn, ?_⟩
  rw [hcn]
  have := digs_pvL W _ hd
  rw [List.length_map, List.length_range, ← hT] at this
  exact this
/-! sizes -/
set_option exponentiation.threshold 2000
theorem bits_mul {i j : Int} {a b : Nat} (hi : i.natAbs < 2 ^ a) (hj : j.natAbs < 2 ^ b) : (i * j).natAbs < 2 ^ (a + b) := by
  rw [Int.natAbs_mul, Nat.pow_add]
  exact Nat.mul_lt_mul'' hi hj
theorem bits_sub {i j : Int} {a : Nat} (hi : i.natAbs < 2 ^ a) (hj : j.natAbs < 2 ^ a) : (i - j).natAbs < 2 ^ (a + 1) := by
  rw [Nat.pow_succ]; omega
theorem bits_abs {i : Int} {a : Nat} (hi : i.natAbs < 2 ^ a) : Builtin.Int.intBits i ≤ a := by
  unfold Builtin.Int.intBits
  split
  · exact Nat.zero_le _
  · rename_i h0
    show i.natAbs.log2 + 1 ≤ a
    have h0 : i.natAbs ≠ 0 := by intro e; simp at h0; omega
    exact (Nat.log2_lt h0).mpr hi
theorem mulOk {i j : Int} (hi : i.natAbs < 2 ^ 1000) (hj : j.natAbs < 2 ^ 1000) : IntMulOk i j := by
  have h1 := bits_abs hi
  have h2 := bits_abs hj
  unfold IntMulOk Builtin.Int.intTooBig
  have : (((Builtin.Int.intBits i : Nat) : Int) + ((Builtin.Int.intBits j : Nat) : Int) > 134217728) = False := by simp; omega
  intro h
  simp only [Bool.and_eq_true, decide_eq_true_eq] at h
  have h3 : ((Builtin.Int.intBits i : Nat) : Int) + ((Builtin.Int.intBits j : Nat) : Int) > 134217728 := h.2
  omega
theorem pow_le1000 {a : Nat} {i : Int} (h : i.natAbs < 2 ^ a) (ha : a ≤ 1000) : i.natAbs < 2 ^ 1000 := Nat.lt_of_lt_of_le h (Nat.pow_le_pow_right (by decide) ha)
theorem tw_lt (ms : List Nat) (W j k : Nat) : tw ms W j k < 2 ^ (5 * W + 1) := by
  unfold tw
  refine Nat.pow_lt_pow_right (by decide) ?_
  have := Nat.mul_le_mul_left W (shN_le ms j k)
  omega
theorem rw_lt (ms : List Nat) (W j k : Nat) (hj : j < 3) : (rwI ms W j k).natAbs < 2 ^ (5 * W + 4) := by
  have e : 2 ^ (5 * W + 4) = 8 * 2 ^ (5 * W + 1) := by rw [show 5 * W + 4 = (5 * W + 1) + 3 from rfl, Nat.pow_add]; omega
  rw [e]
  have t := fun a b => tw_lt ms W a b
  by_cases h : j = k
  · subst h
    have t01 := t 0 1; have t02 := t 0 2; have t03 := t 0 3; have t12 := t 1 2; have t13 := t 1 3; have t23 := t 2 3
    have : j = 0 ∨ j = 1 ∨ j = 2 := by omega
    rcases this with rfl | rfl | rfl
    · have := fI_eq ms W; unfold fI at this; rw [this]; unfold fN; omega
    · rw [rw_diag1]; omega
    · rw [rw_diag2]; omega
  · rw [rw_off ms W j k h]
    have := t j k
    omega
theorem fN_bits (ms : List Nat) (W : Nat) (hm : ∀ k < 4, 16 ≤ mAt ms k ∧ mAt ms k < 32) : 0 < fN ms W ∧ fN ms W < 2 ^ (5 * W + 4) ∧ 2 ^ W ≤ fN ms W := by
  have h1 := rw_lt ms W 0 0 (by decide)
  have h2 := fI_eq ms W
  unfold fI at h2
  rw [h2] at h1
  have h3 : 2 ^ W ≤ tw ms W 0 1 := by
    unfold tw
    refine Nat.pow_le_pow_right (by decide) ?_
    have := Nat.mul_le_mul_left W (shN_pos (hm 0 (by decide)) (hm 1 (by decide)))
    omega
  have h4 := Nat.two_pow_pos W
  refine ⟨?_, h1, ?_⟩
  · unfold fN; omega
  · unfold fN; omega
theorem TN_lt (ms : List Nat) (W : Nat) : TN ms W < 2 ^ (15 * W + 5) := by
  have key : ∀ l : List Nat, (l.map fun c => 2 ^ (W * exC ms c)).sum ≤ l.length * 2 ^ (15 * W) := by
    intro l
    induction l with
    | nil => simp
    | cons c l ih =>
      rw [List.map_cons, List.sum_cons, List.length_cons, Nat.add_mul, Nat.one_mul]
      have : 2 ^ (W * exC ms c) ≤ 2 ^ (15 * W) := Nat.pow_le_pow_right (by decide) (by have := Nat.mul_le_mul_left W (exC_le ms c); omega)
      omega
  have := key (List.range 16)
  have e : 2 ^ (15 * W + 5) = 32 * 2 ^ (15 * W) := by rw [Nat.pow_add]; omega
  have hp := Nat.two_pow_pos (15 * W)
  rw [e]
  unfold TN
  rw [List.length_range] at this
  omega
/-- what is divided -/
noncomputable def divN (ms : List Nat) (W : Nat) : Nat := fN ms W * TN ms W + (fN ms W - 1)
theorem div_int (ms : List Nat) (W : Nat) (hf : 0 < fN ms W) : prodI ms W + fI ms W - 1 = ((divN ms W : Nat) : Int) := by
  rw [prod_eq, fI_eq]
  unfold divN
  rw [Int.natCast_add, Int.natCast_mul]
  omega
theorem div_res (ms : List Nat) (W : Nat) (hf : 0 < fN ms W) : divN ms W / fN ms W = TN ms W ∧ divN ms W % fN ms W = fN ms W - 1 := by
  unfold divN
  refine ⟨?_, ?_⟩
  · rw [Nat.mul_add_div hf, Nat.div_eq_of_lt (by omega), Nat.add_zero]
  · rw [Nat.mul_add_mod, Nat.mod_eq_of_lt (by omega)]
theorem div_cnt (ms : List Nat) (W : Nat) (hW : 5 ≤ W) (hW2 : W ≤ 34) (hm : ∀ k < 4, 16 ≤ mAt ms k ∧ mAt ms k < 32) : Builtin.Int.intBits (fN ms W : Nat) ≤ 1000 ∧ cntD (divN ms W) (Builtin.Int.intBits (fN ms W : Nat)) ≤ 100 := by
  obtain ⟨f0, f1, f2⟩ := fN_bits ms W hm
  have b1 := intBits_le f1
  have b2 := lt_bits f2
  have t := TN_lt ms W
  have hd : divN ms W < 2 ^ (20 * W + 10) := by
    have h1 : divN ms W < fN ms W * (TN ms W + 1) := by unfold divN; rw [Nat.mul_add, Nat.mul_one]; omega
    have h2 : fN ms W * (TN ms W + 1) ≤ 2 ^ (5 * W + 4) * 2 ^ (15 * W + 5) := Nat.mul_le_mul (Nat.le_of_lt f1) t
    rw [← Nat.pow_add] at h2
    refine Nat.lt_of_lt_of_le (Nat.lt_of_lt_of_le h1 h2) (Nat.pow_le_pow_right (by decide) (by omega))
  have b3 := intBits_le hd
  refine ⟨by omega, ?_⟩
  unfold cntD
  generalize Builtin.Int.intBits ((fN ms W : Nat) : Int) = m at *
  generalize Builtin.Int.intBits ((divN ms W : Nat) : Int) = B at *
  refine Nat.le_of_lt_succ ((Nat.div_lt_iff_lt_mul (by omega)).mpr ?_)
  omega
local macro_rules | `(tactic| walk_at "mapc") => `(tactic| (
  (case cσ => walk_at "cap"); (case cfree => rfl); (case cx => rfl); (case ck => rfl); (case cn => exact namesOk_spec (by rfl)); (case cs => (intro _; rfl)); (case csw => rfl); (case cw => exact Wr.fn (by kernel_rfl))))
theorem Es.upto {w : World} {n : Nat} {env : Env} {fr : List Addr} {mc mc' : Option MC} {σ σ' : Sto} {st : Stmt} {y : String} {v v' : AV} (e : v = v') (h : Es w n env fr mc σ st (.nxt mc' (upd σ' y v))) : Es w n env fr mc σ st (.nxt mc' (upd σ' y v')) := e ▸ h
theorem cells_nat (L : List Int) : ∃ ce : List Nat, ce.length = 5 ∧ (∀ i, mAt ce i < 1000000) ∧ (cellsOf L).map AV.int = avs ce := by
  refine ⟨(cellsOf L).map Int.toNat, ?_, fun i => ?_, ?_⟩
  · unfold cellsOf; rw [List.length_map, List.length_map, cellAcc_len]
  · unfold mAt
    rw [List.getElem?_map]
    cases h : (cellsOf L)[i]? with
    | none => decide
    | some x =>
      unfold cellsOf at h
      rw [List.getElem?_map] at h
      cases h' : (cellAcc L L.length)[i]? with
      | none => rw [h'] at h; cases h
      | some y =>
        rw [h'] at h
        have : y.fmod 1000000 = x := by simpa using h
        rw [← this, Int.fmod_eq_emod_of_nonneg _ (by decide)]
        show (y % 1000000).toNat < 1000000
        omega
  · unfold avs
    rw [List.map_map]
    refine List.map_congr_left fun x hx => ?_
    obtain ⟨y, _, rfl⟩ := List.mem_map.mp hx
    rw [Int.fmod_eq_emod_of_nonneg _ (by decide)]
    show AV.int (y % 1000000) = AV.int (((y % 1000000).toNat : Nat) : Int)
    rw [Int.toNat_of_nonneg (by omega)]
noncomputable def brV (q : Nat) : AV := .list ((nmsL q).map fun nm => .str (S (brL nm)))
theorem any_col (p : Nat → Bool) (x : Nat) (hx : x < 5) : (((List.range 5).filter p).map fun x => S [97 + x]).any (· == S [97 + x]) = p x := by
  rw [List.any_map]
  have e : ((fun y : Str => y == S [97 + x]) ∘ fun y : Nat => S [97 + y]) = fun y => decide (y = x) := by
    funext y
    show (S [97 + y] == S [97 + x]) = _
    by_cases h : y = x
    · subst h; simp
    · have : S [97 + y] ≠ S [97 + x] := fun h' => h (by have := S_inj h'; simpa using this)
      rw [beq_eq_false_iff_ne.mpr this, decide_eq_false h]
  rw [e, List.any_filter]
  have : x = 0 ∨ x = 1 ∨ x = 2 ∨ x = 3 ∨ x = 4 := by omega
  rcases this with rfl | rfl | rfl | rfl | rfl <;> simp [List.range, List.range.loop]
noncomputable def linesV (ms : List Nat) : AV := .list ((List.range 4).map fun k => .str (S (lineL (mAt ms k))))
noncomputable def tagsV (ms : List Nat) (x : Nat) : List AV := (List.range 4).map fun k => .str (S ((List.range x).map (tagC (mAt ms k) (k % 2))))
noncomputable def foundL (q : Nat) (ms : List Nat) (x : Nat) : List (List Nat) := ((ordL q).filter (fun k => bitB (mAt ms k) x)).map (fun k => tagT q k x) ++ [[97 + x]]
theorem foundL_len (q : Nat) (ms : List Nat) (x : Nat) : (foundL q ms x).length ≤ 5 := by
  unfold foundL
  rw [List.length_append, List.length_map]
  have : ((ordL q).filter fun k => bitB (mAt ms k) x).length ≤ 4 := List.length_filter_le ..
  simp only [List.length_cons, List.length_nil]
  omega
theorem ordL_lt {q k : Nat} (h : k ∈ ordL q) : k < 4 := by
  obtain ⟨s, _, rfl⟩ := List.mem_map.mp h
  exact Nat.mod_lt _ (by decide)
theorem tagT_inj {q j k x : Nat} (hj : j < 4) (hk : k < 4) (h : tagT q j x = tagT q k x) : j = k := by
  have hd : ∀ i, i < 4 → ∃ r, tagT q i x = 123 :: (112 + i) :: r := fun i hi => by
    have hs := nmK_ok q i hi
    have h1 := hs.hd
    unfold tagT brL
    rw [hs.sp]
    cases e : escL (nmK q i) with
    | nil => rw [e] at h1; cases h1
    | cons c r =>
      rw [e] at h1
      have : c = 112 + i := by simpa using h1
      subst this
      exact ⟨r ++ [125] ++ [97 + x], by simp⟩
  obtain ⟨r, e1⟩ := hd j hj
  obtain ⟨r', e2⟩ := hd k hk
  rw [e1, e2] at h
  have := (List.cons.inj (List.cons.inj h).2).1
  omega
theorem any_found (q : Nat) (ms : List Nat) (k x : Nat) (hk : k < 4) (hx : x < 5) : ((foundL q ms x).map S).any (· == S (tagT q k x)) = bitB (mAt ms k) x := by
  rw [Bool.eq_iff_iff, List.any_eq_true]
  constructor
  · rintro ⟨y, hy, he⟩
    obtain ⟨t, ht, rfl⟩ := List.mem_map.mp hy
    have he : t = tagT q k x := S_inj (by simpa using he)
    subst he
    unfold foundL at ht
    rcases List.mem_append.mp ht with ht | ht
    · obtain ⟨j, hj, e⟩ := List.mem_map.mp ht
      obtain ⟨hj, hb⟩ := List.mem_filter.mp hj
      rw [← tagT_inj (ordL_lt hj) hk e]
      exact hb
    · have := List.mem_singleton.mp ht
      unfold tagT brL at this
      simp at this
  · intro hb
    refine ⟨S (tagT q k x), List.mem_map.mpr ⟨_, ?_, rfl⟩, by simp⟩
    unfold foundL
    refine List.mem_append.mpr (.inl (List.mem_map.mpr ⟨k, List.mem_filter.mpr ⟨?_, hb⟩, rfl⟩))
    exact List.mem_map.mpr ⟨(k + 4 - q % 4) % 4, List.mem_range.mpr (Nat.mod_lt _ (by decide)), by omega⟩
noncomputable def sharedV (ms : List Nat) : AV := .list ((List.range 4).map fun j => .list ((List.range 4).map fun k => .int (shN ms j k : Nat)))
noncomputable def tiesV (ms : List Nat) (W : Nat) : AV := .list ((List.range 3).map fun j => .list ((List.range 4).map fun k => .int (tieN ms W j k : Nat)))
noncomputable def mnN : List Nat → Nat
  | [] => 0
  | [a] => a
  | a :: b :: l => min a (mnN (b :: l))
theorem mnN_mem : ∀ l : List Nat, l ≠ [] → mnN l ∈ l
  | [a], _ => by simp [mnN]
  | a :: b :: l, _ => by
    have ih := mnN_mem (b :: l) (by simp)
    rw [mnN]
    rcases Nat.le_total a (mnN (b :: l)) with h | h
    · rw [Nat.min_eq_left h]; exact .head _
    · rw [Nat.min_eq_right h]; exact .tail _ ih
theorem mnN_le : ∀ l : List Nat, ∀ a ∈ l, mnN l ≤ a
  | [b], a, h => by rw [List.mem_singleton.mp h]; exact Nat.le_refl _
  | b :: c :: l, a, h => by
    rw [mnN]
    rcases List.mem_cons.mp h with rfl | h
    · exact Nat.min_le_left ..
    · exact Nat.le_trans (Nat.min_le_right ..) (mnN_le (c :: l) a h)
noncomputable def rowsV (ms : List Nat) (W : Nat) : AV := .list ((List.range 3).map fun j => .list ((List.range 3).map fun k => .int (rwI ms W j k)))
noncomputable def leftV (ms : List Nat) (W : Nat) : AV := .list ([1, 2].map fun j => .list ([1, 2].map fun k => .int (leftI ms W j k)))
theorem count_cast (i : Nat) : ∀ l : List Nat, (l.map fun a : Nat => (a : Int)).count (i : Int) = l.count i
  | [] => rfl
  | a :: l => by
    rw [List.map_cons, List.count_cons, List.count_cons, count_cast i l]
    congr 1
    by_cases h : a = i
    · subst h; simp
    · rw [beq_eq_false_iff_ne.mpr h, beq_eq_false_iff_ne.mpr (by omega)]
theorem nmK_sp (q k : Nat) (hk : k < 4) : ∃ c nm', spell (nmK q k) = c :: nm' ∧ c ≠ 42 ∧ c ≠ 125 := by
  have h := nmK_ok q k hk
  rw [h.sp]
  have hd := h.hd
  cases e : escL (nmK q k) with
  | nil => rw [e] at hd; cases hd
  | cons c nm' =>
    rw [e] at hd
    have : c = 112 + k := by simpa using hd
    exact ⟨c, nm', rfl, by omega, by omega⟩
theorem things_ok (q : Nat) (ms : List Nat) : ∀ v ∈ thingsV (nmsL q) ms (q % 4), ThingOk v := by
  have hb : ∀ k s, k < 4 → s.length ≤ 10 → (braceL (escL (nmAt (nmsL q) k)) s).length ≤ 1000 := fun k s hk hs => by
    rw [nmAt_L q k hk]
    have := (nmK_ok q k hk).el
    unfold braceL
    simp
    omega
  have hg : ∀ k, k < 4 → ∀ t ∈ grpT (nmsL q) ms k 5, t.length ≤ 1000 := fun k hk t ht => by
    obtain ⟨x, _, rfl⟩ := List.mem_map.mp ht
    exact hb k [97 + x] hk (Nat.le_of_ble_eq_true rfl)
  have hm : ∀ k, k % 4 < 4 := fun k => Nat.mod_lt _ (by decide)
  intro v hv
  unfold thingsV at hv
  rcases List.mem_cons.mp hv with rfl | hv
  · exact .inl rfl
  rcases List.mem_cons.mp hv with rfl | hv
  · refine .inr ⟨_, rfl, ?_⟩
    unfold feT
    rw [nmAt_L q _ (hm q)]
    have := (nmK_ok q _ (hm q)).el2
    unfold braceL
    simp
    omega
  rcases List.mem_append.mp hv with hv | hv
  · obtain ⟨t, ht, rfl⟩ := List.mem_map.mp hv
    rw [mid_eq] at ht
    refine .inr ⟨t, rfl, ?_⟩
    rcases List.mem_append.mp ht with ht | ht
    · exact hg _ (hm _) t ht
    rcases List.mem_append.mp ht with ht | ht
    · exact hg _ (hm _) t ht
    rcases List.mem_append.mp ht with ht | ht
    · exact hg _ (hm _) t ht
    · exact hg _ (hm _) t ht
  · obtain ⟨x, _, rfl⟩ := List.mem_map.mp hv
    exact .inr ⟨_, rfl, Nat.le_of_ble_eq_true rfl⟩
set_option maxHeartbeats 20000000 in
theorem f_law (w : World) (n : Nat) (L : List Int) : Fn w (n + 11) 206 [.list (L.map .int)] (.bool true) := by
  obtain ⟨ce, hce5, hcb, hce⟩ := cells_nat L
  have fc := (f_cells w (n + 9) L).fc
  rw [hce] at fc
  have hq := hcb 4
  have sc4 : SubOp w (n + 10) (.list (avs ce)) (.int 4) (.int (mAt ce 4 : Nat)) := SubOp.list (by decide) (avs_get (by omega)) (by decide)
  have scut : SubOp w (n + 10) (.list (avs ce)) (.slc none (some 4)) (.list (avs (ce.take 4))) := by
    have := SubOp.listcut (w := w) (n := n + 10) (l := avs ce) (lo := none) (hi := some 4) (by unfold avs; rw [List.length_map]; omega)
    match ce, hce5, this with
    | [a, b, c, d, e], _, this => exact this
  generalize hqq : mAt ce 4 = q at *
  refine' Fn.intro (n := n + 10) (out := .ret (.bool true)) ["script"] [("script", .list (L.map .int))] ?hb ?hs ?ho ?hd ?hbody ?hlen ?hout ?hbind ?hown ?hcode ?hclo ?hgl ?hbu ?hco ?hgen ?hk
  walk_at "fn"
  with_reducible refine' Ex.cons (Es.assign (hs := ?bs) (Ev.calld ?be1 ?be2 ?be3 ?be4 fc) ?bw) ?rest1
  case bs => rfl
  case bw => exact Wr.fn (by kernel_rfl)
  case be1 => walk_at "ev"
  case be2 => walk_at "evl"
  case be3 => exact rfl
  case be4 => exact rfl
  have oM : ∀ i : Nat, ∀ m : Nat, 0 < m → Op2 w (n + 10) (binaryOp .Mod) (.int (i : Nat)) (.int (m : Nat)) (.int ((i % m : Nat))) := fun i m hm => by
    have := Op2.mod (w := w) (n := n + 10) (i := (i : Nat)) (j := (m : Nat)) (by omega)
    rwa [Int.fmod_eq_emod_of_nonneg _ (by omega), ← Int.natCast_emod] at this
  have oD : ∀ i : Nat, ∀ m : Nat, 0 < m → m < 100 → Op2 w (n + 10) (binaryOp .FloorDiv) (.int (i : Nat)) (.int (m : Nat)) (.int ((i / m : Nat))) := fun i m hm hm2 => by
    have := Op2.fdiv (w := w) (n := n + 10) (i := (i : Nat)) (j := (m : Nat)) (by omega) (by
      show m.log2 < 9000
      exact Nat.lt_of_le_of_lt (Nat.log2_le_self m) (by omega))
    rwa [Int.fdiv_eq_ediv_of_nonneg _ (by omega), ← Int.natCast_ediv] at this
  have oA : ∀ i j : Nat, Op2 w (n + 10) (binaryOp .Add) (.int (i : Nat)) (.int (j : Nat)) (.int ((i + j : Nat))) := fun i j => by
    rw [Int.natCast_add]; exact Op2.add
  -- order
  with_reducible refine' Ex.cons (Es.upto (v' := .list (avs (ordL q))) ?oe (Es.mapC (L := List.range 4) (g := fun i => .int (i : Nat)) (fun s => .int (((q + s) % 4 : Nat))) [("cells", .list (avs ce))] ?ci ?cb ?cσ ?cfree ?cx ?ck ?cn ?cs ?clen ?csw ?cw)) ?rest2
  walk_at "mapc"
  case oe => rfl
  case clen => decide
  case ci => exact (show Itb w (n + 10) _ _ _ _ _ (natsL 4) from by walk_at "range")
  case cb =>
    intro C s hs
    have o1 := oA q s
    have o2 : Op2 w (n + 10) (binaryOp .Mod) (.int ((q + s : Nat))) (.int 4) (.int (((q + s) % 4 : Nat))) := oM (q + s) 4 (by decide)
    refine ⟨?_, by walk_at "nmu"⟩
    walk_at "ev"
  -- masks
  with_reducible refine' Ex.cons (Es.assign (hs := ?csw) (v := .list (avs (msL ce))) (Ev.of (Ev.mapC (L := ce.take 4) (g := fun i => .int (i : Nat)) (fun c => .int ((16 + c % 16 : Nat))) [] ?ci ?cb ?cσ ?cfree ?cx ?ck ?cn ?cs ?clen) ?oe) ?cw) ?rest3
  walk_at "mapc"
  case oe =>
    match ce, hce5 with
    | [a, b, c, d, e], _ => rfl
  case clen => rw [List.length_take]; omega
  case ci =>
    refine Itb.list ?_
    with_reducible refine' Ev.sub (hsub := ?h1) ?h2 (Ev.slice ?h3 ?h4) scut
    case h1 => intro o i; exact ⟨_, rfl⟩
    case h2 => walk_at "ev"
    case h3 => exact True.intro
    case h4 => exact Ev.cint
  case cb =>
    intro C s hs
    have o1 : Op2 w (n + 10) (binaryOp .Mod) (.int (s : Nat)) (.int 16) (.int ((s % 16 : Nat))) := oM s 16 (by decide)
    have o2 : Op2 w (n + 10) (binaryOp .Add) (.int 16) (.int ((s % 16 : Nat))) (.int ((16 + s % 16 : Nat))) := oA 16 (s % 16)
    refine ⟨?_, by walk_at "nmu"⟩
    walk_at "ev"
  -- names
  have fnm : ∀ k, k < 4 → Fc w (n + 10) (.ref 167) [.int (k : Nat), .int ((q / 4 + k : Nat))] (.str (S (nmK q k))) := fun k hk => by
    rw [← nameL_eq]
    exact (f_name w (n + 9) (k : Nat) ((q / 4 + k : Nat)) (by omega) (by omega)).fc
  with_reducible refine' Ex.cons (Es.upto (v' := nmsV (nmsL q)) ?oe (Es.mapC (L := List.range 4) (g := fun i => .int (i : Nat)) (fun k => .str (S (nmK q k))) [("cells", .list (avs ce))] ?ci ?cb ?cσ ?cfree ?cx ?ck ?cn ?cs ?clen ?csw ?cw)) ?rest4
  walk_at "mapc"
  case oe => rfl
  case clen => decide
  case ci => exact (show Itb w (n + 10) _ _ _ _ _ (natsL 4) from by walk_at "range")
  case cb =>
    intro C k hk
    have hk := List.mem_range.mp hk
    have o1 : Op2 w (n + 10) (binaryOp .FloorDiv) (.int (q : Nat)) (.int 4) (.int ((q / 4 : Nat))) := oD q 4 (by decide) (by decide)
    have o2 := oA (q / 4) k
    refine ⟨?_, by walk_at "nmu"⟩
    with_reducible refine' Ev.calld ?be1 ?be2 ?be3 ?be4 (fnm k hk)
    case be1 => walk_at "ev"
    case be2 => walk_at "evl"
    case be3 => exact rfl
    case be4 => exact rfl
  -- braced
  have fsp : ∀ k, k < 4 → Fc w (n + 10) (.ref 172) [.str (S (nmK q k))] (.str (S (spell (nmK q k)))) := fun k hk =>
    (f_spelled w (n + 9) (nmK q k) (by rw [(nmK_ok q k hk).len]; decide) (nmK_ok q k hk).asc).fc
  have spl : ∀ k, k < 4 → (spell (nmK q k)).length ≤ 100 := fun k hk => by rw [(nmK_ok q k hk).sp]; exact (nmK_ok q k hk).el
  with_reducible refine' Ex.cons (Es.assign (hs := ?csw) (v := brV q) (Ev.of (Ev.mapC (L := List.range 4) (g := fun k => .str (S (nmK q k))) (fun k => .str (S (brL (nmK q k)))) [] ?ci ?cb ?cσ ?cfree ?cx ?ck ?cn ?cs ?clen) ?oe) ?cw) ?rest5
  walk_at "mapc"
  case oe => rfl
  case clen => decide
  case ci =>
    refine Itb.list ?_
    exact (show Ev w (n + 10) _ _ _ _ _ (nmsV (nmsL q)) from by walk_at "ev")
  case cb =>
    intro C k hk
    have hk := List.mem_range.mp hk
    have o1 : Op2 w (n + 10) (binaryOp .Add) (.str (S [123])) (.str (S (spell (nmK q k)))) (.str (S (123 :: spell (nmK q k)))) := Op2.addS (a := [123]) (by have := spl k hk; simp; omega)
    have o2 : Op2 w (n + 10) (binaryOp .Add) (.str (S (123 :: spell (nmK q k)))) (.str (S [125])) (.str (S (brL (nmK q k)))) := Op2.addS (a := 123 :: spell (nmK q k)) (by have := spl k hk; simp; omega)
    refine ⟨?_, by walk_at "nmu"⟩
    with_reducible refine' Ev.bin (Ev.bin ?c1 (Ev.calld ?be1 ?be2 ?be3 ?be4 (fsp k hk)) o1) ?c2 o2
    case c1 => exact Ev.of Ev.cstr rfl
    case c2 => exact Ev.of Ev.cstr rfl
    case be1 => walk_at "ev"
    case be2 => walk_at "evl"
    case be3 => exact rfl
    case be4 => exact rfl
  -- things
  have hq4 : q % 4 < 4 := Nat.mod_lt _ (by decide)
  have hmg : ∀ k, k < 4 → mAt (msL ce) k = 16 + mAt ce k % 16 := fun k hk => by unfold msL; unfold mAt; rw [List.getElem?_map, List.getElem?_range hk]; rfl
  have hm32 : ∀ k, k < 4 → 16 ≤ mAt (msL ce) k ∧ mAt (msL ce) k < 32 := fun k hk => by rw [hmg k hk]; omega
  have ft := (f_things w n (nmsL q) (msL ce) (q % 4) rfl rfl hm32 hq4 (fun k hk => by rw [nmAt_L q k hk]; exact ⟨(nmK_ok q k hk).esc, (nmK_ok q k hk).el, by rw [(nmK_ok q k hk).len]; decide⟩) (by rw [nmAt_L q _ hq4]; exact ⟨(nmK_ok q _ hq4).esc2, (nmK_ok q _ hq4).el2⟩)).fc
  have so0 : SubOp w (n + 10) (.list (avs (ordL q))) (.int 0) (.int ((q % 4 : Nat))) := SubOp.list (by decide) rfl (by decide)
  with_reducible refine' Ex.cons (Es.assign (hs := ?bs) (Ev.calld ?be1 ?be2 ?be3 ?be4 ft) ?bw) ?rest6
  case bs => rfl
  case bw => exact Wr.fn (by kernel_rfl)
  case be1 => walk_at "ev"
  case be3 => exact rfl
  case be4 => exact rfl
  case be2 => walk_at "evl"
  generalize hms : msL ce = ms at *
  have hits : ∀ v ∈ thingsV (nmsL q) ms (q % 4), ThingOk v := things_ok q ms
  -- lines
  with_reducible refine' Ex.cons (Es.newmu (hs := ?ds) (NewM.lst (vs := []) EvL.nil ?dt) ?dw) ?rest7
  case dt => exact Nat.zero_le _
  case ds => rfl
  case dw => exact Wr.fn (by kernel_rfl)
  have hng : ∀ k : Nat, k < 4 → SubOp w (n + 10) (brV q) (.int (k : Nat)) (.str (S (brL (nmK q k)))) := fun k hk => SubOp.list (by omega) (by
    unfold nmsL
    rw [Int.toNat_natCast, List.getElem?_map, List.getElem?_map, List.getElem?_range hk]; rfl) (by omega)
  have hmv : ∀ k : Nat, k < 4 → SubOp w (n + 10) (.list (avs ms)) (.int (k : Nat)) (.int (mAt ms k : Nat)) := fun k hk => SubOp.list (by omega) (avs_get (by rw [← hms]; exact hk)) (by omega)
  have hx5 : ∀ x : Nat, (2 : Int) ^ ((x : Nat) : Int).toNat = 2 ^ x := fun x => by simp
  have oS : ∀ m x : Nat, Op2 w (n + 10) (binaryOp .RShift) (.int m) (.int (x : Nat)) (.int ((m : Int).fdiv (2 ^ x))) := fun m x => by
    have := Op2.shr (w := w) (n := n + 10) (i := m) (j := (x : Nat)) (by omega)
    rwa [hx5] at this
  have oB : ∀ m x : Nat, m < 32 → x < 5 → Op2 w (n + 10) (binaryOp .BitAnd) (.int ((m : Int).fdiv (2 ^ x))) (.int 1) (.int (bitI m x)) := fun m x hm hx => by
    rw [← bitI_eq _ hm x hx]; exact Op2.band
  have hcol : ∀ x : Nat, x < 5 → SubOp w (n + 10) (.str (S [97, 98, 99, 100, 101])) (.int (x : Nat)) (.str (S [97 + x])) := fun x hx => SubOp.strS (by omega) (by omega) (by
    have : x = 0 ∨ x = 1 ∨ x = 2 ∨ x = 3 ∨ x = 4 := by omega
    rcases this with rfl | rfl | rfl | rfl | rfl <;> rfl)
  have hws : ∀ x : Nat, x < 5 → SubOp w (n + 10) (.str (S wsL)) (.int (x : Nat)) (.str (S [wsAt x])) := fun x hx => SubOp.strS (by omega) (by omega) (by
    have : x = 0 ∨ x = 1 ∨ x = 2 ∨ x = 3 ∨ x = 4 := by omega
    rcases this with rfl | rfl | rfl | rfl | rfl <;> rfl)
  have hda : ∀ x : Nat, x < 5 → SubOp w (n + 10) (.str (S [45, 98, 45, 100, 45])) (.int (x : Nat)) (.str (S [dashAt x])) := fun x hx => SubOp.strS (by omega) (by omega) (by
    have : x = 0 ∨ x = 1 ∨ x = 2 ∨ x = 3 ∨ x = 4 := by omega
    rcases this with rfl | rfl | rfl | rfl | rfl <;> rfl)
  have brl : ∀ k, k < 4 → (brL (nmK q k)).length ≤ 102 := fun k hk => by have := spl k hk; unfold brL; simp; omega
  have oT : ∀ k x, k < 4 → Op2 w (n + 10) (binaryOp .Add) (.str (S (brL (nmK q k)))) (.str (S [97 + x])) (.str (S (tagT q k x))) := fun k x hk => Op2.addS (a := brL (nmK q k)) (b := [97 + x]) (by have := brl k hk; simp; omega)
  with_reducible refine' Ex.cons (Es.forx (l := natsL 4) (fun j => (some (.list ((List.range j).map fun k => .str (S (lineL (mAt ms k))))), [("cells", .list (avs ce)), ("order", .list (avs (ordL q))), ("masks", .list (avs ms)), ("braced", brV q), ("things", .list (thingsV (nmsL q) ms (q % 4))), ("lines", .mu)]))
    (some (.list ((List.range 4).map fun k => .str (S (lineL (mAt ms k)))))) [("cells", .list (avs ce)), ("order", .list (avs (ordL q))), ("masks", .list (avs ms)), ("braced", brV q), ("things", .list (thingsV (nmsL q) ms (q % 4))), ("lines", .mu)] ?f1 ?f2 ?f3 ?f4 ?f5 ?f6 ?f7 ?f8 ?f9) ?rest8
  case f1 => walk_at "range"
  case f2 => rfl
  case f3 => walk_at "sub"
  case f4 => exact Wr.fn (by kernel_rfl)
  case f6 => intro _; rfl
  case f7 => exact natsL_ne 4
  case f8 => rfl
  case f9 => exact fun q hq => hq
  case f5 =>
    intro k v hv
    obtain ⟨hk, rfl⟩ := natsL_get hv
    dsimp only
    rw [List.range_succ, List.map_append]
    refine Ex.weaken (σ' := [("cells", .list (avs ce)), ("order", .list (avs (ordL q))), ("masks", .list (avs ms)), ("braced", brV q), ("things", .list (thingsV (nmsL q) ms (q % 4))), ("lines", .mu), ("k", .int (k : Nat))]) ?_ (by walk_at "sub")
    have s1 := hng k hk
    have hspc := nmK_sp q k hk
    have o1 : Op2 w (n + 10) (binaryOp .Add) (.str (S (brL (nmK q k)))) (.str (S [42])) (.str (S (123 :: (spell (nmK q k) ++ [125, 42])))) := by
      have := Op2.addS (w := w) (n := n + 10) (a := brL (nmK q k)) (b := [42]) (by have := brl k hk; simp; omega)
      rwa [show brL (nmK q k) ++ [42] = 123 :: (spell (nmK q k) ++ [125, 42]) from by unfold brL; simp] at this
    have fv : ((((List.range 5).filter (bitB (mAt ms k))).map (tagT q k)).map fun t => AV.str (S t)) = ((List.range 5).filter (bitB (mAt ms k))).map fun x => AV.str (S (tagT q k x)) := by rw [List.map_map]; rfl
    with_reducible refine' Ex.cons (Es.assign (hs := ?fsw) (v := .list (((List.range 5).filter (bitB (mAt ms k))).map fun x => .str (S (tagT q k x)))) (Ev.of (Ev.mapG (L := ((List.range 5).filter (bitB (mAt ms k))).map (tagT q k)) (g := avT) (fun t => .str (S t)) [] ?ci ?cb ?cσ ?cfree ?cx ?ck ?cn ?cs ?clen) ?oe) ?fw) ?fr
    walk_at "comp"
    case fsw => rfl
    case fw => exact Wr.fn (by kernel_rfl)
    case oe => exact congrArg AV.list fv
    case clen => rw [List.length_map]; exact Nat.le_trans (List.length_filter_le ..) (by decide)
    case cb =>
      intro C t ht
      refine ⟨?_, by walk_at "nmu"⟩
      exact Ev.tag (Ev.var List.mem_cons_self (by decide) (by decide)) True.intro rfl (fun _ _ => rfl)
    case ci =>
      rw [← filter4 q ms k hk]
      obtain ⟨c, nm', hsp, hc⟩ := hspc
      refine Itg.sel4 (n := n + 6) c nm' hsp hc (Nat.le_trans (spl k hk) (by decide)) hits ?g1 ?g2 ?g3
      case g1 => walk_at "ev"
      case g2 =>
        with_reducible refine' EvL.cons (hv := ?v3) (he := ?v4) ?v1 EvL.nil
        case v3 => walk_at "nmu"
        case v4 => rfl
        case v1 =>
          with_reducible refine' Ev.bin ?w1 ?w2 o1
          case w1 => walk_at "ev"
          case w2 => exact Ev.of Ev.cstr rfl
      case g3 => walk_at "evl"
    case fr =>
    have oms := oS (mAt ms k)
    have hmk := (hm32 k hk).2
    have sm := hmv k hk
    have one : Op2 w (n + 10) (compareOp .NotEq) (.list (((List.range 5).filter (bitB (mAt ms k))).map fun x => .str (S (tagT q k x)))) (.list (((List.range 5).filter (bitB (mAt ms k))).map fun x => .str (S (tagT q k x)))) (.bool false) := Op2.nelist (fun v hv => by
      obtain ⟨x, _, rfl⟩ := List.mem_map.mp hv
      exact True.intro)
    with_reducible refine' Ex.cons (Es.iff ?it Ex.nil) ?rest9
    case it =>
      with_reducible refine' Et.cmp (hm := ?m1) ?m2 (Ev.comp (L := List.range 5) (g := fun i => .int (i : Nat)) (bitB (mAt ms k)) (fun x => .str (S (tagT q k x))) [("braced", brV q), ("k", .int (k : Nat)), ("masks", .list (avs ms))] ?ci ?cb ?cσ ?cfree ?cx ?ck ?cn ?cs ?clen) one
      walk_at "comp"
      case m1 => with_unfolding_all rfl
      case m2 => walk_at "ev"
      case clen => decide
      case ci => exact (show Itb w (n + 10) _ _ _ _ _ (natsL 5) from by walk_at "range")
      case cb =>
        intro C x hx
        have hx := List.mem_range.mp hx
        have o1 := oms x
        have o2 := oB (mAt ms k) x hmk hx
        have o3 := hcol x hx
        have o4 := oT k x hk
        refine ⟨EtL.one ?_, fun _ => ⟨?_, by walk_at "nmu"⟩⟩
        · rw [← bitI_ne]
          with_reducible refine' Et.plain (hv := ?u1) (he := ?u2) ?u3 Tr.int
          case u1 => walk_at "nmu"
          case u2 => intro _; rfl
          case u3 => walk_at "ev"
        · with_reducible refine' Ev.bin (Ev.sub (hsub := ?a1) ?a2 ?a3 s1) (Ev.sub (hsub := ?a4) (a := .str (S [97, 98, 99, 100, 101])) ?a5 ?a6 o3) o4
          case a1 => intro o i; exact ⟨_, rfl⟩
          case a2 => walk_at "ev"
          case a3 => walk_at "ev"
          case a4 => intro o i; exact ⟨_, rfl⟩
          case a5 => exact Ev.of Ev.cstr rfl
          case a6 => walk_at "ev"
    with_reducible refine' Ex.cons (Es.assign (hs := ?fsw2) (Ev.mapC (L := (List.range 5).filter (bitB (mAt ms k))) (g := fun x => .str (S (tagT q k x))) (fun x => .str (S [97 + x])) [] ?ci ?cb ?cσ ?cfree ?cx ?ck ?cn ?cs ?clen) ?fw2) ?rest10
    walk_at "comp"
    case fsw2 => rfl
    case fw2 => exact Wr.fn (by kernel_rfl)
    case clen => exact Nat.le_trans (List.length_filter_le ..) (by decide)
    case ci =>
      refine Itb.list ?_
      walk_at "ev"
    case cb =>
      intro C x hx
      have sl : SubOp w (n + 10) (.str (S (tagT q k x))) (.int (-1)) (.str (S [97 + x])) := SubOp.strLast (l := brL (nmK q k)) (by have := brl k hk; omega)
      refine ⟨?_, by walk_at "nmu"⟩
      with_reducible refine' Ev.sub (hsub := ?a1) ?a2 ?a3 sl
      case a1 => intro o i; exact ⟨_, rfl⟩
      case a2 => walk_at "ev"
      case a3 => exact Ev.una Ev.cint Op1.neg (by intro h; cases h)
    have hlt : (((List.range 5).filter (bitB (mAt ms k))).map fun x => AV.str (S [97 + x])) = (((List.range 5).filter (bitB (mAt ms k))).map fun x => S [97 + x]).map AV.str := by rw [List.map_map]; rfl
    have hll : ((List.range k).map fun k => AV.str (S (lineL (mAt ms k)))).length ≤ 100 := by rw [List.length_map, List.length_range]; omega
    rw [hlt]
    with_reducible refine' Ex.nxtw (Ex.one (Es.mumeth (vs := [.str (S (lineL (mAt ms k)))]) (hd := ?m1) (hcc := ?m2) (hbase := ?m3) (hfew := ?m4) (hline := ?m5) (hi := ?m6) (hsw := ?m7) ?m8 ?m9 (MuM.append ?m10) _root_.PySem.F.slot_list_append _root_.PySem.F.type_list_append)) ?fz
    case m1 => decide
    case m2 => decide
    case m3 => rfl
    case m4 => rfl
    case m5 => rfl
    case m6 => rfl
    case m7 => rfl
    case m8 => walk_at "mem"
    case m10 => omega
    case fz => walk_at "sub"
    case m9 =>
      with_reducible refine' EvL.cons (hv := ?v3) (he := ?v4) ?v1 EvL.nil
      case v3 => walk_at "nmu"
      case v4 => rfl
      case v1 =>
        refine Ev.of (Ev.join (ls := (List.range 5).map fun x => [lineC (mAt ms k) x]) ?j1 ?j2 ?j3 ?j4 ?j5) ?j6
        case j2 => simp
        case j3 =>
          intro l hl
          obtain ⟨x, _, rfl⟩ := List.mem_map.mp hl
          exact Nat.le_of_ble_eq_true rfl
        case j4 => rfl
        case j5 => walk_at "mform"
        case j6 => rfl
        case j1 =>
          refine Ev.of (Ev.mapC (L := List.range 5) (g := fun i => .int (i : Nat)) (fun x => .str (S [lineC (mAt ms k) x])) [("letters", .list ((((List.range 5).filter (bitB (mAt ms k))).map fun x => S [97 + x]).map AV.str))] ?ci ?cb ?cσ ?cfree ?cx ?ck ?cn ?cs ?clen) ?ce
          walk_at "comp"
          case ce => rfl
          case clen => decide
          case ci => exact (show Itb w (n + 10) _ _ _ _ _ (natsL 5) from by walk_at "range")
          case cb =>
            intro C x hx
            have hx := List.mem_range.mp hx
            have o3 := hcol x hx
            have oi : Op2 w (n + 10) (compareOp .In) (.str (S [97 + x])) (.list ((((List.range 5).filter (bitB (mAt ms k))).map fun x => S [97 + x]).map AV.str)) (.bool (bitB (mAt ms k) x)) := by
              have := Op2.instrs (w := w) (n := n + 10) (ts := ((List.range 5).filter (bitB (mAt ms k))).map fun x => S [97 + x]) (x := S [97 + x])
              rwa [any_col (bitB (mAt ms k)) x hx] at this
            refine ⟨?_, by walk_at "nmu"⟩
            with_reducible refine' Ev.ifexp (b := bitB (mAt ms k) x) ?jt ?jx ?jy
            case jt =>
              with_reducible refine' Et.cmp (hm := ?m1) (Ev.sub (hsub := ?a4) (a := .str (S [97, 98, 99, 100, 101])) ?a5 ?a6 o3) ?m3 oi
              case m1 => with_unfolding_all rfl
              case a4 => intro o i; exact ⟨_, rfl⟩
              case a5 => exact Ev.of Ev.cstr rfl
              case a6 => walk_at "ev"
              case m3 => walk_at "ev"
            case jx =>
              intro hb
              have s5 := hws x hx
              rw [show lineC (mAt ms k) x = wsAt x from by unfold lineC; rw [hb]; rfl]
              with_reducible refine' Ev.sub (hsub := ?a4) (a := .str (S wsL)) ?a5 ?a6 s5
              case a4 => intro o i; exact ⟨_, rfl⟩
              case a5 => exact Ev.of Ev.cstr rfl
              case a6 => walk_at "ev"
            case jy =>
              intro hb
              have s5 := hda x hx
              rw [show lineC (mAt ms k) x = dashAt x from by unfold lineC; rw [hb]; rfl]
              with_reducible refine' Ev.sub (hsub := ?a4) (a := .str (S [45, 98, 45, 100, 45])) ?a5 ?a6 s5
              case a4 => intro o i; exact ⟨_, rfl⟩
              case a5 => exact Ev.of Ev.cstr rfl
              case a6 => walk_at "ev"
  refine Ex.freeze [("cells", .list (avs ce)), ("order", .list (avs (ordL q))), ("masks", .list (avs ms)), ("braced", brV q), ("things", .list (thingsV (nmsL q) ms (q % 4))), ("lines", linesV ms)] ?_ ?hth
  case hth => walk_at "thaw"
  -- tags
  with_reducible refine' Ex.cons (Es.assign (hs := ?tsw) (v := .list (tagsV ms 0)) (Ev.of (Ev.lst (vs := [.str "", .str "", .str "", .str ""]) ?tl ?tn) ?te) ?tw) ?rest11
  case tsw => rfl
  case tw => exact Wr.fn (by kernel_rfl)
  case tl => walk_at "evl"
  case tn => decide
  case te => rfl
  with_reducible refine' Ex.cons (Es.forx (l := natsL 5) (fun j => (none, [("cells", .list (avs ce)), ("order", .list (avs (ordL q))), ("masks", .list (avs ms)), ("braced", brV q), ("things", .list (thingsV (nmsL q) ms (q % 4))), ("lines", linesV ms), ("tags", .list (tagsV ms j))]))
    none [("cells", .list (avs ce)), ("masks", .list (avs ms)), ("lines", linesV ms), ("tags", .list (tagsV ms 5))] ?f1 ?f2 ?f3 ?f4 ?f5 ?f6 ?f7 ?f8 ?f9) ?rest12
  case f1 => walk_at "range"
  case f2 => rfl
  case f3 => walk_at "sub"
  case f4 => exact Wr.fn (by kernel_rfl)
  case f6 => intro _; rfl
  case f7 => exact natsL_ne 5
  case f8 => rfl
  case f9 => exact forall_cons (.head _) (forall_cons (.tail _ (.tail _ (.head _))) (forall_cons (.tail _ (.tail _ (.tail _ (.tail _ (.tail _ (.head _)))))) (forall_cons (.tail _ (.tail _ (.tail _ (.tail _ (.tail _ (.tail _ (.head _))))))) forall_nil)))
  case f5 =>
    intro x v hv
    obtain ⟨hx, rfl⟩ := natsL_get hv
    dsimp only
    refine Ex.weaken (σ' := [("cells", .list (avs ce)), ("order", .list (avs (ordL q))), ("masks", .list (avs ms)), ("braced", brV q), ("things", .list (thingsV (nmsL q) ms (q % 4))), ("lines", linesV ms), ("tags", .list (tagsV ms x)), ("x", .int (x : Nat))]) ?_ (by walk_at "sub")
    have o3 := hcol x hx
    have o1 : Op2 w (n + 10) (binaryOp .Add) (.str (S [123, 42, 125])) (.str (S [97 + x])) (.str (S [123, 42, 125, 97 + x])) := Op2.addS (a := [123, 42, 125]) (b := [97 + x]) (by simp)
    with_reducible refine' Ex.cons (Es.assign (hs := ?fsw) (Ev.mapG (L := foundL q ms x) (g := avT) (fun t => .str (S t)) [] ?ci ?cb ?cσ ?cfree ?cx ?ck ?cn ?cs ?clen) ?fw) ?fr
    walk_at "comp"
    case fsw => rfl
    case fw => exact Wr.fn (by kernel_rfl)
    case clen => exact Nat.le_trans (foundL_len q ms x) (by decide)
    case cb =>
      intro C t ht
      refine ⟨?_, by walk_at "nmu"⟩
      exact Ev.tag (Ev.var List.mem_cons_self (by decide) (by decide)) True.intro rfl (fun _ _ => rfl)
    case ci =>
      rw [show (foundL q ms x).map avT = (thingsV (nmsL q) ms (q % 4)).filter (p3 (97 + x)) from (filter3 q ms x hx).symm]
      refine Itg.sel3 (n := n + 6) (by omega) hits ?g1 ?g2 ?g3
      case g1 => walk_at "ev"
      case g2 =>
        with_reducible refine' EvL.cons (hv := ?v3) (he := ?v4) ?v1 EvL.nil
        case v3 => walk_at "nmu"
        case v4 => rfl
        case v1 =>
          with_reducible refine' Ev.bin (a := .str (S [123, 42, 125])) ?w1 (Ev.sub (hsub := ?a4) (a := .str (S [97, 98, 99, 100, 101])) ?a5 ?a6 o3) o1
          case w1 => exact Ev.of Ev.cstr rfl
          case a4 => intro o i; exact ⟨_, rfl⟩
          case a5 => exact Ev.of Ev.cstr rfl
          case a6 => walk_at "ev"
      case g3 => walk_at "evl"
    case fr =>
    have oadd : Op2 w (n + 10) (binaryOp .Add) (.list (((ordL q).filter fun k => bitB (mAt ms k) x).map fun k => .str (S (tagT q k x)))) (.list [.str (S [97 + x])]) (.list ((foundL q ms x).map fun t => .str (S t))) := by
      rw [show ((foundL q ms x).map fun t => AV.str (S t)) = (((ordL q).filter fun k => bitB (mAt ms k) x).map fun k => .str (S (tagT q k x))) ++ [.str (S [97 + x])] from by unfold foundL; rw [List.map_append, List.map_map]; rfl]
      refine Op2.addlist ?_
      rw [List.length_map]
      have : ((ordL q).filter fun k => bitB (mAt ms k) x).length ≤ 4 := List.length_filter_le ..
      simp only [List.length_cons, List.length_nil]
      omega
    have one : Op2 w (n + 10) (compareOp .NotEq) (.list ((foundL q ms x).map fun t => .str (S t))) (.list ((foundL q ms x).map fun t => .str (S t))) (.bool false) := Op2.nelist (fun v hv => by
      obtain ⟨t, _, rfl⟩ := List.mem_map.mp hv
      exact True.intro)
    with_reducible refine' Ex.cons (Es.iff ?it Ex.nil) ?rest13
    case it =>
      with_reducible refine' Et.cmp (hm := ?m1) ?m2 (Ev.bin (Ev.comp (L := ordL q) (g := fun i => .int (i : Nat)) (fun k => bitB (mAt ms k) x) (fun k => .str (S (tagT q k x))) [("braced", brV q), ("masks", .list (avs ms)), ("x", .int (x : Nat))] ?ci ?cb ?cσ ?cfree ?cx ?ck ?cn ?cs ?clen) (Ev.lst ?l1 ?l2) oadd) one
      walk_at "comp"
      case m1 => with_unfolding_all rfl
      case m2 => walk_at "ev"
      case clen => rw [show (ordL q).length = 4 from rfl]; decide
      case l2 => exact Nat.le_of_ble_eq_true rfl
      case l1 =>
        with_reducible refine' EvL.cons (hv := ?v3) (he := ?v4) ?v1 EvL.nil
        case v3 => walk_at "nmu"
        case v4 => rfl
        case v1 =>
          with_reducible refine' Ev.sub (hsub := ?a4) (a := .str (S [97, 98, 99, 100, 101])) ?a5 ?a6 o3
          case a4 => intro o i; exact ⟨_, rfl⟩
          case a5 => exact Ev.of Ev.cstr rfl
          case a6 => walk_at "ev"
      case ci =>
        refine Itb.list ?_
        exact (show Ev w (n + 10) _ _ _ _ _ (.list (avs (ordL q))) from by walk_at "ev")
      case cb =>
        intro C k hk
        have hk : k < 4 := ordL_lt hk
        have o1 := oS (mAt ms k) x
        have o2 := oB (mAt ms k) x (hm32 k hk).2 hx
        have o4 := oT k x hk
        have s1 := hng k hk
        have s2 := hmv k hk
        refine ⟨EtL.one ?_, fun _ => ⟨?_, by walk_at "nmu"⟩⟩
        · rw [← bitI_ne]
          with_reducible refine' Et.plain (hv := ?u1) (he := ?u2) ?u3 Tr.int
          case u1 => walk_at "nmu"
          case u2 => intro _; rfl
          case u3 => walk_at "ev"
        · with_reducible refine' Ev.bin (Ev.sub (hsub := ?a1) ?a2 ?a3 s1) (Ev.sub (hsub := ?a4) (a := .str (S [97, 98, 99, 100, 101])) ?a5 ?a6 o3) o4
          case a1 => intro o i; exact ⟨_, rfl⟩
          case a2 => walk_at "ev"
          case a3 => walk_at "ev"
          case a4 => intro o i; exact ⟨_, rfl⟩
          case a5 => exact Ev.of Ev.cstr rfl
          case a6 => walk_at "ev"
    have hlt : ((foundL q ms x).map fun t => AV.str (S t)) = ((foundL q ms x).map S).map AV.str := by rw [List.map_map]; rfl
    rw [hlt]
    with_reducible refine' Ex.nxtw (Ex.one (Es.assign (hs := ?tsw) (v := .list (tagsV ms (x + 1))) (Ev.mapC (L := List.range 4) (g := fun i => .int (i : Nat)) (fun k => .str (S ((List.range (x + 1)).map (tagC (mAt ms k) (k % 2))))) [("braced", brV q), ("found", .list (((foundL q ms x).map S).map AV.str)), ("tags", .list (tagsV ms x)), ("x", .int (x : Nat))] ?ci ?cb ?cσ ?cfree ?cx ?ck ?cn ?cs ?clen) ?tw)) ?fz
    walk_at "comp"
    case tsw => rfl
    case tw => exact Wr.fn (by kernel_rfl)
    case clen => decide
    case ci => exact (show Itb w (n + 10) _ _ _ _ _ (natsL 4) from by walk_at "range")
    case fz => walk_at "sub"
    case cb =>
      intro C k hk
      have hk := List.mem_range.mp hk
      have s1 := hng k hk
      have o4 := oT k x hk
      have st : SubOp w (n + 10) (.list (tagsV ms x)) (.int (k : Nat)) (.str (S ((List.range x).map (tagC (mAt ms k) (k % 2))))) := SubOp.list (by omega) (by
        unfold tagsV
        rw [Int.toNat_natCast, List.getElem?_map, List.getElem?_range hk]; rfl) (by omega)
      have oi : Op2 w (n + 10) (compareOp .In) (.str (S (tagT q k x))) (.list (((foundL q ms x).map S).map AV.str)) (.bool (bitB (mAt ms k) x)) := by
        have := Op2.instrs (w := w) (n := n + 10) (ts := (foundL q ms x).map S) (x := S (tagT q k x))
        rwa [any_found q ms k x hk hx] at this
      have oa : Op2 w (n + 10) (binaryOp .Add) (.str (S ((List.range x).map (tagC (mAt ms k) (k % 2))))) (.str (S [tagC (mAt ms k) (k % 2) x])) (.str (S ((List.range (x + 1)).map (tagC (mAt ms k) (k % 2))))) := by
        rw [List.range_succ, List.map_append]
        exact Op2.addS (by simp; omega)
      have om : Op2 w (n + 10) (binaryOp .Mod) (.int (k : Nat)) (.int 2) (.int ((k % 2 : Nat))) := oM k 2 (by decide)
      refine ⟨?_, by walk_at "nmu"⟩
      with_reducible refine' Ev.bin (Ev.sub (hsub := ?a1) ?a2 ?a3 st) (Ev.ifexp (b := bitB (mAt ms k) x) ?jt ?jx ?jy) oa
      case a1 => intro o i; exact ⟨_, rfl⟩
      case a2 => walk_at "ev"
      case a3 => walk_at "ev"
      case jt =>
        with_reducible refine' Et.cmp (hm := ?m1) (Ev.bin (Ev.sub (hsub := ?b1) ?b2 ?b3 s1) (Ev.sub (hsub := ?b4) (a := .str (S [97, 98, 99, 100, 101])) ?b5 ?b6 o3) o4) ?m3 oi
        case m1 => with_unfolding_all rfl
        case m3 => walk_at "ev"
        case b1 => intro o i; exact ⟨_, rfl⟩
        case b2 => walk_at "ev"
        case b3 => walk_at "ev"
        case b4 => intro o i; exact ⟨_, rfl⟩
        case b5 => exact Ev.of Ev.cstr rfl
        case b6 => walk_at "ev"
      case jx =>
        intro hb
        rw [show tagC (mAt ms k) (k % 2) x = 32 from by unfold tagC; rw [hb]; rfl]
        exact Ev.of Ev.cstr rfl
      case jy =>
        intro hb
        rw [show tagC (mAt ms k) (k % 2) x = offC (k % 2) from by unfold tagC; rw [hb]; rfl]
        have sb : SubOp w (n + 10) (.str (S [43, 94])) (.int ((k % 2 : Nat))) (.str (S [offC (k % 2)])) := SubOp.strS (by omega) (by omega) (by
          have : k % 2 = 0 ∨ k % 2 = 1 := by omega
          rcases this with h | h <;> rw [h] <;> rfl)
        with_reducible refine' Ev.sub (hsub := ?b4) (a := .str (S [43, 94])) ?b5 ?b6 sb
        case b4 => intro o i; exact ⟨_, rfl⟩
        case b5 => exact Ev.of Ev.cstr rfl
        case b6 => walk_at "ev"
  -- shared
  have hsg : ∀ j k : Nat, j < 4 → k < 4 → Fc w (n + 10) (.ref 189) [.str (S (lineL (mAt ms j))), .str (S (tagL (mAt ms k) (k % 2))), .int (mAt ms j : Nat), .int (mAt ms k : Nat), .int ((k % 2 : Nat))] (.int (shN ms j k : Nat)) := fun j k hj hk =>
    (f_shared w (n + 8) (mAt ms j) (mAt ms k) (k % 2) (hm32 j hj).2 (hm32 k hk).2 (by omega)).fc
  have hlj : ∀ j : Nat, j < 4 → SubOp w (n + 10) (linesV ms) (.int (j : Nat)) (.str (S (lineL (mAt ms j)))) := fun j hj => SubOp.list (by omega) (by
    rw [Int.toNat_natCast, List.getElem?_map, List.getElem?_range hj]; rfl) (by omega)
  have htk : ∀ k : Nat, k < 4 → SubOp w (n + 10) (.list (tagsV ms 5)) (.int (k : Nat)) (.str (S (tagL (mAt ms k) (k % 2)))) := fun k hk => SubOp.list (by omega) (by
    unfold tagsV
    rw [Int.toNat_natCast, List.getElem?_map, List.getElem?_range hk]; rfl) (by omega)
  with_reducible refine' Ex.cons (Es.assign (hs := ?csw) (v := sharedV ms) (Ev.of (Ev.mapC (L := List.range 4) (g := fun i => .int (i : Nat)) (fun j => .list ((List.range 4).map fun k => .int (shN ms j k : Nat))) [("lines", linesV ms), ("masks", .list (avs ms)), ("tags", .list (tagsV ms 5))] ?ci ?cb ?cσ ?cfree ?cx ?ck ?cn ?cs ?clen) ?oe) ?cw) ?rest14
  walk_at "mapc"
  case oe => rfl
  case clen => decide
  case ci => exact (show Itb w (n + 10) _ _ _ _ _ (natsL 4) from by walk_at "range")
  case cb =>
    intro C j hj
    have hj := List.mem_range.mp hj
    refine ⟨?_, by walk_at "nmu"⟩
    with_reducible refine' Ev.mapC (L := List.range 4) (g := fun i => .int (i : Nat)) (fun k => .int (shN ms j k : Nat)) [("j", .int (j : Nat)), ("lines", linesV ms), ("masks", .list (avs ms)), ("tags", .list (tagsV ms 5))] ?ci ?cb ?cσ ?cfree ?cx ?ck ?cn ?cs ?clen
    walk_at "comp"
    case clen => decide
    case ci => exact (show Itb w (n + 10) _ _ _ _ _ (natsL 4) from by walk_at "range")
    case cb =>
      intro C2 k hk
      have hk := List.mem_range.mp hk
      have s1 := hlj j hj
      have s2 := htk k hk
      have s3 := hmv j hj
      have s4 := hmv k hk
      have om : Op2 w (n + 10) (binaryOp .Mod) (.int (k : Nat)) (.int 2) (.int ((k % 2 : Nat))) := oM k 2 (by decide)
      refine ⟨?_, by walk_at "nmu"⟩
      with_reducible refine' Ev.calld ?be1 ?be2 ?be3 ?be4 (hsg j k hj hk)
      case be1 => walk_at "ev"
      case be2 => walk_at "evl"
      case be3 => exact rfl
      case be4 => exact rfl
  have hsh : ∀ j : Nat, j < 4 → SubOp w (n + 10) (sharedV ms) (.int (j : Nat)) (.list ((List.range 4).map fun k => .int (shN ms j k : Nat))) := fun j hj => SubOp.list (by omega) (by
    rw [Int.toNat_natCast, List.getElem?_map, List.getElem?_range hj]; rfl) (by omega)
  have hshk : ∀ j k : Nat, k < 4 → SubOp w (n + 10) (.list ((List.range 4).map fun k => .int (shN ms j k : Nat))) (.int (k : Nat)) (.int (shN ms j k : Nat)) := fun j k hk => SubOp.list (by omega) (by
    rw [Int.toNat_natCast, List.getElem?_map, List.getElem?_range hk]; rfl) (by omega)
  -- the least
  have olt : Op2 w (n + 10) (compareOp .Lt) (.int (mnN ((List.range 4).map fun j => mnN ((List.range 4).map (shN ms j))) : Nat)) (.int 0) (.bool false) := by
    have := Op2.lt (w := w) (n := n + 10) (i := (mnN ((List.range 4).map fun j => mnN ((List.range 4).map (shN ms j))) : Nat)) (j := 0)
    rwa [decide_eq_false (by omega)] at this
  have fmn : ∀ l : List Nat, l ≠ [] → Fc w (n + 10) (.builtin "min") [.list (l.map fun a => .int (a : Nat))] (.int (mnN l : Nat)) := fun l hl => by
    have := Fc.min (w := w) (n := n + 10) (ns := l.map fun a : Nat => (a : Int)) (m := (mnN l : Nat)) (List.mem_map.mpr ⟨_, mnN_mem l hl, rfl⟩) (fun a ha => by
      obtain ⟨b, hb, rfl⟩ := List.mem_map.mp ha
      exact Int.ofNat_le.mpr (mnN_le l b hb))
    rwa [List.map_map] at this
  with_reducible refine' Ex.cons (Es.iff ?it Ex.nil) ?rest15
  case it =>
    with_reducible refine' Et.cmp (hm := ?m1) (Ev.callb ?m2 ?m3 (fmn ((List.range 4).map fun j => mnN ((List.range 4).map (shN ms j))) ?m4)) ?m5 olt
    case m1 => with_unfolding_all rfl
    case m2 => walk_at "ev"
    case m4 => exact fun h => nomatch h
    case m5 => exact Ev.cint
    case m3 =>
      with_reducible refine' EvL.cons (hv := ?v3) (he := ?v4) ?v1 EvL.nil
      case v3 => walk_at "nmu"
      case v4 => rfl
      case v1 =>
        refine Ev.of (Ev.mapC (L := List.range 4) (g := fun j => .list ((List.range 4).map fun k => .int (shN ms j k : Nat))) (fun j => .int (mnN ((List.range 4).map (shN ms j)) : Nat)) [] ?ci ?cb ?cσ ?cfree ?cx ?ck ?cn ?cs ?clen) ?oe
        walk_at "comp"
        case oe => rfl
        case clen => decide
        case ci =>
          refine Itb.list ?_
          exact (show Ev w (n + 10) _ _ _ _ _ (sharedV ms) from by walk_at "ev")
        case cb =>
          intro C j hj
          refine ⟨?_, by walk_at "nmu"⟩
          have fj : Fc w (n + 10) (.builtin "min") [.list ((List.range 4).map fun k => .int (shN ms j k : Nat))] (.int (mnN ((List.range 4).map (shN ms j)) : Nat)) := fmn ((List.range 4).map (shN ms j)) (fun h => nomatch h)
          with_reducible refine' Ev.callb ?be1 ?be2 fj
          case be1 => walk_at "ev"
          case be2 => walk_at "evl"
  -- width
  have ow1 : Op2 w (n + 10) (binaryOp .FloorDiv) (.int (q : Nat)) (.int 16) (.int ((q / 16 : Nat))) := oD q 16 (by decide) (by decide)
  have ow2 : Op2 w (n + 10) (binaryOp .Mod) (.int ((q / 16 : Nat))) (.int 30) (.int ((q / 16 % 30 : Nat))) := oM (q / 16) 30 (by decide)
  have ow3 : Op2 w (n + 10) (binaryOp .Add) (.int 5) (.int ((q / 16 % 30 : Nat))) (.int ((5 + q / 16 % 30 : Nat))) := oA 5 (q / 16 % 30)
  have hW : 5 ≤ 5 + q / 16 % 30 ∧ 5 + q / 16 % 30 ≤ 34 := by omega
  with_reducible refine' Ex.cons (Es.assign (hs := ?as) (v := .int ((5 + q / 16 % 30 : Nat))) ?ae ?aw) ?rest16
  case as => rfl
  case aw => exact Wr.fn (by kernel_rfl)
  case ae => walk_at "ev"
  generalize hWW : 5 + q / 16 % 30 = W at *
  -- ties
  have oP : ∀ e : Nat, e ≤ 1000 → Op2 w (n + 10) (binaryOp .Pow) (.int 2) (.int (e : Nat)) (.int ((2 ^ e : Nat))) := fun e he => by
    have := Op2.pow (w := w) (n := n + 10) (i := 2) (j := (e : Nat)) (by omega) (by
      have : Builtin.Int.intBits 2 = 2 := rfl
      rw [this]
      have : (2 : Int) ^ 27 = 134217728 := rfl
      omega)
    rw [Int.toNat_natCast] at this
    rw [Int.natCast_pow]
    exact this
  have oMul : ∀ i j : Nat, i ≤ 1000 → j ≤ 1000 → Op2 w (n + 10) (binaryOp .Mult) (.int (i : Nat)) (.int (j : Nat)) (.int ((i * j : Nat))) := fun i j hi hj => by
    rw [Int.natCast_mul]
    refine Op2.mul (mulOk ?_ ?_)
    · exact pow_le1000 (a := 10) (by show i < 2 ^ 10; omega) (by decide)
    · exact pow_le1000 (a := 10) (by show j < 2 ^ 10; omega) (by decide)
  have oEq : ∀ j k : Nat, Op2 w (n + 10) (compareOp .Eq) (.int (j : Nat)) (.int (k : Nat)) (.bool (j == k)) := fun j k => by
    have := Op2.eq (w := w) (n := n + 10) (i := (j : Nat)) (j := (k : Nat))
    rwa [show (((j : Nat) : Int) == (k : Nat)) = (j == k) from by
      by_cases h : j = k
      · subst h; simp
      · rw [beq_eq_false_iff_ne.mpr h, beq_eq_false_iff_ne.mpr (by omega)]] at this
  with_reducible refine' Ex.cons (Es.assign (hs := ?csw) (v := tiesV ms W) (Ev.of (Ev.mapC (L := List.range 3) (g := fun i => .int (i : Nat)) (fun j => .list ((List.range 4).map fun k => .int (tieN ms W j k : Nat))) [("shared", sharedV ms), ("width", .int (W : Nat))] ?ci ?cb ?cσ ?cfree ?cx ?ck ?cn ?cs ?clen) ?oe) ?cw) ?rest17
  walk_at "mapc"
  case oe => rfl
  case clen => decide
  case ci => exact (show Itb w (n + 10) _ _ _ _ _ (natsL 3) from by walk_at "range")
  case cb =>
    intro C j hj
    have hj := List.mem_range.mp hj
    refine ⟨?_, by walk_at "nmu"⟩
    with_reducible refine' Ev.mapC (L := List.range 4) (g := fun i => .int (i : Nat)) (fun k => .int (tieN ms W j k : Nat)) [("j", .int (j : Nat)), ("shared", sharedV ms), ("width", .int (W : Nat))] ?ci ?cb ?cσ ?cfree ?cx ?ck ?cn ?cs ?clen
    walk_at "comp"
    case clen => decide
    case ci => exact (show Itb w (n + 10) _ _ _ _ _ (natsL 4) from by walk_at "range")
    case cb =>
      intro C2 k hk
      have hk := List.mem_range.mp hk
      refine ⟨?_, by walk_at "nmu"⟩
      have oe := oEq j k
      with_reducible refine' Ev.ifexp (b := (j == k)) ?jt ?jx ?jy
      case jt =>
        with_reducible refine' Et.cmp (hm := ?m1) ?m2 ?m3 oe
        case m1 => with_unfolding_all rfl
        case m2 => walk_at "ev"
        case m3 => walk_at "ev"
      case jx =>
        intro h
        have h : j = k := by simpa using h
        rw [show tieN ms W j k = 0 from by unfold tieN; rw [if_pos h]]
        exact Ev.cint
      case jy =>
        intro h
        have h : j ≠ k := by simpa using h
        rw [show tieN ms W j k = 2 ^ (W * shN ms j k) from by unfold tieN tw; rw [if_neg h]]
        have hs5 := shN_le ms j k
        have hW5 : W * shN ms j k ≤ 34 * 5 := Nat.mul_le_mul hW.2 hs5
        have s1 := hsh j (by omega)
        have s2 := hshk j k hk
        have o1 := oMul W (shN ms j k) (by omega) (by omega)
        have o2 := oP (W * shN ms j k) (by omega)
        walk_at "ev"
  -- rows
  have htie : ∀ j : Nat, j < 3 → SubOp w (n + 10) (tiesV ms W) (.int (j : Nat)) (.list ((List.range 4).map fun k => .int (tieN ms W j k : Nat))) := fun j hj => SubOp.list (by omega) (by
    rw [Int.toNat_natCast, List.getElem?_map, List.getElem?_range hj]; rfl) (by omega)
  have htiek : ∀ j k : Nat, k < 4 → SubOp w (n + 10) (.list ((List.range 4).map fun k => .int (tieN ms W j k : Nat))) (.int (k : Nat)) (.int (tieN ms W j k : Nat)) := fun j k hk => SubOp.list (by omega) (by
    rw [Int.toNat_natCast, List.getElem?_map, List.getElem?_range hk]; rfl) (by omega)
  with_reducible refine' Ex.cons (Es.assign (hs := ?csw) (v := rowsV ms W) (Ev.of (Ev.mapC (L := List.range 3) (g := fun i => .int (i : Nat)) (fun j => .list ((List.range 3).map fun k => .int (rwI ms W j k))) [("ties", tiesV ms W)] ?ci ?cb ?cσ ?cfree ?cx ?ck ?cn ?cs ?clen) ?oe) ?cw) ?rest18
  walk_at "mapc"
  case oe => rfl
  case clen => decide
  case ci => exact (show Itb w (n + 10) _ _ _ _ _ (natsL 3) from by walk_at "range")
  case cb =>
    intro C j hj
    have hj := List.mem_range.mp hj
    refine ⟨?_, by walk_at "nmu"⟩
    with_reducible refine' Ev.mapC (L := List.range 3) (g := fun i => .int (i : Nat)) (fun k => .int (rwI ms W j k)) [("j", .int (j : Nat)), ("ties", tiesV ms W)] ?ci ?cb ?cσ ?cfree ?cx ?ck ?cn ?cs ?clen
    walk_at "comp"
    case clen => decide
    case ci => exact (show Itb w (n + 10) _ _ _ _ _ (natsL 3) from by walk_at "range")
    case cb =>
      intro C2 k hk
      have hk := List.mem_range.mp hk
      refine ⟨?_, by walk_at "nmu"⟩
      have oe := oEq j k
      have s1 := htie j hj
      with_reducible refine' Ev.ifexp (b := (j == k)) ?jt ?jx ?jy
      case jt =>
        with_reducible refine' Et.cmp (hm := ?m1) ?m2 ?m3 oe
        case m1 => with_unfolding_all rfl
        case m2 => walk_at "ev"
        case m3 => walk_at "ev"
      case jx =>
        intro h
        have h : j = k := by simpa using h
        have fs : Fc w (n + 10) (.builtin "sum") [.list ((List.range 4).map fun k => .int (tieN ms W j k : Nat))] (.int (rwI ms W j k)) := by
          have := Fc.sum (w := w) (n := n + 10) (ns := (List.range 4).map fun i => (tieN ms W j i : Int))
          rw [List.map_map] at this
          unfold rwI
          rw [if_pos h]
          exact this
        with_reducible refine' Ev.callb ?be1 ?be2 fs
        case be1 => walk_at "ev"
        case be2 => walk_at "evl"
      case jy =>
        intro h
        have h : j ≠ k := by simpa using h
        have s2 := htiek j k (by omega)
        rw [show rwI ms W j k = -(tieN ms W j k : Int) from by unfold rwI; rw [if_neg h]]
        with_reducible refine' Ev.una ?u1 Op1.neg ?u2
        case u1 => walk_at "ev"
        case u2 => exact fun h => nomatch h
  have hrw : ∀ j : Nat, j < 3 → SubOp w (n + 10) (rowsV ms W) (.int (j : Nat)) (.list ((List.range 3).map fun k => .int (rwI ms W j k))) := fun j hj => SubOp.list (by omega) (by
    rw [Int.toNat_natCast, List.getElem?_map, List.getElem?_range hj]; rfl) (by omega)
  have hrwk : ∀ j k : Nat, k < 3 → SubOp w (n + 10) (.list ((List.range 3).map fun k => .int (rwI ms W j k))) (.int (k : Nat)) (.int (rwI ms W j k)) := fun j k hk => SubOp.list (by omega) (by
    rw [Int.toNat_natCast, List.getElem?_map, List.getElem?_range hk]; rfl) (by omega)
  have hr0 : SubOp w (n + 10) (rowsV ms W) (.int 0) (.list ((List.range 3).map fun k => .int (rwI ms W 0 k))) := hrw 0 (by decide)
  have hr00 : ∀ j, SubOp w (n + 10) (.list ((List.range 3).map fun k => .int (rwI ms W j k))) (.int 0) (.int (rwI ms W j 0)) := fun j => hrwk j 0 (by decide)
  -- first
  have hr000 := hr00 0
  have hfI := fI_eq ms W
  obtain ⟨hf0, hf1, hf2⟩ := fN_bits ms W hm32
  with_reducible refine' Ex.cons (Es.assign (hs := ?as) (v := .int (fI ms W)) ?ae ?aw) ?rest19
  case as => rfl
  case aw => exact Wr.fn (by kernel_rfl)
  case ae =>
    refine Ev.of (v := .int (rwI ms W 0 0)) ?_ rfl
    walk_at "ev"
  -- left
  have hrb : ∀ j k, j < 3 → (rwI ms W j k).natAbs < 2 ^ (5 * W + 4) := fun j k hj => rw_lt ms W j k hj
  have hfb : (fI ms W).natAbs < 2 ^ (5 * W + 4) := hrb 0 0 (by decide)
  have hW34 := hW.2
  have hle2 : ∀ j k, j < 3 → (leftI ms W j k).natAbs < 2 ^ ((5 * W + 4 + (5 * W + 4)) + 1) := fun j k hj => bits_sub (bits_mul hfb (hrb j k hj)) (bits_mul (hrb j 0 hj) (hrb 0 k (by decide)))
  with_reducible refine' Ex.cons (Es.upto (v' := leftV ms W) ?oe (Es.mapC (L := [1, 2]) (g := fun i : Nat => .int (i : Nat)) (fun j => .list ([1, 2].map fun k => .int (leftI ms W j k))) [("first", .int (fI ms W)), ("rows", rowsV ms W)] ?ci ?cb ?cσ ?cfree ?cx ?ck ?cn ?cs ?clen ?csw ?cw)) ?rest20
  walk_at "mapc"
  case oe => rfl
  case clen => decide
  case ci =>
    refine Itb.tuple (l := [.int 1, .int 2]) ?_
    with_reducible refine' Ev.tup ?ta ?tb
    case ta => walk_at "evl"
    case tb => exact Nat.le_of_ble_eq_true rfl
  case cb =>
    intro C j hj
    have hj3 : j < 3 := by
      simp only [List.mem_cons, List.not_mem_nil, or_false] at hj
      omega
    refine ⟨?_, by walk_at "nmu"⟩
    with_reducible refine' Ev.mapC (L := [1, 2]) (g := fun i : Nat => .int (i : Nat)) (fun k => .int (leftI ms W j k)) [("j", .int (j : Nat)), ("first", .int (fI ms W)), ("rows", rowsV ms W)] ?ci ?cb ?cσ ?cfree ?cx ?ck ?cn ?cs ?clen
    walk_at "comp"
    case clen => decide
    case ci =>
      refine Itb.tuple (l := [.int 1, .int 2]) ?_
      with_reducible refine' Ev.tup ?ta ?tb
      case ta => walk_at "evl"
      case tb => exact Nat.le_of_ble_eq_true rfl
    case cb =>
      intro C2 k hk
      have hk3 : k < 3 := by
        simp only [List.mem_cons, List.not_mem_nil, or_false] at hk
        omega
      refine ⟨?_, by walk_at "nmu"⟩
      have s1 := hrw j hj3
      have s2 := hrwk j k hk3
      have s3 := hr00 j
      have s4 := hrwk 0 k hk3
      have o1 : Op2 w (n + 10) (binaryOp .Mult) (.int (fI ms W)) (.int (rwI ms W j k)) (.int (fI ms W * rwI ms W j k)) := Op2.mul (mulOk (pow_le1000 hfb (by omega)) (pow_le1000 (hrb j k hj3) (by omega)))
      have o2 : Op2 w (n + 10) (binaryOp .Mult) (.int (rwI ms W j 0)) (.int (rwI ms W 0 k)) (.int (rwI ms W j 0 * rwI ms W 0 k)) := Op2.mul (mulOk (pow_le1000 (hrb j 0 hj3) (by omega)) (pow_le1000 (hrb 0 k (by decide)) (by omega)))
      unfold leftI
      walk_at "ev"
  -- product
  have hl0 : SubOp w (n + 10) (leftV ms W) (.int 0) (.list ([1, 2].map fun k => .int (leftI ms W 1 k))) := SubOp.list (by decide) rfl (by decide)
  have hl1 : SubOp w (n + 10) (leftV ms W) (.int 1) (.list ([1, 2].map fun k => .int (leftI ms W 2 k))) := SubOp.list (by decide) rfl (by decide)
  have hlk0 : ∀ j, SubOp w (n + 10) (.list ([1, 2].map fun k => .int (leftI ms W j k))) (.int 0) (.int (leftI ms W j 1)) := fun j => SubOp.list (by decide) rfl (by decide)
  have hlk1 : ∀ j, SubOp w (n + 10) (.list ([1, 2].map fun k => .int (leftI ms W j k))) (.int 1) (.int (leftI ms W j 2)) := fun j => SubOp.list (by decide) rfl (by decide)
  have hl10 := hlk0 1
  have hl11 := hlk1 1
  have hl20 := hlk0 2
  have hl21 := hlk1 2
  have om1 : Op2 w (n + 10) (binaryOp .Mult) (.int (leftI ms W 1 1)) (.int (leftI ms W 2 2)) (.int (leftI ms W 1 1 * leftI ms W 2 2)) := Op2.mul (mulOk (pow_le1000 (hle2 1 1 (by decide)) (by omega)) (pow_le1000 (hle2 2 2 (by decide)) (by omega)))
  have om2 : Op2 w (n + 10) (binaryOp .Mult) (.int (leftI ms W 1 2)) (.int (leftI ms W 2 1)) (.int (leftI ms W 1 2 * leftI ms W 2 1)) := Op2.mul (mulOk (pow_le1000 (hle2 1 2 (by decide)) (by omega)) (pow_le1000 (hle2 2 1 (by decide)) (by omega)))
  with_reducible refine' Ex.cons (Es.assign (hs := ?as) (v := .int (prodI ms W)) ?ae ?aw) ?rest21
  case as => rfl
  case aw => exact Wr.fn (by kernel_rfl)
  case ae =>
    refine Ev.of (v := .int (leftI ms W 1 1 * leftI ms W 2 2 - leftI ms W 1 2 * leftI ms W 2 1)) ?_ rfl
    walk_at "ev"
  -- quotient, rest
  have hdc := div_cnt ms W hW.1 hW.2 hm32
  have fdm := (f_divmod_pos w n (divN ms W) (fN ms W) hf0 hdc.1 hdc.2).fc
  rw [(div_res ms W hf0).1, (div_res ms W hf0).2, ← div_int ms W hf0, ← fI_eq] at fdm
  with_reducible refine' Ex.cons (Es.tup2 (u := .int (TN ms W : Nat)) (v := .int ((fN ms W - 1 : Nat))) (hs := ?t1) (hw := ?t2) ?t3 ?t4 ?t5) ?rest22
  case t1 => rfl
  case t2 => rfl
  case t4 => exact Wr.fn (by kernel_rfl)
  case t5 => exact Wr.fn (by kernel_rfl)
  case t3 =>
    with_reducible refine' Ev.calld ?be1 ?be2 ?be3 ?be4 fdm
    case be1 => walk_at "ev"
    case be2 => walk_at "evl"
    case be3 => exact rfl
    case be4 => exact rfl
  have one : Op2 w (n + 10) (compareOp .NotEq) (.int ((fN ms W - 1 : Nat))) (.int (fI ms W - 1)) (.bool false) := by
    have := Op2.ne (w := w) (n := n + 10) (i := ((fN ms W - 1 : Nat))) (j := fI ms W - 1)
    rwa [show ((((fN ms W - 1 : Nat)) : Int) != fI ms W - 1) = false from by rw [hfI]; simp; omega] at this
  with_reducible refine' Ex.cons (Es.iff ?it Ex.nil) ?rest23
  case it =>
    with_reducible refine' Et.cmp (hm := ?m1) ?m2 ?m3 one
    case m1 => with_unfolding_all rfl
    case m2 => walk_at "ev"
    case m3 => walk_at "ev"
  -- sizes
  have fsz : Fc w (n + 10) (.builtin "sum") [.list ((List.range 4).map fun k => .int (shN ms k k : Nat))] (.int (sizesN ms : Nat)) := by
    have := Fc.sum (w := w) (n := n + 10) (ns := (List.range 4).map fun i => (shN ms i i : Int))
    rw [List.map_map] at this
    rw [show ((sizesN ms : Nat) : Int) = ((List.range 4).map fun i => (shN ms i i : Int)).sum from by unfold sizesN; simp [List.range, List.range.loop]; omega]
    exact this
  with_reducible refine' Ex.cons (Es.assign (hs := ?as) (v := .int (sizesN ms : Nat)) ?ae ?aw) ?rest24
  case as => rfl
  case aw => exact Wr.fn (by kernel_rfl)
  case ae =>
    with_reducible refine' Ev.callb ?be1 ?be2 fsz
    case be1 => walk_at "ev"
    case be2 =>
      with_reducible refine' EvL.cons (hv := ?v3) (he := ?v4) ?v1 EvL.nil
      case v3 => walk_at "nmu"
      case v4 => rfl
      case v1 =>
        with_reducible refine' Ev.mapC (L := List.range 4) (g := fun i => .int (i : Nat)) (fun k => .int (shN ms k k : Nat)) [("shared", sharedV ms)] ?ci ?cb ?cσ ?cfree ?cx ?ck ?cn ?cs ?clen
        walk_at "comp"
        case clen => decide
        case ci => exact (show Itb w (n + 10) _ _ _ _ _ (natsL 4) from by walk_at "range")
        case cb =>
          intro C k hk
          have hk := List.mem_range.mp hk
          have s1 := hsh k hk
          have s2 := hshk k k hk
          refine ⟨?_, by walk_at "nmu"⟩
          walk_at "ev"
  -- places
  have hml4 : ms.length = 4 := by rw [← hms]; rfl
  have hmall : ∀ m ∈ ms, m < 32 := fun m hm => by
    obtain ⟨i, hi, rfl⟩ := List.mem_iff_getElem.mp hm
    have := (hm32 i (by omega)).2
    unfold mAt at this
    rwa [List.getElem?_eq_getElem hi] at this
  have ftr : ∀ c, c < 16 → Fc w (n + 10) (.ref 194) [.int (c : Nat)] (.obj (ID w (look (pa c 3)) 3)) := fun c hc => (f_tree w (n + 9) c hc).fc
  have fpc : ∀ c, c < 16 → Fc w (n + 10) (.ref 201) [.list (avs ms), .obj (ID w (look (pa c 3)) 3)] (.int (cntOut ms (parN c) 5 : Nat)) := fun c hc =>
    (f_pieces w (n + 9) ms (pa c 3) (parN c) hml4 hmall (fun k hk => ⟨(parN_ok c hc k hk).1, (parN_ok c hc k hk).2.1⟩)).fc
  with_reducible refine' Ex.cons (Es.assign (hs := ?csw) (v := .list ((exL ms).map fun e => .int (e : Nat))) (Ev.of (Ev.mapC (L := List.range 16) (g := fun i => .int (i : Nat)) (fun c => .int (exC ms c : Nat)) [("masks", .list (avs ms)), ("sizes", .int (sizesN ms : Nat))] ?ci ?cb ?cσ ?cfree ?cx ?ck ?cn ?cs ?clen) ?oe) ?cw) ?rest25
  walk_at "mapc"
  case oe => exact congrArg AV.list (by unfold exL; rw [List.map_map]; rfl)
  case clen => decide
  case ci => exact (show Itb w (n + 10) _ _ _ _ _ (natsL 16) from by walk_at "range")
  case cb =>
    intro C c hc
    have hc := List.mem_range.mp hc
    have f1 := ftr c hc
    have f2 := fpc c hc
    have o1 : Op2 w (n + 10) (binaryOp .Sub) (.int (sizesN ms : Nat)) (.int (cntOut ms (parN c) 5 : Nat)) (.int (exC ms c : Nat)) := by
      have hp := pieces_eq ms (parN c)
      rw [show ((exC ms c : Nat) : Int) = (sizesN ms : Nat) - (cntOut ms (parN c) 5 : Nat) from by unfold exC; omega]
      exact Op2.sub
    refine ⟨?_, by walk_at "nmu"⟩
    with_reducible refine' Ev.bin ?b1 (Ev.calld ?be1 ?be2 ?be3 ?be4 f2) o1
    case b1 => walk_at "ev"
    case be1 => walk_at "ev"
    case be3 => exact rfl
    case be4 => exact rfl
    case be2 =>
      with_reducible refine' EvL.cons (hv := ?v3) (he := ?v4) ?v1 ?v2
      case v3 => walk_at "nmu"
      case v4 => rfl
      case v1 => walk_at "ev"
      case v2 =>
        with_reducible refine' EvL.cons (hv := ?w3) (he := ?w4) ?w1 EvL.nil
        case w3 => walk_at "nmu"
        case w4 => rfl
        case w1 =>
          with_reducible refine' Ev.calld ?ce1 ?ce2 ?ce3 ?ce4 f1
          case ce1 => walk_at "ev"
          case ce2 => walk_at "evl"
          case ce3 => exact rfl
          case ce4 => exact rfl
  -- the end
  obtain ⟨hfc, hfd⟩ := final_digits ms W hW.1
  have hmx15 : mxL (exL ms) ≤ 15 := by
    have hm := mxL_mem (exL ms) (by unfold exL; simp)
    obtain ⟨c, _, e⟩ := List.mem_map.mp hm
    rw [← e]; exact exC_le ms c
  have fid : Fc w (n + 10) (.ref 42) [.int (TN ms W : Nat), .int (W : Nat)] (.list ((List.range (mxL (exL ms) + 1)).map fun i => .int ((exL ms).count i : Nat))) := by
    have := (f_int2digits w (n + 1) (TN ms W) W (by omega) (by omega) (by rw [hfc]; omega)).fc
    unfold dvs at this
    rw [hfd, List.map_map] at this
    exact this
  have fmx : Fc w (n + 10) (.builtin "max") [.list ((exL ms).map fun e => .int (e : Nat))] (.int (mxL (exL ms) : Nat)) := by
    have := Fc.max (w := w) (n := n + 10) (ns := (exL ms).map fun a : Nat => (a : Int)) (m := (mxL (exL ms) : Nat)) (List.mem_map.mpr ⟨_, mxL_mem (exL ms) (by unfold exL; simp), rfl⟩) (fun a ha => by
      obtain ⟨b, hb, rfl⟩ := List.mem_map.mp ha
      exact Int.ofNat_le.mpr (mxL_le (exL ms) b hb))
    rwa [List.map_map] at this
  have oa : Op2 w (n + 10) (binaryOp .Add) (.int (mxL (exL ms) : Nat)) (.int 1) (.int ((mxL (exL ms) + 1 : Nat))) := oA (mxL (exL ms)) 1
  have oeq : Op2 w (n + 10) (compareOp .Eq) (.list ((List.range (mxL (exL ms) + 1)).map fun i => .int ((exL ms).count i : Nat))) (.list ((List.range (mxL (exL ms) + 1)).map fun i => .int ((exL ms).count i : Nat))) (.bool true) := Op2.eqlist (fun v hv => by
    obtain ⟨i, _, rfl⟩ := List.mem_map.mp hv
    exact True.intro)
  walk_at "ret"
  with_reducible refine' Ev.cmp (hm := ?m1) (Ev.calld ?be1 ?be2 ?be3 ?be4 fid) (Ev.mapC (L := List.range (mxL (exL ms) + 1)) (g := fun i => .int (i : Nat)) (fun i => .int ((exL ms).count i : Nat)) [("places", .list ((exL ms).map fun e => .int (e : Nat)))] ?ci ?cb ?cσ ?cfree ?cx ?ck ?cn ?cs ?clen) oeq
  walk_at "comp"
  case m1 => with_unfolding_all rfl
  case be1 => walk_at "ev"
  case be2 => walk_at "evl"
  case be3 => exact rfl
  case be4 => exact rfl
  case clen => rw [List.length_range]; omega
  case ci =>
    refine (show Itb w (n + 10) _ _ _ _ _ (natsL (mxL (exL ms) + 1)) from ?_)
    with_reducible refine' Itb.range' (N := ((mxL (exL ms) + 1 : Nat))) (he := ?g5) ?g1 ?g2 ?g6 ?g3 ?g4
    case g1 => walk_at "ev"
    case g5 => rfl
    case g6 => rfl
    case g3 => omega
    case g4 =>
      have : (2 : Int) ^ 62 = 4611686018427387904 := rfl
      omega
    case g2 =>
      with_reducible refine' Ev.bin (Ev.callb ?c1 ?c2 fmx) ?c3 oa
      case c1 => walk_at "ev"
      case c2 => walk_at "evl"
      case c3 => exact Ev.cint
  case cb =>
    intro C i hi
    refine ⟨?_, by walk_at "nmu"⟩
    refine Ev.of (Ev.count (ns := (exL ms).map fun a : Nat => (a : Int)) (k := (i : Nat)) ?d1 ?d2 ?d3) ?d4
    case d1 =>
      rw [List.map_map]
      exact (show Ev w (n + 10) _ _ _ _ _ (.list ((exL ms).map fun e => .int (e : Nat))) from by walk_at "ev")
    case d2 => walk_at "evl"
    case d3 => walk_at "mform"
    case d4 => rw [count_cast]
theorem tri_nil : TriplesOk ([] : List Value) := trivial
/-- the world at the law's call -/
theorem ok0 {w : World} {s : Shared} {mg mb : Str → Option Value} {mean : ExcName → Option Value} {loose : List Str} {p : Program} {la : Addr} {ol : Obj} (K : (KF w).In s.heap) (T : Top p loose mean mg mb s.heap) (h8 : ∀ P ∈ [174, 58, 44, 37], s.heap.get? P = some (tabObj #[]))
    (h16 : s.heap.IsCode 20 16 #[] ∧ s.heap.TableAt 20 16 #[]) (hz : 207 ≤ s.heap.objs.size) (hg : s.gens = #[]) (hl : s.heap.get? la = some ol) (hcls : ol.cls ≠ .none) : OK w (fun a => if a = la then some ol else none) s := by
  have tab0 : ∀ m ∈ makers, s.heap.IsCode m.c m.P #[] ∧ s.heap.TableAt m.c m.P #[] := by
    have mk : ∀ c P, codeHdIn (KF w) c P = true → P ∈ [174, 58, 44, 37] → s.heap.IsCode c P #[] ∧ s.heap.TableAt c P #[] := fun c P hc hP =>
      let x := codeHd_of_K K hc
      ⟨x.code (h8 P hP) tri_nil, x.tab (h8 P hP)⟩
    intro m hm
    simp only [makers, List.mem_cons, List.not_mem_nil, or_false] at hm
    rcases hm with rfl | rfl | rfl | rfl | rfl
    · exact h16
    · exact mk 41 37 (by kernel_rfl) (by simp)
    · exact mk 48 44 (by kernel_rfl) (by simp)
    · exact mk 62 58 (by kernel_rfl) (by simp)
    · exact mk 178 174 (by kernel_rfl) (by simp)
  have hlT : la ∉ TAB := fun hm => by
    have : ∃ m ∈ makers, m.P = la := by
      simp only [TAB, List.mem_cons, List.not_mem_nil, or_false] at hm
      rcases hm with rfl | rfl | rfl | rfl | rfl <;> simp [makers]
    obtain ⟨m, hm', rfl⟩ := this
    have := (tab0 m hm').2.2
    rw [hl] at this
    cases this
    exact hcls rfl
  refine ⟨fun a o e => ?_, K, ⟨mg, T.g⟩, ?_, ⟨mb, T.b, T.builtins⟩, T.nolimit, fun m hm => ⟨#[], (tab0 m hm).1, (tab0 m hm).2, fun _ _ _ _ _ _ e => nomatch e⟩, hz, AllBare.of_eq hg⟩
  · by_cases h : a = la
    · subst h
      rw [if_pos rfl] at e
      cases e
      exact ⟨hlT, hl⟩
    · rw [if_neg h] at e; cases e
  · obtain ⟨bm, ob, h1, h2, h3, h4, h5, h6⟩ := T.bmain
    have hb : mg "__builtins__" = some (.ref 4) := mg_of K T.g (v := .ref 4) (by rfl)
    rw [h1] at hb
    cases hb
    exact ⟨ob, h3, h4, h5, h6⟩
theorem oldK_of {w : World} {F F' : Part} {s s' : Shared} (W : Fw w [] F s F' s') (tab0 : ∀ a ∈ TAB, ∃ c, s.heap.TableAt c a #[]) : OldK s.heap s'.heap := by
  have tab1 : ∀ a ∈ TAB, ∃ c ps, s'.heap.TableAt c a ps := fun a ha => by
    have : ∃ m ∈ makers, m.P = a := by
      simp only [TAB, List.mem_cons, List.not_mem_nil, or_false] at ha
      rcases ha with rfl | rfl | rfl | rfl | rfl <;> simp [makers]
    obtain ⟨m, hm, rfl⟩ := this
    obtain ⟨ps, _, h, _⟩ := W.ok.mks m hm
    exact ⟨m.c, ps, h⟩
  refine ⟨fun b o e => ?_, fun b o e => ?_⟩
  · by_cases hb : b ∈ TAB
    · obtain ⟨c, h0⟩ := tab0 b hb
      obtain ⟨c', ps, h1⟩ := tab1 b hb
      have e₀ : o = { cls := .none, data := .fields #[] } := Option.some.inj (e.symm.trans h0.2)
      subst e₀
      exact .inr (.inl ⟨h0.isCodeTable, rfl, #[], ps, rfl, by rw [h1.2]; simp⟩)
    · exact .inl (W.heap b hb (fun m => nomatch m) o e)
  · by_cases hb : b ∈ TAB
    · obtain ⟨c', ps, h1⟩ := tab1 b hb
      exact ⟨_, h1.2⟩
    · exact ⟨o, W.heap b hb (fun m => nomatch m) o e⟩
theorem intsRd {F : Part} : ∀ {vs : List Value} {ns : List Int}, IntsAre vs ns → RdL F vs (ns.map .int)
  | _, _, .nil => .nil
  | _, _, .cons i t r => .cons (.int i t) (intsRd r)
set_option maxHeartbeats 8000000 in
theorem fin : PySem.Challenge.rw_yj0021_01.Holds := by
  apply hd
  k_fill
  intro w s₀ s₁ mg mb G Y fa o pm cd doc dV kV ho hd hcd hD hmg hg args vals as hpre hlay hrd hwl hlo
  have KX := km_in_of Y
  km_tabs Y
  refine Ground.open G ?_
  intro T B D TE TW
  have e206 : mg "law" = some (.ref 206) := mg_of KX T.g (by rfl)
  have hfa : fa = 206 := by
    have h : some (Value.ref fa) = some (Value.ref 206) := hmg.symm.trans e206
    cases h; rfl
  subst hfa
  have h16 : s₁.heap.IsCode 20 16 #[] ∧ s₁.heap.TableAt 20 16 #[] := by
    obtain ⟨a, ok, fd, c, P, h1, h2, h3, h4, h5, h6⟩ := T.tab _ (.head _)
    have e21 : mg "_keep_original_ws" = some (.ref 21) := mg_of KX T.g (by rfl)
    have ha : a = 21 := by
      have h : some (Value.ref a) = some (Value.ref 21) := h1.symm.trans e21
      cases h; rfl
    subst ha
    clear h1 hd hmg hcd T B D TE TW
    have k21 := KX 21 _ rfl
    rw [h2] at k21
    cases k21
    cases h3
    cases h4
    obtain ⟨⟨oc, vs, e1, e2, e3, e4⟩, e5⟩ := id h6
    have k20 := KX 20 _ rfl
    rw [e1] at k20
    cases k20
    cases e3
    have hP : some (Value.ref 16) = some (Value.ref P) := e4
    cases hP
    exact ⟨h5, h6⟩
  clear hd hmg hcd
  wrow_args hpre hlay hrd hwl hlo
  rename_i L _ _ _ _ _ _ _ la vs _ hL _ w1 _ hI _ _ _
  obtain ⟨⟨cls, dd, data, sl⟩, hol, hcl, kk, hdat⟩ := hL
  have w2 : ∃ us : List Value, s₁.heap.get? la = some (listO us.toArray 0) := by
    cases w1 with | list e _ => exact ⟨_, e⟩
  obtain ⟨us, hus⟩ := w2
  have hvs : us = vs := by
    rw [hol] at hus
    cases hus
    cases hdat
    rfl
  subst hvs
  have hz : 207 ≤ s₁.heap.objs.size := Heap.lt_size ho
  have ok := ok0 (la := la) KX T hT8 h16 hz hg hus (by show (Value.type "list") ≠ .none; exact fun h => nomatch h)
  have tab0 : ∀ a ∈ TAB, ∃ c, s₁.heap.TableAt c a #[] := fun a ha => by
    simp only [TAB, List.mem_cons, List.not_mem_nil, or_false] at ha
    rcases ha with rfl | rfl | rfl | rfl | rfl
    · exact ⟨20, h16.2⟩
    · exact ⟨41, (codeHd_of_K KX (by kernel_rfl)).tab (hT8 37 (by simp))⟩
    · exact ⟨48, (codeHd_of_K KX (by kernel_rfl)).tab (hT8 44 (by simp))⟩
    · exact ⟨62, (codeHd_of_K KX (by kernel_rfl)).tab (hT8 58 (by simp))⟩
    · exact ⟨178, (codeHd_of_K KX (by kernel_rfl)).tab (hT8 174 (by simp))⟩
  have hr : RdL (fun a => if a = la then some (listO us.toArray 0) else none) [.ref la] [.list (L.map .int)] := .cons (.list (if_pos rfl) (intsRd hI)) .nil
  have hlim : Lim (0 + 11) callerA := ⟨by decide, by decide, rfl⟩
  refine wpAny_mono ((f_law w 0 L).fc callerA hlim _ s₁ [.ref la] _ ok hr) (fun v s' ⟨F', W, R⟩ => ?_) fun _ _ h => h
  cases R
  exact ⟨.inl ⟨_, _, [], rfl, fun _ => rfl, ReadsW.bool true, (by first | rfl | wrow_post), fun _ => ⟨List.nodup_nil, fun _ hm => nomatch hm⟩⟩, oldK_of W tab0, W.os, W.ok.bare⟩
end Mine
theorem PySem.Challenge.cw_yj0021_01_holds : PySem.Challenge.rw_yj0021_01.Holds := by
  exact Mine.fin