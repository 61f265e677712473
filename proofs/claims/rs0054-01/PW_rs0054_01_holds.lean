import PyProof.Rows.All
import Wide.All
import OpenK.AllK
import Wide.FinOn
import PySem.Challenge.RW_rs0054_01
open PySem PySem.W PyProof.Rows
set_option Elab.async false
set_option maxRecDepth 100000
set_option maxHeartbeats 8000000
namespace Mine
open_top hd for PySem.Challenge.rw_rs0054_01
local macro_rules | `(tactic| omega) => `(tactic| lia)
theorem none_no {α : Type} {d : α} {P : Prop} (h : (none : Option α) = some d) : P := nomatch h
noncomputable abbrev listObj (items : Array Value) (n : Nat) : Obj := { cls := .type "list", data := .seq items n }
noncomputable abbrev tupObj (items : Array Value) (n : Nat) : Obj := { cls := .type "tuple", data := .seq items n }
mutual
inductive Rep (Av : List Addr) (h : Heap) : Value → PyData → Prop
  | none : Rep Av h .none .none
  | bool (b) : Rep Av h (.bool b) (.bool b)
  | int (i t) : Rep Av h (.int i t) (.int i)
  | str (x t) : Rep Av h (.str x t) (.str x)
  | list {a items n xs} : a ∉ Av → h.get? a = some (listObj items n) → RepAll Av h items.toList xs → Rep Av h (.ref a) (.list xs)
  | tuple {a items n xs} : a ∉ Av → h.get? a = some (tupObj items n) → RepAll Av h items.toList xs → Rep Av h (.ref a) (.tuple xs)
inductive RepAll (Av : List Addr) (h : Heap) : List Value → List PyData → Prop
  | nil : RepAll Av h [] []
  | cons {v vs d ds} : Rep Av h v d → RepAll Av h vs ds → RepAll Av h (v :: vs) (d :: ds)
end
noncomputable def SeqObj (o : Obj) : Prop := ∃ xs n, o.data = .seq xs n
theorem Rep.move {Av Av' : List Addr} {h h' : Heap} (hk : ∀ a o, a ∉ Av → h.get? a = some o → SeqObj o → h'.get? a = some o)
    (hav : ∀ a o, a ∉ Av → h.get? a = some o → SeqObj o → a ∉ Av') {v : Value} {d : PyData} (r : Rep Av h v d) : Rep Av' h' v d :=
  Rep.rec (motive_1 := fun v d _ => Rep Av' h' v d) (motive_2 := fun vs ds _ => RepAll Av' h' vs ds) .none (fun b => .bool b) (fun i t => .int i t) (fun x t => .str x t)
    (fun h1 h2 _ ih => .list (hav _ _ h1 h2 ⟨_, _, rfl⟩) (hk _ _ h1 h2 ⟨_, _, rfl⟩) ih) (fun h1 h2 _ ih => .tuple (hav _ _ h1 h2 ⟨_, _, rfl⟩) (hk _ _ h1 h2 ⟨_, _, rfl⟩) ih) .nil (fun _ _ i1 i2 => .cons i1 i2) r
theorem RepAll.ind {Av : List Addr} {h : Heap} {P : List Value → List PyData → Prop} (h0 : P [] []) (h1 : ∀ {v vs d ds}, Rep Av h v d → RepAll Av h vs ds → P vs ds → P (v :: vs) (d :: ds)) {vs : List Value} {ds : List PyData} (r : RepAll Av h vs ds) : P vs ds :=
  RepAll.rec (motive_1 := fun _ _ _ => True) (motive_2 := fun vs ds _ => P vs ds) trivial (fun _ => trivial) (fun _ _ => trivial) (fun _ _ => trivial) (fun _ _ _ _ => trivial) (fun _ _ _ _ => trivial) h0 (fun a b _ i => h1 a b i) r
theorem RepAll.move {Av Av' : List Addr} {h h' : Heap} (hk : ∀ a o, a ∉ Av → h.get? a = some o → SeqObj o → h'.get? a = some o)
    (hav : ∀ a o, a ∉ Av → h.get? a = some o → SeqObj o → a ∉ Av') {v : List Value} {d : List PyData} (r : RepAll Av h v d) : RepAll Av' h' v d :=
  r.ind (P := fun vs ds => RepAll Av' h' vs ds) .nil (fun a _ i => .cons (a.move hk hav) i)
theorem Rep.keeps {Av : List Addr} {h h' : Heap} (hk : ∀ a o, h.get? a = some o → h'.get? a = some o) {v d} (r : Rep Av h v d) : Rep Av h' v d :=
  r.move (fun a o _ e _ => hk a o e) (fun _ _ x _ _ => x)
theorem RepAll.keeps {Av : List Addr} {h h' : Heap} (hk : ∀ a o, h.get? a = some o → h'.get? a = some o) {v d} (r : RepAll Av h v d) : RepAll Av h' v d :=
  r.move (fun a o _ e _ => hk a o e) (fun _ _ x _ _ => x)
theorem RepAll.length {Av : List Addr} {h : Heap} {vs : List Value} {ds : List PyData} (r : RepAll Av h vs ds) : vs.length = ds.length :=
  r.ind (P := fun vs ds => vs.length = ds.length) rfl (fun _ _ i => congrArg Nat.succ i)
theorem RepAll.append {Av : List Addr} {h : Heap} {vs : List Value} {ds : List PyData} {ws es} (r : RepAll Av h vs ds) (q : RepAll Av h ws es) : RepAll Av h (vs ++ ws) (ds ++ es) :=
  r.ind (P := fun vs ds => RepAll Av h (vs ++ ws) (ds ++ es)) q (fun a _ i => .cons a i)
theorem RepAll.take {Av : List Addr} {h : Heap} {vs : List Value} {ds : List PyData} (k : Nat) (r : RepAll Av h vs ds) : RepAll Av h (vs.take k) (ds.take k) :=
  r.ind (P := fun vs ds => ∀ k, RepAll Av h (vs.take k) (ds.take k)) (fun k => by rw [List.take_nil, List.take_nil]; exact .nil) (fun a _ i k => by
    cases k with
    | zero => exact .nil
    | succ k => exact .cons a (i k)) k
theorem RepAll.drop {Av : List Addr} {h : Heap} {vs : List Value} {ds : List PyData} (k : Nat) (r : RepAll Av h vs ds) : RepAll Av h (vs.drop k) (ds.drop k) :=
  r.ind (P := fun vs ds => ∀ k, RepAll Av h (vs.drop k) (ds.drop k)) (fun k => by rw [List.drop_nil, List.drop_nil]; exact .nil) (fun a b i k => by
    cases k with
    | zero => exact .cons a b
    | succ k => exact i k) k
theorem RepAll.reverse {Av : List Addr} {h : Heap} {vs : List Value} {ds : List PyData} (r : RepAll Av h vs ds) : RepAll Av h vs.reverse ds.reverse :=
  r.ind (P := fun vs ds => RepAll Av h vs.reverse ds.reverse) .nil (fun a _ i => by
    rw [List.reverse_cons, List.reverse_cons]; exact i.append (.cons a .nil))
theorem RepAll.get {Av : List Addr} {h : Heap} {vs : List Value} {ds : List PyData} {i : Nat} {v : Value} (r : RepAll Av h vs ds) (e : vs[i]? = some v) : ∃ d, ds[i]? = some d ∧ Rep Av h v d :=
  r.ind (P := fun vs ds => ∀ i, vs[i]? = some v → ∃ d, ds[i]? = some d ∧ Rep Av h v d) (fun i e => none_no e) (fun a _ ih i e => by
    cases i with
    | zero => cases e; exact ⟨_, rfl, a⟩
    | succ i => exact ih i e) i e
theorem RepAll.get' {Av : List Addr} {h : Heap} {vs : List Value} {ds : List PyData} {i : Nat} {d : PyData} (r : RepAll Av h vs ds) (e : ds[i]? = some d) : ∃ v, vs[i]? = some v ∧ Rep Av h v d :=
  r.ind (P := fun vs ds => ∀ i, ds[i]? = some d → ∃ v, vs[i]? = some v ∧ Rep Av h v d) (fun i e => none_no e) (fun a _ ih i e => by
    cases i with
    | zero => cases e; exact ⟨_, rfl, a⟩
    | succ i => exact ih i e) i e
inductive Loads (env : Env) (h : Heap) (x : Str) (v : Value) : Prop
  | loc {m} : env.kindOf x = some .local → h.Ns env.locals m → m x = some v → Loads env h x v
  | cell {c} : env.kindOf x = some .cell → env.cells.lookup x = some c → h.IsCell c (some v) → Loads env h x v
  | free {c} : env.kindOf x = some .free → env.cells.lookup x = some c → h.IsCell c (some v) → Loads env h x v
structure EnvOK (env : Env) (h : Heap) : Prop where
  fn : env.scope.kind = .function
  glob : env.globals = mainGlobals
  blt : env.builtins = builtinsNs
  loc : ∃ m, h.Ns env.locals m
  cell : ∀ x, (env.kindOf x = some .cell ∨ env.kindOf x = some .free) → ∃ c v, env.cells.lookup x = some c ∧ h.IsCell c v
  inj : ∀ x y c, env.cells.lookup x = some c → env.cells.lookup y = some c → x = y
theorem Loads.keeps {env : Env} {h h' : Heap} {x v} (hk : ∀ a o, h.get? a = some o → h'.get? a = some o) : Loads env h x v → Loads env h' x v
  | .loc a b c => .loc a (b.keeps hk) c
  | .cell a b c => .cell a b (c.keeps hk)
  | .free a b c => .free a b (c.keeps hk)
theorem EnvOK.keeps {env : Env} {h h' : Heap} (hk : ∀ a o, h.get? a = some o → h'.get? a = some o) (x : EnvOK env h) : EnvOK env h' :=
  ⟨x.fn, x.glob, x.blt, let ⟨m, e⟩ := x.loc; ⟨m, e.keeps hk⟩, fun y hy => let ⟨c, v, e, f⟩ := x.cell y hy; ⟨c, v, e, f.keeps hk⟩, x.inj⟩
theorem ns_not_seq {h : Heap} {a : Addr} {m o} (hn : h.Ns a m) (e : h.get? a = some o) : ¬ SeqObj o := by
  obtain ⟨o', es, ep, ho, hd, _⟩ := hn
  rw [e] at ho; cases ho
  rintro ⟨xs, n, hx⟩; rw [hd] at hx; cases hx
theorem cell_not_seq {h : Heap} {a : Addr} {v o} (hn : h.IsCell a v) (e : h.get? a = some o) : ¬ SeqObj o := by
  obtain ⟨o', ho, hd⟩ := hn
  rw [e] at ho; cases ho
  rintro ⟨xs, n, hx⟩; rw [hd] at hx; cases hx
theorem ns_ne_cell {h : Heap} {a c : Addr} {m v} (hn : h.Ns a m) (hc : h.IsCell c v) : a ≠ c := by
  rintro rfl
  obtain ⟨o', es, ep, ho, hd, _⟩ := hn
  obtain ⟨o, ho', hd'⟩ := hc
  rw [ho] at ho'; cases ho'
  rw [hd] at hd'; cases hd'
/-- what a store of the name `x` writes -/
noncomputable def StoreAt (env : Env) (x : Str) (W : Addr) : Prop := (env.kindOf x = some .local ∧ W = env.locals) ∨ (env.kindOf x = some .cell ∧ env.cells.lookup x = some W)
theorem store_ok {M : Model} {A : Around} {E : Value → Shared → Prop} {s : Shared} {env : Env} {x : Str} {v : Value} {Q : Unit → Shared → Prop} (ok : EnvOK env s.heap)
    (hk : env.kindOf x = some .local ∨ env.kindOf x = some .cell)
    (hQ : ∀ h' tk W, StoreAt env x W → (∀ o, s.heap.get? W = some o → ¬ SeqObj o) → (∀ b o, b ≠ W → s.heap.get? b = some o → h'.get? b = some o) → EnvOK env h' → Loads env h' x v →
      (∀ y u, y ≠ x → Loads env s.heap y u → Loads env h' y u) → Q () { s with heap := h', toks := tk }) : wpAny M A (storeName env x v) Q E s := by
  obtain ⟨m, hm⟩ := ok.loc
  rcases hk with hk | hk
  · refine wpAny_storeName_local hk hm (fun h' hn' hs' => ?_) (by rw [ok.fn]; rfl)
    refine hQ h' _ env.locals (.inl ⟨hk, rfl⟩) (fun o e => ns_not_seq hm e) (fun b o hb e => hs'.extBut b o hb e) ?_ (.loc hk hn' (by simp)) ?_
    · refine ⟨ok.fn, ok.glob, ok.blt, ⟨_, hn'⟩, fun y hy => ?_, ok.inj⟩
      obtain ⟨c, v, hc, hv⟩ := ok.cell y hy
      exact ⟨c, v, hc, hv.sameBut hs' (Ne.symm (ns_ne_cell hm hv))⟩
    · intro y u hy l
      cases l with
      | loc a b c =>
        refine .loc a hn' ?_
        obtain ⟨o1, es1, ep1, ho1, hd1, hk1, hf1⟩ := b
        obtain ⟨o2, es2, ep2, ho2, hd2, hk2, hf2⟩ := hm
        rw [ho1] at ho2; cases ho2
        rw [hd1] at hd2; cases hd2
        simp only [hy, if_false]
        rw [← hf2, hf1]; exact c
      | cell a b c => exact .cell a b (c.sameBut hs' (Ne.symm (ns_ne_cell hm c)))
      | free a b c => exact .free a b (c.sameBut hs' (Ne.symm (ns_ne_cell hm c)))
  · obtain ⟨c, v₀, hc, hv⟩ := ok.cell x (.inl hk)
    refine wpAny_storeName_cell ok.fn hk hc hv fun h' hc' hs' => ?_
    refine hQ h' s.toks c (.inr ⟨hk, hc⟩) (fun o e => cell_not_seq hv e) (fun b o hb e => hs'.extBut b o hb e) ?_ (.cell hk hc hc') ?_
    · refine ⟨ok.fn, ok.glob, ok.blt, ⟨m, hm.sameBut hs' (ns_ne_cell hm hv)⟩, fun y hy => ?_, ok.inj⟩
      obtain ⟨c', v', hc2, hv2⟩ := ok.cell y hy
      by_cases e : c' = c
      · subst e; exact ⟨c', some v, hc2, hc'⟩
      · exact ⟨c', v', hc2, hv2.sameBut hs' e⟩
    · intro y u hy l
      cases l with
      | loc a b d => exact .loc a (b.sameBut hs' (ns_ne_cell b hv)) d
      | cell a b d => exact .cell a b (d.sameBut hs' (fun e => hy (ok.inj y x c (e ▸ b) hc)))
      | free a b d => exact .free a b (d.sameBut hs' (fun e => hy (ok.inj y x c (e ▸ b) hc)))
theorem load_ok {M : Model} {A : Around} {E : Value → Shared → Prop} {s : Shared} {env : Env} {x : Str} {v : Value} {Q : Value → Shared → Prop} (hk : env.scope.kind = .function) (l : Loads env s.heap x v)
    (hn : (x == ("__classdict__" : Str)) = false) (hQ : Q v s) : wpAny M A (loadName env x) Q E s := by
  cases l with
  | loc a b c => exact wpAny_loadName_local hk a b c hQ
  | cell a b c => exact wpAny_loadName_cell hk a b c hQ
  | free a b c => exact wpAny_loadName_free hk a b c hQ hn
theorem keeps_refl (s : Shared) : Keeps s s := ⟨s.heap, s.toks, rfl, fun _ _ e => e⟩
theorem keeps_trans {s s' s'' : Shared} : Keeps s s' → Keeps s' s'' → Keeps s s'' := by
  rintro ⟨h, t, rfl, k⟩ ⟨h', t', rfl, k'⟩
  exact ⟨h', t', rfl, fun b o e => k' b o (k b o e)⟩
theorem keeps_toks (s : Shared) (t : Nat) : Keeps s { s with toks := t } := ⟨s.heap, t, rfl, fun _ _ e => e⟩
theorem keeps_get {s s' : Shared} (k : Keeps s s') : ∀ b o, s.heap.get? b = some o → s'.heap.get? b = some o := by
  obtain ⟨h, t, rfl, k⟩ := k; exact k
theorem keeps_push {s : Shared} {o : Obj} : Keeps s { s with heap := s.heap.push o } := ⟨_, _, rfl, fun _ _ e => Heap.get?_push_of_some _ e⟩
noncomputable abbrev LIM : Nat := 1000000
theorem lim_le {n : Nat} (h : n ≤ LIM) : n ≤ sizeLine := Nat.le_trans h (by decide)
noncomputable def AvOK (Av : List Addr) (h : Heap) : Prop := ∀ a ∈ Av, ∃ o, h.get? a = some o
theorem AvOK.fresh {Av h} (x : AvOK Av h) : h.objs.size ∉ Av := fun hm => by
  obtain ⟨o, e⟩ := x _ hm
  exact Nat.lt_irrefl _ (Heap.lt_size e)
theorem AvOK.keeps {Av h h'} (hk : ∀ a o, h.get? a = some o → h'.get? a = some o) (x : AvOK Av h) : AvOK Av h' := fun a ha => let ⟨o, e⟩ := x a ha; ⟨o, hk _ _ e⟩
noncomputable def Post (Av : List Addr) (s : Shared) (d : PyData) : Value → Shared → Prop := fun v s' => Keeps s s' ∧ Rep Av s'.heap v d
theorem rep_newList {Av : List Addr} {s : Shared} {vs : Array Value} {xs : List PyData} (av : AvOK Av s.heap) (r : RepAll Av s.heap vs.toList xs) :
    Post Av s (.list xs) (.ref s.heap.objs.size) { s with heap := s.heap.push { cls := .type "list", data := .seq vs } } :=
  ⟨keeps_push, .list av.fresh (Heap.get?_push_size _ rfl) (r.keeps fun _ _ e => Heap.get?_push_of_some _ e)⟩
theorem rep_newTup {Av : List Addr} {s : Shared} {vs : Array Value} {xs : List PyData} (av : AvOK Av s.heap) (r : RepAll Av s.heap vs.toList xs) :
    Post Av s (.tuple xs) (.ref s.heap.objs.size) { s with heap := s.heap.push { cls := .type "tuple", data := .seq vs } } :=
  ⟨keeps_push, .tuple av.fresh (Heap.get?_push_size _ rfl) (r.keeps fun _ _ e => Heap.get?_push_of_some _ e)⟩
noncomputable def abin : Operator → PyData → PyData → Option PyData
  | .Add, .str x, .str y => if x.length + y.length ≤ LIM then some (.str (x ++ y)) else none
  | .Add, .list xs, .list ys => if xs.length + ys.length ≤ LIM then some (.list (xs ++ ys)) else none
  | .Add, .int x, .int y => some (.int (x + y))
  | .Sub, .bool p, .bool q => some (.int (b2i p - b2i q))
  | .FloorDiv, .int x, .int y => if 0 < y ∧ y ≤ 1000 then some (.int (x.fdiv y)) else none
  | .Mod, .int x, .int y => if 0 < y ∧ y ≤ 1000 then some (.int (x.fmod y)) else none
  | .Pow, .int x, .int n => if x = 27 ∧ 0 ≤ n ∧ n ≤ 3 then some (.int (27 ^ n.toNat)) else none
  | _, _, _ => none
section
variable {prog : Program} {w : World} {A : Around} {E : Value → Shared → Prop} {s : Shared} {Av : List Addr}
theorem ite_some {P : Prop} [Decidable P] {γ : Type} {a : Option γ} {c : γ} (h : (if P then a else none) = some c) : P ∧ a = some c := by
  by_cases q : P
  · rw [if_pos q] at h; exact ⟨q, h⟩
  · rw [if_neg q] at h; exact none_no h
theorem abin_add {a b : Value} {da db d : PyData} (av : AvOK Av s.heap) (ra : Rep Av s.heap a da) (rb : Rep Av s.heap b db) (h : abin .Add da db = some d) : wpAny (model prog w) A (binaryOp .Add a b) (Post Av s d) E s := by
  cases ra with
  | int x t => cases rb with
    | int y u => cases h; exact PyProof.Rows.add_int ⟨keeps_toks _ _, .int _ _⟩
    | _ => exact none_no h
  | str x t => cases rb with
    | str y u =>
      obtain ⟨hl, h⟩ := ite_some h
      cases h
      exact PyProof.Rows.add_str (fun t' tk => ⟨keeps_toks _ _, .str _ _⟩) (lim_le hl)
    | _ => exact none_no h
  | list a1 a2 a3 => cases rb with
    | list b1 b2 b3 =>
      obtain ⟨hl, h⟩ := ite_some h
      cases h
      refine P.add_list a2 b2 ?_ (by have e1 := a3.length; have e2 := b3.length; rw [Array.length_toList] at e1 e2; rw [e1, e2]; exact lim_le hl)
      exact rep_newList av (by simpa using a3.append b3)
    | _ => exact none_no h
  | _ => exact none_no h
theorem pow_27 {n : Int} (h0 : 0 ≤ n) (h3 : n ≤ 3) : (Builtin.Int.intBits 27 : Int) * n ≤ 2 ^ 27 := by
  have : (Builtin.Int.intBits 27 : Int) ≤ 5 := by decide +kernel
  calc (Builtin.Int.intBits 27 : Int) * _ ≤ 5 * 3 := Int.mul_le_mul this h3 h0 (by decide)
    _ ≤ 2 ^ 27 := by decide
theorem ne_pos {y : Int} (h : 0 < y) : y ≠ 0 := by omega
theorem small_abs {i : Int} (h : 0 < i ∧ i ≤ 1000) : i.natAbs < 1073741824 := by omega
theorem abin_ok {op : Operator} {a b : Value} {da db d : PyData} (av : AvOK Av s.heap) (ra : Rep Av s.heap a da) (rb : Rep Av s.heap b db) (h : abin op da db = some d) :
    wpAny (model prog w) A (binaryOp op a b) (Post Av s d) E s := by
  cases op with
  | Add => exact abin_add av ra rb h
  | Sub => cases ra with
    | bool p => cases rb with
      | bool q => cases h; exact sub_bool ⟨keeps_toks _ _, .int _ _⟩
      | _ => exact none_no h
    | _ => exact none_no h
  | FloorDiv => cases ra with
    | int x t => cases rb with
      | int y u =>
        obtain ⟨hl, h⟩ := ite_some h
        cases h
        exact floordiv_int (ne_pos hl.1) ⟨keeps_toks _ _, .int _ _⟩ (.inl (PyProof.noPylong_small (small_abs hl)))
      | _ => exact none_no h
    | _ => exact none_no h
  | Mod => cases ra with
    | int x t => cases rb with
      | int y u =>
        obtain ⟨hl, h⟩ := ite_some h
        cases h
        exact mod_int' (ne_pos hl.1) ⟨keeps_toks _ _, .int _ _⟩
      | _ => exact none_no h
    | _ => exact none_no h
  | Pow => cases ra with
    | int x t => cases rb with
      | int y u =>
        obtain ⟨hc, h'⟩ := ite_some h
        clear h
        obtain ⟨rfl, h0, h3⟩ := hc
        cases h'
        exact pow_int h0 (pow_27 h0 h3) ⟨keeps_toks _ _, .int _ _⟩
      | _ => exact none_no h
    | _ => exact none_no h
  | _ => exact none_no h
end
noncomputable def sEq : PyData → PyData → Option Bool
  | .str x, .str y => some (x == y)
  | .int x, .int y => some (x == y)
  | _, _ => none
noncomputable def opt2 {α β γ : Type} (f : α → β → γ) : Option α → Option β → Option γ
  | some a, some b => some (f a b)
  | _, _ => none
theorem opt2_some {α β γ : Type} {f : α → β → γ} {a : Option α} {b : Option β} {c : γ} (h : opt2 f a b = some c) : ∃ x y, a = some x ∧ b = some y ∧ f x y = c := by
  cases a with
  | none => exact none_no h
  | some x => cases b with
    | none => exact none_no h
    | some y => exact ⟨x, y, rfl, rfl, Option.some.inj h⟩
noncomputable def lEq : List PyData → List PyData → Option Bool
  | [], [] => some true
  | x :: xs, y :: ys => opt2 and (sEq x y) (lEq xs ys)
  | [], _ :: _ => some false
  | _ :: _, [] => some false
noncomputable def aEq : PyData → PyData → Option Bool
  | .list xs, .list ys => lEq xs ys
  | x, y => sEq x y
noncomputable def aIn (x : PyData) : List PyData → Option Bool
  | [] => some false
  | y :: ys => opt2 or (sEq y x) (aIn x ys)
noncomputable def aIs : PyData → PyData → Option Bool
  | .none, .none => some true
  | .str _, .none => some false
  | .bool p, .bool q => some (p == q)
  | _, _ => none
noncomputable def acmp : CmpOp → PyData → PyData → Option Bool
  | .Eq, x, y => aEq x y
  | .NotEq, x, y => (aEq x y).map not
  | .Lt, .str x, .str y => some (decide (x.cps.toList < y.cps.toList))
  | .Gt, .str x, .str y => some (decide (y.cps.toList < x.cps.toList))
  | .Gt, .int x, .int y => some (decide (y < x))
  | .GtE, .int x, .int y => some (decide (y ≤ x))
  | .In, x, .list ys => aIn x ys
  | .NotIn, x, .list ys => (aIn x ys).map not
  | .Is, x, y => aIs x y
  | .IsNot, x, y => (aIs x y).map not
  | _, _, _ => none
section
variable {prog : Program} {w : World} {A : Around} {E : Value → Shared → Prop} {s : Shared} {Av Av' : List Addr}
theorem sEq_at {a b : Value} {da db : PyData} {k : Bool} (ra : Rep Av s.heap a da) (rb : Rep Av' s.heap b db) (h : sEq da db = some k) : SeqAt.EqAt A s a b k := by
  cases ra with
  | int x t => cases rb with
    | int y u => cases h; exact SeqAt.EqAt.int_int _ _ _ _
    | _ => exact none_no h
  | str x t => cases rb with
    | str y u => cases h; exact SeqAt.EqAt.str_str _ _ _ _
    | _ => exact none_no h
  | _ => exact none_no h
theorem lEq_at {vs ws : List Value} {xs ys : List PyData} {k : Bool} (ra : RepAll Av s.heap vs xs) (rb : RepAll Av' s.heap ws ys) (h : lEq xs ys = some k) (hl : vs.length = ws.length) :
    ∃ e : Nat → Bool, (∀ j (j1 : j < vs.length) (j2 : j < ws.length), SeqAt.EqAt A s vs[j] ws[j] (e j)) ∧ (List.range vs.length).all e = k := by
  refine ra.ind (P := fun vs xs => ∀ ws ys k, RepAll Av' s.heap ws ys → lEq xs ys = some k → vs.length = ws.length →
    ∃ e : Nat → Bool, (∀ j (j1 : j < vs.length) (j2 : j < ws.length), SeqAt.EqAt A s vs[j] ws[j] (e j)) ∧ (List.range vs.length).all e = k) ?_ ?_ ws ys k rb h hl
  · intro ws ys k rb h hl
    cases rb with
    | nil => exact ⟨fun _ => true, fun j j1 => absurd j1 (Nat.not_lt_zero _), Option.some.inj h⟩
    | cons _ _ => exact absurd hl.symm (Nat.succ_ne_zero _)
  · intro v vs x xs a _ ih ws ys k rb h hl
    cases rb with
    | nil => exact absurd hl (Nat.succ_ne_zero _)
    | cons b bs =>
      obtain ⟨b1, b2, h1, h2, h3⟩ := opt2_some h
      obtain ⟨e, he, hk⟩ := ih _ _ _ bs h2 (Nat.succ.inj hl)
      refine ⟨fun j => Nat.casesOn j b1 e, fun j j1 j2 => ?_, ?_⟩
      · cases j with
        | zero => exact sEq_at a b h1
        | succ j => exact he j (Nat.lt_of_succ_lt_succ j1) (Nat.lt_of_succ_lt_succ j2)
      · rw [List.length_cons, List.range_succ_eq_map, List.all_cons, List.all_map, ← h3, ← hk]; rfl
theorem lEq_len {xs ys : List PyData} {k : Bool} (h : lEq xs ys = some k) (hn : xs.length ≠ ys.length) : k = false := by
  induction xs generalizing ys k with
  | nil => cases ys with
    | nil => exact absurd rfl hn
    | cons _ _ => exact (Option.some.inj h).symm
  | cons x xs ih => cases ys with
    | nil => exact (Option.some.inj h).symm
    | cons y ys =>
      obtain ⟨b1, b2, h1, h2, h3⟩ := opt2_some h
      rw [← h3, ih h2 (fun e => hn (congrArg Nat.succ e)), Bool.and_false]
theorem aEq_rc {a b : Value} {da db : PyData} {k : Bool} (hu : A.units + 2 < cLine) (ra : Rep Av s.heap a da) (rb : Rep Av' s.heap b db) (h : aEq da db = some k) : SeqAt.RcAt A s a b k := by
  cases ra with
  | @list l items n _ a1 a2 a3 => cases rb with
    | @list l' items' n' _ b1 b2 b3 =>
        have hl : s.heap.IsList l items := ⟨_, a2, rfl, _, rfl⟩
        have hl' : s.heap.IsList l' items' := ⟨_, b2, rfl, _, rfl⟩
        by_cases hsz : items.size = items'.size
        · obtain ⟨e, he, hk⟩ := lEq_at (A := A.in1) a3 b3 h (by simpa using hsz)
          have := SeqAt.RcAt.lists (A := A) (e := e) hl hl' hsz (by omega) (fun j j1 j2 => he j (by simpa using j1) (by simpa using j2))
          rwa [← hk]
        · have hk := lEq_len h (by have e1 := a3.length; have e2 := b3.length; simp at e1 e2; omega)
          subst hk
          exact SeqAt.RcAt.lists_lengths hl hl' (by simpa using hsz) (by omega)
    | _ => exact none_no h
  | int x t => cases rb with
    | int y u => cases h; exact fun prog w E Q hq => PyProof.Rows.eq_int hq
    | _ => exact none_no h
  | str x t => cases rb with
    | str y u => cases h; exact fun prog w E Q hq => PyProof.Rows.eq_str hq
    | _ => exact none_no h
  | _ => cases rb <;> exact none_no h
theorem aEq_ne {a b : Value} {da db : PyData} {k : Bool} (hu : A.units + 2 < cLine) (ra : Rep Av s.heap a da) (rb : Rep Av' s.heap b db) (h : aEq da db = some k) : SeqAt.RcNeAt A s a b (!k) := by
  cases ra with
  | @list l items n _ a1 a2 a3 => cases rb with
    | @list l' items' n' _ b1 b2 b3 =>
        have hl : s.heap.IsList l items := ⟨_, a2, rfl, _, rfl⟩
        have hl' : s.heap.IsList l' items' := ⟨_, b2, rfl, _, rfl⟩
        by_cases hsz : items.size = items'.size
        · obtain ⟨e, he, hk⟩ := lEq_at (A := A.in1) a3 b3 h (by simpa using hsz)
          have := SeqAt.RcNeAt.lists (A := A) (e := e) hl hl' hsz (by omega) (fun j j1 j2 => he j (by simpa using j1) (by simpa using j2))
          rwa [← hk]
        · have hk := lEq_len h (by have e1 := a3.length; have e2 := b3.length; simp at e1 e2; omega)
          subst hk
          exact SeqAt.RcNeAt.lists_lengths hl hl' (by simpa using hsz) (by omega)
    | _ => exact none_no h
  | int x t => cases rb with
    | int y u => cases h; exact fun prog w E Q hq => PyProof.Rows.ne_int hq
    | _ => exact none_no h
  | str x t => cases rb with
    | str y u => cases h; exact fun prog w E Q hq => PyProof.Rows.ne_str hq
    | _ => exact none_no h
  | _ => cases rb <;> exact none_no h
noncomputable def vEq : Value → Value → Bool
  | .str a _, .str b _ => a == b
  | .int a _, .int b _ => a == b
  | _, _ => false
theorem sEq_v {h h' : Heap} {a b : Value} {da db : PyData} {k : Bool} (ra : Rep Av h a da) (rb : Rep Av' h' b db) (hh : sEq da db = some k) : vEq a b = k := by
  cases ra with
  | int x t => cases rb with
    | int y u => cases hh; rfl
    | _ => exact none_no hh
  | str x t => cases rb with
    | str y u => cases hh; rfl
    | _ => exact none_no hh
  | _ => exact none_no hh
theorem aIn_at {x : Value} {dx : PyData} (rx : Rep Av' s.heap x dx) {vs : List Value} {ys : List PyData} {k : Bool} (ra : RepAll Av s.heap vs ys) (h : aIn dx ys = some k) :
    (∀ y, y ∈ vs → SeqAt.EqAt A s y x (vEq y x)) ∧ vs.any (vEq · x) = k := by
  refine ra.ind (P := fun vs ys => ∀ k, aIn dx ys = some k → (∀ y, y ∈ vs → SeqAt.EqAt A s y x (vEq y x)) ∧ vs.any (vEq · x) = k) ?_ ?_ k h
  · exact fun k h => ⟨fun _ hy => absurd hy List.not_mem_nil, Option.some.inj h⟩
  · intro v vs y ys a _ ih k h
    obtain ⟨b1, b2, h1, h2, h3⟩ := opt2_some h
    obtain ⟨e1, e2⟩ := ih _ h2
    have hv := sEq_v a rx h1
    refine ⟨fun z hz => ?_, ?_⟩
    · rcases List.mem_cons.mp hz with rfl | hz
      · rw [hv]; exact sEq_at a rx h1
      · exact e1 z hz
    · rw [List.any_cons, e2, hv, ← h3]
theorem aIn_ok {x : Value} {dx : PyData} {l : Addr} {items : Array Value} {n : Nat} {ys : List PyData} {k : Bool} {Q : Value → Shared → Prop} (rx : Rep Av' s.heap x dx) (hl : s.heap.get? l = some (listObj items n))
    (rs : RepAll Av s.heap items.toList ys) (h : aIn dx ys = some k) (hq : Q (.bool k) s) : wpAny (model prog w) A (compareOp .In x (.ref l)) Q E s := by
  obtain ⟨e1, e2⟩ := aIn_at (A := A.in1) rx rs h
  refine SeqAt.in_listAt (vEq · x) ⟨_, hl, rfl, _, rfl⟩ (fun y hy => e1 y (by simpa using hy)) ?_
  rw [← Array.any_toList, e2]; exact hq
theorem aNotIn_ok {x : Value} {dx : PyData} {l : Addr} {items : Array Value} {n : Nat} {ys : List PyData} {k : Bool} {Q : Value → Shared → Prop} (rx : Rep Av' s.heap x dx) (hl : s.heap.get? l = some (listObj items n))
    (rs : RepAll Av s.heap items.toList ys) (h : aIn dx ys = some k) (hq : Q (.bool (!k)) s) : wpAny (model prog w) A (compareOp .NotIn x (.ref l)) Q E s := by
  obtain ⟨e1, e2⟩ := aIn_at (A := A.in1) rx rs h
  refine SeqAt.notIn_listAt (vEq · x) ⟨_, hl, rfl, _, rfl⟩ (fun y hy => e1 y (by simpa using hy)) ?_
  rw [← Array.any_toList, e2]; exact hq
theorem aIs_v {h h' : Heap} {a b : Value} {da db : PyData} {k : Bool} (ra : Rep Av h a da) (rb : Rep Av' h' b db) (hh : aIs da db = some k) : plainIs a b = true ∧ (a == b) = k := by
  cases ra with
  | none => cases rb with
    | none => cases hh; exact ⟨rfl, rfl⟩
    | _ => exact none_no hh
  | bool p => cases rb with
    | bool q => cases hh; cases p <;> cases q <;> exact ⟨rfl, rfl⟩
    | _ => exact none_no hh
  | str x t => cases rb with
    | none => cases hh; exact ⟨rfl, rfl⟩
    | _ => exact none_no hh
  | _ => exact none_no hh
theorem acmp_ok {op : CmpOp} {a b : Value} {da db : PyData} {k : Bool} {Q : Value → Shared → Prop} (hu : A.units + 2 < cLine) (ra : Rep Av s.heap a da) (rb : Rep Av' s.heap b db) (h : acmp op da db = some k)
    (hq : Q (.bool k) s) : wpAny (model prog w) A (compareOp op a b) Q E s := by
  cases op with
  | Eq => exact aEq_rc hu ra rb h prog w E Q hq
  | NotEq =>
    obtain ⟨k', hk, rfl⟩ := Option.map_eq_some_iff.mp h
    exact aEq_ne hu ra rb hk prog w E Q hq
  | Lt => cases ra with
    | str x t => cases rb with
      | str y u => cases h; exact PyProof.Rows.lt_str hq
      | _ => exact none_no h
    | _ => exact none_no h
  | Gt => cases ra with
    | str x t => cases rb with
      | str y u => cases h; exact P.gt_str hq
      | _ => exact none_no h
    | int x t => cases rb with
      | int y u => cases h; exact PyProof.Rows.gt_int hq
      | _ => exact none_no h
    | _ => exact none_no h
  | GtE => cases ra with
    | int x t => cases rb with
      | int y u => cases h; exact PyProof.Rows.ge_int hq
      | _ => exact none_no h
    | _ => exact none_no h
  | In => cases rb with
    | list b1 b2 b3 => exact aIn_ok ra b2 b3 h hq
    | _ => exact none_no h
  | NotIn => cases rb with
    | list b1 b2 b3 =>
      obtain ⟨k', hk, rfl⟩ := Option.map_eq_some_iff.mp h
      exact aNotIn_ok ra b2 b3 hk hq
    | _ => exact none_no h
  | Is =>
    obtain ⟨e1, e2⟩ := aIs_v ra rb h
    exact wpAny_is_plain e1 (by rw [e2]; exact hq)
  | IsNot =>
    obtain ⟨k', hk, rfl⟩ := Option.map_eq_some_iff.mp h
    obtain ⟨e1, e2⟩ := aIs_v ra rb hk
    exact wpAny_isNot_plain e1 (by rw [e2]; exact hq)
  | _ => exact none_no h
end
noncomputable def asub : PyData → PyData → Option PyData
  | .list xs, .int i => if 0 ≤ i ∧ i < 1000 then xs[i.toNat]? else none
  | .str x, .int i => if -1000 ≤ i ∧ i < 1000 then ((seqIndex? i x.length).bind (x.cps[·]?)).map fun c => .str ⟨#[c]⟩ else none
  | _, _ => none
noncomputable def subStr (x : Str) (l : List Nat) : Str := ⟨(l.filterMap (x.cps[·]?)).toArray⟩
noncomputable def aslice : PyData → Option Int → Option Int → Option Int → Option PyData
  | .list xs, none, some k, none => if 0 ≤ k ∧ xs.length ≤ LIM then some (.list (xs.take k.toNat)) else none
  | .list xs, some k, none, none => if 0 ≤ k ∧ xs.length ≤ LIM then some (.list (xs.drop k.toNat)) else none
  | .list xs, none, none, some c => if c = -1 ∧ xs.length ≤ LIM then some (.list xs.reverse) else none
  | .list xs, none, some k, some c => if k = 0 ∧ c = -1 ∧ xs.length ≤ LIM then some (.list (xs.drop 1).reverse) else none
  | .str x, none, some k, none => if 0 ≤ k ∧ x.length ≤ LIM then some (.str ⟨(x.cps.toList.take k.toNat).toArray⟩) else none
  | .str x, some k, none, none => if 0 ≤ k ∧ x.length ≤ LIM then some (.str ⟨(x.cps.toList.drop k.toNat).toArray⟩) else none
  | _, _, _, _ => none
theorem fm_congr {α β : Type} {f g : α → Option β} : ∀ {l : List α}, (∀ x ∈ l, f x = g x) → l.filterMap f = l.filterMap g
  | [], _ => rfl
  | a :: l, h => by
    rw [List.filterMap_cons, List.filterMap_cons, h a (by simp), fm_congr (l := l) fun x hx => h x (by simp [hx])]
theorem rev0_bounds (n : Nat) : sliceBounds none (some 0) (some (-1)) n = ((n : Int) - 1, min 0 ((n : Int) - 1), -1) := by
  refine Prod.ext rfl (Prod.ext ?_ rfl)
  show max (-1) (min 0 ((n : Int) - 1)) = _
  exact Int.max_eq_right (Int.le_min.mpr ⟨by decide, by omega⟩)
theorem rev0_range (m : Nat) : sliceRange (((m + 1 : Nat) : Int) - 1) (min 0 (((m + 1 : Nat) : Int) - 1)) (-1) = (List.range m).map fun k : Nat => m - k := by
  have e0 : (((m + 1 : Nat) : Int) - 1) = (m : Int) := by omega
  have e1 : min 0 (m : Int) = 0 := Int.min_eq_left (Int.natCast_nonneg m)
  unfold sliceRange
  rw [e0, e1, if_neg (by decide)]
  have e2 : (if (m : Int) > 0 then ((m : Int) - 0 - (-1) - 1) / (-(-1)) else 0).toNat = m := by
    by_cases h : (m : Int) > 0
    · rw [if_pos h, show (-(-1) : Int) = 1 from rfl, Int.ediv_one]; omega
    · rw [if_neg h]; omega
  dsimp only
  rw [e2]
  exact List.map_congr_left fun k _ => by omega
theorem pick_rev0 (items : Array Value) : slicePick items none (some 0) (some (-1)) = (items.toList.drop 1).reverse.toArray := by
  unfold slicePick
  rw [rev0_bounds]
  congr 1
  obtain ⟨l⟩ := items
  cases l with
  | nil => rfl
  | cons a l =>
    show List.filterMap _ (sliceRange (((l.length + 1 : Nat) : Int) - 1) (min 0 (((l.length + 1 : Nat) : Int) - 1)) (-1)) = _
    rw [rev0_range, List.filterMap_map]
    show _ = l.reverse
    have h1 : (List.range l.length).filterMap ((fun x => (a :: l).toArray[x]?) ∘ fun k : Nat => l.length - k) = (List.range l.length).filterMap fun k => l.reverse[k]? :=
      fm_congr fun k hk => by
        have hk' := List.mem_range.mp hk
        show (a :: l).toArray[l.length - k]? = _
        rw [List.getElem?_toArray, List.getElem?_reverse hk', show l.length - k = (l.length - 1 - k) + 1 by omega, List.getElem?_cons_succ]
    rw [h1, ← List.length_reverse]
    exact List.filterMap_getElem?_range_length l.reverse
theorem clip_nat (k n : Nat) : max 0 (min (if (k : Int) < 0 then (k : Int) + (n : Int) else (k : Int)) (n : Int)) = ((min k n : Nat) : Int) := by
  rw [if_neg (Int.not_lt.mpr (Int.natCast_nonneg k))]
  rcases Nat.le_total k n with h | h
  · rw [Nat.min_eq_left h, Int.min_eq_left (Int.ofNat_le.mpr h)]
    exact Int.max_eq_right (Int.natCast_nonneg _)
  · rw [Nat.min_eq_right h, Int.min_eq_right (Int.ofNat_le.mpr h)]
    exact Int.max_eq_right (Int.natCast_nonneg _)
theorem idx_from (k n : Nat) : Builtin.Str.strSliceIndices (some (k : Int)) none 1 n = (List.range (n - min k n)).map (min k n + ·) := by
  rw [← sliceRange_one, ← clip_nat]; rfl
theorem idx_upto (k n : Nat) : Builtin.Str.strSliceIndices none (some (k : Int)) 1 n = (List.range (min k n - 0)).map (0 + ·) := by
  rw [← sliceRange_one, ← clip_nat]; rfl
theorem cps_len (x : Str) : x.cps.toList.length = x.length := Array.length_toList
theorem str_from (x : Str) (k : Nat) : (Builtin.Str.strSliceIndices (some (k : Int)) none 1 x.length).filterMap (x.cps[·]?) = x.cps.toList.drop k := by
  rw [idx_from, pick_run, List.take_of_length_le (by rw [List.length_drop, cps_len]; exact Nat.le_refl _)]
  by_cases hk : k ≤ x.length
  · rw [Nat.min_eq_left hk]
  · rw [Nat.min_eq_right (Nat.le_of_not_le hk), ← cps_len, List.drop_length, List.drop_of_length_le (by rw [cps_len]; exact Nat.le_of_not_le hk)]
theorem str_upto (x : Str) (k : Nat) : (Builtin.Str.strSliceIndices none (some (k : Int)) 1 x.length).filterMap (x.cps[·]?) = x.cps.toList.take k := by
  rw [idx_upto, pick_run, List.drop_zero, Nat.sub_zero]
  by_cases hk : k ≤ x.length
  · rw [Nat.min_eq_left hk]
  · rw [Nat.min_eq_right (Nat.le_of_not_le hk), ← cps_len, List.take_length, List.take_of_length_le (by rw [cps_len]; exact Nat.le_of_not_le hk)]
section
variable {prog : Program} {w : World} {A : Around} {E : Value → Shared → Prop} {s : Shared} {Av : List Addr}
theorem asub_ok {o i : Value} {dx di d : PyData} (ro : Rep Av s.heap o dx) (ri : Rep Av s.heap i di) (h : asub dx di = some d) : wpAny (model prog w) A (getItem o i) (Post Av s d) E s := by
  cases ro with
  | @list l items n _ a1 a2 a3 => cases ri with
    | int i t =>
      obtain ⟨hb, h⟩ := ite_some h
      obtain ⟨v, hv, rv⟩ := a3.get' h
      exact wpAny_getItem_list ⟨_, a2, rfl, _, rfl⟩ hb.1 (by omega) (by simpa using hv) ⟨keeps_refl _, rv⟩
    | _ => exact none_no h
  | str x u => cases ri with
    | int i t =>
      obtain ⟨hb, h⟩ := ite_some h
      obtain ⟨c, hc, rfl⟩ := Option.map_eq_some_iff.mp h
      exact P.getItem_str (by simp; omega) hc ⟨keeps_toks _ _, .str _ _⟩
    | _ => exact none_no h
  | _ => exact none_no h
theorem asub_type {o : Value} {dx di d : PyData} (ro : Rep Av s.heap o dx) (h : asub dx di = some d) : ∃ T id, s.TypeIs o T ∧ typeLookup (.type T) "__getitem__" = pure (some (.builtin id)) := by
  cases ro with
  | list a1 a2 a3 => exact ⟨"list", _, ⟨_, a2, rfl⟩, list_getitem_lookup⟩
  | str _ _ => exact ⟨"str", _, typeIs_str _ _ _, F.slot_str_getitem.lookup⟩
  | _ => exact none_no h
theorem aslice_type {o : Value} {dx d : PyData} {lo hi st : Option Int} (ro : Rep Av s.heap o dx) (h : aslice dx lo hi st = some d) : ∃ T id, s.TypeIs o T ∧ typeLookup (.type T) "__getitem__" = pure (some (.builtin id)) := by
  cases ro with
  | list a1 a2 a3 => exact ⟨"list", _, ⟨_, a2, rfl⟩, list_getitem_lookup⟩
  | str _ _ => exact ⟨"str", _, typeIs_str _ _ _, F.slot_str_getitem.lookup⟩
  | _ => exact none_no h
inductive PartIs : Value → Option Int → Prop
  | none : PartIs .none none
  | int (i t) : PartIs (.int i t) (some i)
theorem PartIs.part {v o} : PartIs v o → IsPart v o
  | .none => .none
  | .int i t => .int i t
theorem aslice_list {l sl : Addr} {items : Array Value} {n : Nat} {xs : List PyData} {d : PyData} {vl vu vs : Value} {lo hi st : Option Int} (av : AvOK Av s.heap) (a2 : s.heap.get? l = some (listObj items n)) (a3 : RepAll Av s.heap items.toList xs)
    (hso : s.heap.IsSliceOf sl vl vu vs) (pl : PartIs vl lo) (pu : PartIs vu hi) (ps : PartIs vs st) (h : aslice (.list xs) lo hi st = some d) :
    wpAny (model prog w) A (getItem (.ref l) (.ref sl)) (Post Av s d) E s := by
  have fin : ∀ ys, RepAll Av s.heap (slicePick items lo hi st).toList ys → st ≠ some 0 → xs.length ≤ LIM → wpAny (model prog w) A (getItem (.ref l) (.ref sl)) (Post Av s (.list ys)) E s := fun ys hy h0 hl =>
    wpAny_getItem_list_slice ⟨_, a2, rfl, _, rfl⟩ hso pl.part pu.part ps.part h0 (rep_newList av hy) (by rw [← Array.length_toList, a3.length]; exact lim_le hl)
  clear hso pl pu ps
  cases lo with
  | none => cases hi with
    | none => cases st with
      | none => exact none_no h
      | some c =>
        obtain ⟨hb, h'⟩ := ite_some h
        clear h
        obtain ⟨rfl, hl⟩ := hb
        cases h'
        exact fin _ (by rw [krv_pick]; exact a3.reverse) (by simp) hl
    | some k => cases st with
      | none =>
        obtain ⟨hb, h⟩ := ite_some h
        cases h
        obtain ⟨k, rfl⟩ := Int.eq_ofNat_of_zero_le hb.1
        exact fin _ (by rw [slicePick_upto']; exact a3.take k) (by simp) hb.2
      | some c =>
        obtain ⟨hb, h'⟩ := ite_some h
        clear h
        obtain ⟨rfl, rfl, hl⟩ := hb
        cases h'
        exact fin _ (by rw [pick_rev0]; exact (a3.drop 1).reverse) (by simp) hl
  | some k => cases hi with
    | none => cases st with
      | none =>
        obtain ⟨hb, h⟩ := ite_some h
        cases h
        obtain ⟨k, rfl⟩ := Int.eq_ofNat_of_zero_le hb.1
        exact fin _ (by rw [slicePick_from']; exact a3.drop k) (by simp) hb.2
      | some c => exact none_no h
    | some _ => exact none_no h
theorem made_ok {x : Str} {t : Tok} {l u : Option (Int × Tok)} {ls : List Nat} (e : (slicePicked x l u none).filterMap (x.cps[·]?) = ls) (h : (slicePicked x l u none).length = x.length → ls = x.cps.toList) (hl : ls.length ≤ sizeLine) :
    (sliceMade x t l u none).post (Post Av s (.str ⟨ls.toArray⟩)) s := by
  unfold sliceMade
  rw [e]
  by_cases hc : (((none : Option (Int × Tok)).map (·.1)).getD 1 == 1 && (slicePicked x l u none).length == x.length) = true
  · rw [if_pos hc]
    have hl : (slicePicked x l u none).length = x.length := by simpa using hc
    refine ⟨keeps_refl _, ?_⟩
    rw [h hl]
    exact .str _ _
  · rw [if_neg hc]
    exact ⟨hl, keeps_toks _ _, .str _ _⟩
theorem aslice_str {x : Str} {t : Tok} {sl : Addr} {d : PyData} {vl vu vs : Value} {lo hi st : Option Int} (hs : s.heap.get? sl = some { cls := .type "slice", data := .fields #[vl, vu, vs] })
    (pl : PartIs vl lo) (pu : PartIs vu hi) (ps : PartIs vs st) (h : aslice (.str x) lo hi st = some d) : wpAny (model prog w) A (getItem (.str x t) (.ref sl)) (Post Av s d) E s := by
  cases lo with
  | none => cases hi with
    | none => cases st <;> exact none_no h
    | some k => cases st with
      | some _ => exact none_no h
      | none =>
        obtain ⟨hb, h⟩ := ite_some h
        cases h
        cases pl; cases ps
        cases pu with
        | int _ u =>
        obtain ⟨k, rfl⟩ := Int.eq_ofNat_of_zero_le hb.1
        refine wpAny_getItem_str_slice (l := none) (u := some ((k : Int), u)) (st := none) ⟨_, hs, rfl, rfl⟩ rfl (made_ok (str_upto x k) (fun hl => ?_) (Nat.le_trans (List.length_take_le' _ _) (by rw [cps_len]; exact lim_le hb.2)))
        have hl' : (Builtin.Str.strSliceIndices none (some (k : Int)) 1 x.length).length = x.length := hl
        rw [idx_upto, List.length_map, List.length_range, Nat.sub_zero] at hl'
        exact List.take_of_length_le (by rw [cps_len]; omega)
  | some k => cases hi with
    | some _ => cases st <;> exact none_no h
    | none => cases st with
      | some _ => exact none_no h
      | none =>
        obtain ⟨hb, h⟩ := ite_some h
        cases h
        cases pu; cases ps
        cases pl with
        | int _ u =>
        obtain ⟨k, rfl⟩ := Int.eq_ofNat_of_zero_le hb.1
        refine wpAny_getItem_str_slice (l := some ((k : Int), u)) (u := none) (st := none) ⟨_, hs, rfl, rfl⟩ rfl (made_ok (str_from x k) (fun hl => ?_) (Nat.le_trans (by rw [List.length_drop]; exact Nat.sub_le _ _) (by rw [cps_len]; exact lim_le hb.2)))
        have hl' : (Builtin.Str.strSliceIndices (some (k : Int)) none 1 x.length).length = x.length := hl
        rw [idx_from, List.length_map, List.length_range] at hl'
        have : k = 0 ∨ x.cps.toList = [] := by
          by_cases h0 : x.length = 0
          · exact .inr (List.length_eq_zero_iff.mp (by rw [cps_len, h0]))
          · exact .inl (by omega)
        rcases this with rfl | e
        · exact List.drop_zero
        · rw [e]; exact List.drop_nil
theorem aslice_ok {o : Value} {dx d : PyData} {sl : Addr} {vl vu vs : Value} {lo hi st : Option Int} (av : AvOK Av s.heap) (ro : Rep Av s.heap o dx)
    (hs : s.heap.get? sl = some { cls := .type "slice", data := .fields #[vl, vu, vs] }) (pl : PartIs vl lo) (pu : PartIs vu hi) (ps : PartIs vs st) (h : aslice dx lo hi st = some d) :
    wpAny (model prog w) A (getItem o (.ref sl)) (Post Av s d) E s := by
  cases ro with
  | list a1 a2 a3 => exact aslice_list av a2 a3 ⟨_, hs, rfl, rfl⟩ pl pu ps h
  | str x t => exact aslice_str hs pl pu ps h
  | _ => exact none_no h
end
noncomputable def strsOf : List PyData → Option (List Str)
  | [] => some []
  | .str x :: r => (strsOf r).map (x :: ·)
  | _ :: _ => none
theorem strsOf_are {Av : List Addr} {h : Heap} {vs : List Value} {ds : List PyData} {ys : List Str} (r : RepAll Av h vs ds) (e : strsOf ds = some ys) : StrsAre vs ys :=
  r.ind (P := fun vs ds => ∀ ys, strsOf ds = some ys → StrsAre vs ys) (fun ys e => (Option.some.inj e) ▸ .nil) (fun a _ ih ys e => by
    cases a with
    | str x t =>
      obtain ⟨ys, h1, rfl⟩ := Option.map_eq_some_iff.mp e
      exact .cons _ _ (ih _ h1)
    | _ => exact none_no e) ys e
theorem rep_strs {Av : List Addr} {h : Heap} {vs : List Value} {ys : List Str} (r : StrsAre vs ys) : RepAll Av h vs (ys.map .str) := by
  induction r with
  | nil => exact .nil
  | cons y t _ ih => exact .cons (.str y t) ih
noncomputable def leS (x y : Str) : Bool := !(Spec.ltCps y.cps.toList x.cps.toList)
inductive Meth | lower | upper | startswith | endswith | find | join | count
noncomputable def Meth.name : Meth → Str
  | .lower => "lower" | .upper => "upper" | .startswith => "startswith" | .endswith => "endswith" | .find => "find" | .join => "join" | .count => "count"
noncomputable def Meth.id : Meth → String
  | .lower => "str.lower" | .upper => "str.upper" | .startswith => "str.startswith" | .endswith => "str.endswith" | .find => "str.find" | .join => "str.join" | .count => "list.count"
noncomputable def methOf (n : Str) : Option Meth :=
  if n = "lower" then some .lower else if n = "upper" then some .upper else if n = "startswith" then some .startswith else if n = "endswith" then some .endswith
  else if n = "find" then some .find else if n = "join" then some .join else if n = "count" then some .count else none
theorem methOf_name {n : Str} {m : Meth} (h : methOf n = some m) : n = m.name := by
  unfold methOf at h
  repeat' (split at h)
  all_goals (first | (cases h; assumption) | cases h)
noncomputable def boolsOk : List PyData → Bool
  | [] => true
  | .bool _ :: r => boolsOk r
  | _ => false
noncomputable def amethod : Meth → PyData → List PyData → Option PyData
  | .lower, .str x, [] => if (Txt.lower x).length ≤ LIM then some (.str (Txt.lower x)) else none
  | .upper, .str x, [] => if (Txt.upper x).length ≤ LIM then some (.str (Txt.upper x)) else none
  | .startswith, .str x, [.str y] => some (.bool (Txt.startswith x y))
  | .endswith, .str x, [.str y] => some (.bool (Txt.endswith x y))
  | .find, .str x, [.str y] => some (.int (Txt.find x y))
  | .join, .str x, [.list ds] => if x.length ≤ 16 then (strsOf ds).bind fun ys => if (ys.map (·.length)).sum + ys.length ≤ LIM then some (.str (Txt.join x ys)) else none else none
  | .count, .list xs, [.bool k] => if boolsOk xs = true then some (.int (Spec.countIn (.bool k) xs)) else none
  | _, _, _ => none
section
variable {prog : Program} {w : World} {A : Around} {E : Value → Shared → Prop} {s : Shared} {Av : List Addr}
theorem noref {x : Str} {t : Tok} {s : Shared} : ∀ a, Value.str x t = .ref a → ∃ o, s.heap.get? a = some o ∧ o.dict = none := fun _ e => nomatch e
theorem gm_str {M : Model} {name : Str} {id : String} {x : Str} {t : Tok} {pl : Sem Bool} {Q : Value × List Value → Shared → Prop} (sl : Slot "str" name id) (ty : typeOf (.builtin id) = pure (.type "method_descriptor")) (h : Q (.builtin id, [.str x t]) s) : wpAny M A (getMethod (.str x t) name pl) Q E s :=
  @getMethod_builtin M A E s (.str x t) "str" name id pl Q (typeIs_str s x t) F.plainAttrs_str sl ty noref h
theorem gm_list {M : Model} {name : Str} {id : String} {l : Addr} {items : Array Value} {n : Nat} {pl : Sem Bool} {Q : Value × List Value → Shared → Prop} (sl : Slot "list" name id) (ty : typeOf (.builtin id) = pure (.type "method_descriptor"))
    (hl : s.heap.get? l = some (listObj items n)) (h : Q (.builtin id, [.ref l]) s) : wpAny M A (getMethod (.ref l) name pl) Q E s :=
  @getMethod_builtin M A E s (.ref l) "list" name id pl Q ⟨_, hl, rfl⟩ F.plainAttrs_list sl ty (fun b e => by cases e; exact ⟨_, hl, rfl⟩) h
theorem meth_str {m : Meth} {d : PyData} {ds : List PyData} {r : PyData} (hm : m ≠ .count) (h : amethod m d ds = some r) : ∃ x, d = .str x := by
  cases m with
  | count => exact absurd rfl hm
  | _ => cases d with
    | str x => exact ⟨x, rfl⟩
    | _ => exact none_no h
theorem meth_list {d : PyData} {ds : List PyData} {r : PyData} (h : amethod .count d ds = some r) : ∃ xs, d = .list xs := by
  cases d with
  | list xs => exact ⟨xs, rfl⟩
  | _ => exact none_no h
theorem getMeth_ok {M : Model} {m : Meth} {v : Value} {d : PyData} {ds : List PyData} {r : PyData} {pl : Sem Bool} (rv : Rep Av s.heap v d) (h : amethod m d ds = some r) :
    wpAny M A (getMethod v m.name pl) (fun fx s' => fx = (.builtin m.id, [v]) ∧ s' = s) E s := by
  by_cases hm : m = .count
  · subst hm
    obtain ⟨xs, rfl⟩ := meth_list h
    cases rv with
    | list a1 a2 a3 =>
      show wpAny M A (getMethod _ (Str.ofString "count") pl) (fun fx s' => fx = (.builtin "list.count", [_]) ∧ s' = s) E s
      with_reducible exact gm_list F.slot_list_count F.type_list_count a2 ⟨rfl, rfl⟩
  · obtain ⟨x, rfl⟩ := meth_str hm h
    cases rv
    cases m with
    | lower =>
      show wpAny M A (getMethod _ (Str.ofString "lower") pl) (fun fx s' => fx = (.builtin "str.lower", [_]) ∧ s' = s) E s
      with_reducible exact gm_str F.slot_str_lower F.type_str_lower ⟨rfl, rfl⟩
    | upper =>
      show wpAny M A (getMethod _ (Str.ofString "upper") pl) (fun fx s' => fx = (.builtin "str.upper", [_]) ∧ s' = s) E s
      with_reducible exact gm_str F.slot_str_upper F.type_str_upper ⟨rfl, rfl⟩
    | startswith =>
      show wpAny M A (getMethod _ (Str.ofString "startswith") pl) (fun fx s' => fx = (.builtin "str.startswith", [_]) ∧ s' = s) E s
      with_reducible exact gm_str F.slot_str_startswith F.type_str_startswith ⟨rfl, rfl⟩
    | endswith =>
      show wpAny M A (getMethod _ (Str.ofString "endswith") pl) (fun fx s' => fx = (.builtin "str.endswith", [_]) ∧ s' = s) E s
      with_reducible exact gm_str F.slot_str_endswith F.type_str_endswith ⟨rfl, rfl⟩
    | find =>
      show wpAny M A (getMethod _ (Str.ofString "find") pl) (fun fx s' => fx = (.builtin "str.find", [_]) ∧ s' = s) E s
      with_reducible exact gm_str F.slot_str_find F.type_str_find ⟨rfl, rfl⟩
    | join =>
      show wpAny M A (getMethod _ (Str.ofString "join") pl) (fun fx s' => fx = (.builtin "str.join", [_]) ∧ s' = s) E s
      with_reducible exact gm_str F.slot_str_join F.type_str_join ⟨rfl, rfl⟩
    | count => exact absurd rfl hm
theorem bools_reads {h : Heap} {vs : List Value} {xs : List PyData} (r : RepAll Av h vs xs) (e : boolsOk xs = true) : ReadsAll h vs xs [] ∧ xs.all Spec.Shape.bool.has = true :=
  r.ind (P := fun vs xs => boolsOk xs = true → ReadsAll h vs xs [] ∧ xs.all Spec.Shape.bool.has = true) (fun _ => ⟨.nil, rfl⟩) (fun a _ ih e => by
    cases a with
    | bool b =>
      obtain ⟨h1, h2⟩ := ih e
      exact ⟨.cons (as := []) (.bool _) h1, by rw [List.all_cons, h2]; rfl⟩
    | _ => exact absurd e Bool.false_ne_true) e
theorem fits_lim {n : Nat} (h : n ≤ LIM) : Builtin.Str.tooLong n = false := by have := lim_le h; simpa [Builtin.Str.tooLong] using this
theorem one_arg {vs : List Value} {d : PyData} (rs : RepAll Av s.heap vs [d]) : ∃ v, vs = [v] ∧ Rep Av s.heap v d := by
  cases rs with
  | cons r1 r2 => cases r2; exact ⟨_, rfl, r1⟩
theorem callMeth_str {m : Meth} {x : Str} {t : Tok} {vs : List Value} {ds : List PyData} {r : PyData} (rs : RepAll Av s.heap vs ds) (h : amethod m (.str x) ds = some r) :
    wpAny (model prog w) A (call (.builtin m.id) ([.str x t] ++ vs)) (Post Av s r) E s := by
  cases m with
  | lower => cases ds with
    | nil =>
      obtain ⟨hl, h⟩ := ite_some h
      cases h; cases rs
      exact SC.lower (fits_lim hl) ⟨keeps_toks _ _, .str _ _⟩
    | cons _ _ => exact none_no h
  | upper => cases ds with
    | nil =>
      obtain ⟨hl, h⟩ := ite_some h
      cases h; cases rs
      exact SC.upper (fits_lim hl) ⟨keeps_toks _ _, .str _ _⟩
    | cons _ _ => exact none_no h
  | count => exact none_no h
  | _ => cases ds with
    | nil => exact none_no h
    | cons d ds => cases d with
      | str y => cases ds with
        | cons _ _ => exact none_no h
        | nil =>
          obtain ⟨v, rfl, r1⟩ := one_arg rs
          cases r1
          first
            | exact none_no h
            | (cases h; exact SC.startswith ⟨keeps_refl _, .bool _⟩)
            | (cases h; exact SC.endswith ⟨keeps_refl _, .bool _⟩)
            | (cases h; exact SC.find ⟨keeps_toks _ _, .int _ _⟩)
      | list ys => cases ds with
        | cons _ _ => exact none_no h
        | nil =>
          first
            | exact none_no h
            | (obtain ⟨v, rfl, r1⟩ := one_arg rs
               obtain ⟨hx, h⟩ := ite_some h
               obtain ⟨zs, hy, h⟩ := Option.bind_eq_some_iff.mp h
               obtain ⟨hl, h⟩ := ite_some h
               cases h
               cases r1 with
               | list b1 b2 b3 => exact join_listW ⟨_, b2, rfl, _, rfl⟩ (strsOf_are b3 hy) hx (Nat.le_trans hl (by decide)) fun t' k => ⟨keeps_toks _ _, .str _ _⟩)
      | _ => exact none_no h
theorem callMeth_ok {m : Meth} {v : Value} {d : PyData} {vs : List Value} {ds : List PyData} {r : PyData} (rv : Rep Av s.heap v d) (rs : RepAll Av s.heap vs ds) (h : amethod m d ds = some r) :
    wpAny (model prog w) A (call (.builtin m.id) ([v] ++ vs)) (Post Av s r) E s := by
  by_cases hm : m = .count
  · subst hm
    obtain ⟨xs, rfl⟩ := meth_list h
    cases rv with
    | @list l items nn _ a1 a2 a3 => cases ds with
      | nil => exact none_no h
      | cons d ds => cases d with
        | bool k => cases ds with
          | nil =>
            obtain ⟨u, rfl, r1⟩ := one_arg rs
            cases r1
            obtain ⟨hb, h⟩ := ite_some h
            cases h
            obtain ⟨h1, h2⟩ := bools_reads a3 hb
            exact count_list_bools (vs := items.toList) ⟨_, a2, rfl, _, rfl⟩ h1 h2 ⟨keeps_toks _ _, .int _ _⟩
          | cons _ _ => exact none_no h
        | _ => exact none_no h
  · obtain ⟨x, rfl⟩ := meth_str hm h
    cases rv
    exact callMeth_str rs h
end
noncomputable def sortS (ys : List Str) : List Str := ys.mergeSort leS
inductive Blt | len | sorted
noncomputable def Blt.name : Blt → Str | .len => "len" | .sorted => "sorted"
noncomputable def Blt.id : Blt → String | .len => "len" | .sorted => "sorted"
noncomputable def bltOf (n : Str) : Option Blt := if n = "len" then some .len else if n = "sorted" then some .sorted else none
theorem bltOf_name {n : Str} {m : Blt} (h : bltOf n = some m) : n = m.name := by
  unfold bltOf at h
  repeat' (split at h)
  all_goals (first | (cases h; assumption) | cases h)
noncomputable def abuiltin : Blt → List PyData → Option PyData
  | .len, [.list xs] => if xs.length ≤ LIM then some (.int xs.length) else none
  | .sorted, [.list xs] => (strsOf xs).bind fun ys => if ys.length < 64 then some (.list ((sortS ys).map .str)) else none
  | .len, [.str x] => if x.length ≤ LIM then some (.int x.length) else none
  | _, _ => none
theorem leS_iff (x y : Str) : leS x y = decide (x.cps.toList ≤ y.cps.toList) := by
  unfold leS; rw [ltCps_eq]
  by_cases h : y.cps.toList < x.cps.toList
  · have : ¬ x.cps.toList ≤ y.cps.toList := List.not_le.mpr h
    simp [h, this]
  · have : x.cps.toList ≤ y.cps.toList := List.not_lt.mp h
    simp [h, this]
theorem leS_trans (a b c : Str) (h1 : leS a b = true) (h2 : leS b c = true) : leS a c = true := by
  rw [leS_iff, decide_eq_true_eq] at *
  exact List.le_trans h1 h2
theorem leS_total (a b : Str) : (leS a b || leS b a) = true := by
  rw [leS_iff, leS_iff]
  rcases List.le_total a.cps.toList b.cps.toList with h | h <;> simp [h]
theorem leS_antisymm (a b : Str) (h1 : leS a b = true) (h2 : leS b a = true) : a = b := by
  rw [leS_iff, decide_eq_true_eq] at *
  have := List.le_antisymm h1 h2
  cases a; cases b; simp at this; simp [this]
theorem risingS_pw : ∀ (ss : List Str) (p : Str), risingS p ss = true → (p :: ss).Pairwise (fun a b => leS a b = true)
  | [], p, _ => by simp
  | x :: r, p, h => by
    have h' : leS p x = true ∧ risingS x r = true := by
      simpa [risingS, leS] using h
    have ih := risingS_pw r x h'.2
    refine List.Pairwise.cons ?_ ih
    intro y hy
    rcases List.mem_cons.mp hy with rfl | hy
    · exact h'.1
    · exact leS_trans _ _ _ h'.1 ((List.pairwise_cons.mp ih).1 y hy)
theorem sortedS_pw {ss : List Str} (h : sortedS ss = true) : ss.Pairwise (fun a b => leS a b = true) := by
  cases ss with
  | nil => exact .nil
  | cons x r => exact risingS_pw r x h
theorem sorted_unique : ∀ {l l' : List Str}, l.Perm l' → l.Pairwise (fun a b => leS a b = true) → l'.Pairwise (fun a b => leS a b = true) → l = l' := by
  intro l l' hp h1 h2
  exact hp.eq_of_pairwise (fun a b _ _ ha hb => leS_antisymm a b ha hb) h1 h2
section
variable {prog : Program} {w : World} {A : Around} {E : Value → Shared → Prop} {s : Shared} {Av : List Addr}
theorem len_ok {vs : List Value} {ds : List PyData} {r : PyData} (rs : RepAll Av s.heap vs ds) (h : abuiltin .len ds = some r) : wpAny (model prog w) A (call (.builtin "len") vs) (Post Av s r) E s := by
  cases ds with
  | nil => exact none_no h
  | cons d ds => cases d with
    | list xs => cases ds with
      | cons _ _ => exact none_no h
      | nil =>
        obtain ⟨v, rfl, r1⟩ := one_arg rs
        obtain ⟨hl, h⟩ := ite_some h
        cases h
        cases r1 with
        | @list l items nn xs a1 a2 a3 =>
        have hlen := a3.length
        rw [Array.length_toList] at hlen
        refine Calls.call_len_list ⟨_, a2, rfl, _, rfl⟩ (by unfold LIM at hl; omega) ?_
        rw [hlen]
        exact ⟨keeps_toks _ _, .int _ _⟩
    | str x => cases ds with
      | cons _ _ => exact none_no h
      | nil =>
        obtain ⟨v, rfl, r1⟩ := one_arg rs
        obtain ⟨hl, h⟩ := ite_some h
        cases h
        cases r1
        exact P.len_str (by unfold LIM at hl; omega) ⟨keeps_toks _ _, .int _ _⟩
    | _ => exact none_no h
theorem sorted_ok {vs : List Value} {ds : List PyData} {r : PyData} (av : AvOK Av s.heap) (rs : RepAll Av s.heap vs ds) (h : abuiltin .sorted ds = some r) : wpAny (model prog w) A (call (.builtin "sorted") vs) (Post Av s r) E s := by
  cases ds with
  | nil => exact none_no h
  | cons d ds => cases d with
    | list xs => cases ds with
      | cons _ _ => exact none_no h
      | nil =>
        obtain ⟨v, rfl, r1⟩ := one_arg rs
        obtain ⟨ys, hy, h⟩ := Option.bind_eq_some_iff.mp h
        obtain ⟨hl, h⟩ := ite_some h
        cases h
        cases r1 with
        | @list l items nn xs a1 a2 a3 =>
        have hS := strsOf_are a3 hy
        have hll := StrsAre.length hS
        refine sorted_strs (vs := items.toList) ⟨_, a2, rfl, _, rfl⟩ hS (by omega) fun out ss' h1 h2 h3 => ?_
        have e : ss' = sortS ys := sorted_unique (h2.trans (List.mergeSort_perm ys leS).symm) (sortedS_pw h3) (List.pairwise_mergeSort leS_trans leS_total ys)
        subst e
        refine ⟨⟨_, _, rfl, fun b o e => sortedAll_old e⟩, ?_⟩
        obtain ⟨e, he⟩ := sortedAll_at s.heap items.toList out
        refine .list (a := s.heap.objs.size + 1) (fun hm => ?_) he (rep_strs h1)
        obtain ⟨o, ho⟩ := av _ hm
        exact absurd (Heap.lt_size ho) (Nat.not_lt.mpr (Nat.le_succ _))
    | _ => exact none_no h
theorem abuiltin_ok {n : Blt} {vs : List Value} {ds : List PyData} {r : PyData} (av : AvOK Av s.heap) (rs : RepAll Av s.heap vs ds) (h : abuiltin n ds = some r) :
    wpAny (model prog w) A (call (.builtin n.id) vs) (Post Av s r) E s := by
  cases n with
  | len => exact len_ok rs h
  | sorted => exact sorted_ok av rs h
end
inductive LV where
  | val (d : PyData)
  | own (xs : List PyData)
noncomputable abbrev REnv := Str → Option LV
noncomputable def REnv.set (ρ : REnv) (x : Str) (v : LV) : REnv := fun y => if y = x then some v else ρ y
theorem set_at {ρ : REnv} {x : Str} {v : LV} : (ρ.set x v) x = some v := if_pos rfl
theorem set_ne {ρ : REnv} {a b : Str} {v : LV} (h : b ≠ a) : (ρ.set a v) b = ρ b := if_neg h
noncomputable abbrev Funs := Str → List PyData → Option PyData
noncomputable def AOK (r : Nat) (A : Around) : Prop := A.handled = none ∧ A.depth + r < 900 ∧ A.units + 4 * r + 20 < cLine
structure StE (h₀ : Heap) (env : Env) (Av : List Addr) (α : Str → Addr) (ρ : REnv) (h : Heap) : Prop where
  ok : EnvOK env h
  base : ∀ b o, h₀.get? b = some o → h.get? b = some o
  av : AvOK Av h
  wr : ∀ x W, StoreAt env x W → h₀.get? W = none
  val : ∀ x d, ρ x = some (.val d) → ∃ v, Loads env h x v ∧ Rep Av h v d
  own : ∀ x xs, ρ x = some (.own xs) → ∃ items n, Loads env h x (.ref (α x)) ∧ α x ∈ Av ∧ h₀.get? (α x) = none ∧ h.get? (α x) = some (listObj items n) ∧ RepAll Av h items.toList xs
  inj : ∀ x y xs ys, ρ x = some (.own xs) → ρ y = some (.own ys) → α x = α y → x = y
theorem StE.keeps {h₀ env Av α ρ h h'} (hk : ∀ a o, h.get? a = some o → h'.get? a = some o) (x : StE h₀ env Av α ρ h) : StE h₀ env Av α ρ h' where
  ok := x.ok.keeps hk
  base := fun b o e => hk b o (x.base b o e)
  av := x.av.keeps hk
  wr := x.wr
  val := fun y d e => by obtain ⟨v, a, b⟩ := x.val y d e; exact ⟨v, a.keeps hk, b.keeps hk⟩
  own := fun y xs e => by obtain ⟨items, n, a, b, b', c, d⟩ := x.own y xs e; exact ⟨items, n, a.keeps hk, b, b', hk _ _ c, d.keeps hk⟩
  inj := x.inj
noncomputable def aconst : Const → Option PyData
  | .none => some .none
  | .bool b => some (.bool b)
  | .int i => some (.int i)
  | .str x => some (.str x)
  | _ => none
noncomputable def aname (ρ : REnv) (x : Str) : Option PyData := if x = "__debug__" ∨ x = "__classdict__" then none else match ρ x with
  | some (.val d) => some d
  | _ => none
noncomputable def notStar (e : Expr) : Bool := e.ctorIdx != 22
noncomputable def notCall (e : Expr) : Bool := e.ctorIdx != 16
noncomputable def abind (sc : Scope) (t : Expr) (d : PyData) (ρ : REnv) : Option REnv := match t with
  | .Name x _ => if sc.names.lookup x = some .local ∨ sc.names.lookup x = some .cell then some (ρ.set x (.val d)) else none
  | _ => none
noncomputable def concatM (f : PyData → Option (List PyData)) : List PyData → Option (List PyData)
  | [] => some []
  | d :: ds => opt2 List.append (f d) (concatM f ds)
noncomputable def relab (scope sc : Scope) : Scope :=
  { scope with names := scope.names.map fun (n, k) => if (k == .free && sc.kind == .function && sc.names.lookup n == some .cell) then (n, .cell) else (n, k) }
noncomputable def scopeOk (scope sc : Scope) : Bool :=
  (scope.kind == .function) && scope.names.all fun (x, k) =>
    (k != .local || scope.names.lookup x == some .local) && (k != .cell || scope.names.lookup x == some .cell) && (k != .free || sc.names.lookup x == some .cell || sc.names.lookup x == some .free)
noncomputable def compRho (scope : Scope) (ρ : REnv) : REnv := fun x => if scope.names.lookup x = some .free then (match ρ x with | some (.val d) => some (.val d) | _ => none) else none
noncomputable def nameOf : Expr → List Str
  | .Name x _ => [x]
  | _ => []
noncomputable def tnames : Expr → List Str
  | .Name x _ => [x]
  | .Tuple es _ _ => es.flatMap nameOf
  | _ => []
noncomputable def targetsOf : List Comprehension → List Str
  | [] => []
  | ⟨t, _, _, _⟩ :: r => tnames t ++ targetsOf r
noncomputable def kindOk (sc : Scope) (x : Str) : Bool := sc.names.lookup x == some .local || sc.names.lookup x == some .cell
/-- a loop's target takes an item -/
noncomputable def atgt (sc : Scope) (t : Expr) (d : PyData) (ρ : REnv) : Option REnv := match t, d with
  | .Name x _, d => if kindOk sc x = true then some (ρ.set x (.val d)) else none
  | .Tuple [.Name x _, .Name y _] _ _, .tuple [a, b] => if kindOk sc x = true ∧ kindOk sc y = true ∧ x ≠ y then some ((ρ.set x (.val a)).set y (.val b)) else none
  | .Tuple [.Name x _, .Name y _, .Name z _] _ _, .tuple [a, b, c] => if kindOk sc x = true ∧ kindOk sc y = true ∧ kindOk sc z = true ∧ x ≠ y ∧ x ≠ z ∧ y ≠ z then some (((ρ.set x (.val a)).set y (.val b)).set z (.val c)) else none
  | _, _ => none
noncomputable def rangeTo (a b : Int) : List PyData := (List.range (b - a).toNat).map fun (i : Nat) => .int (a + (i : Int))
mutual
noncomputable def aeval (Φ : Funs) : Nat → Scope → Expr → REnv → Option PyData
  | 0, _, _, _ => none
  | n + 1, sc, e, ρ => match e with
    | .Constant c _ _ => aconst c
    | .Name x _ => aname ρ x
    | .BinOp l op r _ => match aeval Φ n sc l ρ, aeval Φ n sc r ρ with
      | some a, some b => abin op a b
      | _, _ => none
    | .UnaryOp .USub x _ => match aeval Φ n sc x ρ with
      | some (.int i) => some (.int (-i))
      | _ => none
    | .IfExp t b o _ => match atrue Φ n sc t ρ with
      | some true => aeval Φ n sc b ρ
      | some false => aeval Φ n sc o ρ
      | none => none
    | .List es _ => match aevals Φ n sc es ρ with
      | some ds => if ds.length ≤ LIM then some (.list ds) else none
      | none => none
    | .Tuple es _ _ => match aevals Φ n sc es ρ with
      | some ds => if ds.length ≤ LIM then some (.tuple ds) else none
      | none => none
    | .Compare l [op] [r] _ => (acompare Φ n sc l op r ρ).map .bool
    | .Subscript v (.Slice lo hi st _) _ => match aeval Φ n sc v ρ, apart Φ n sc lo ρ, apart Φ n sc hi ρ, apart Φ n sc st ρ with
      | some d, some a, some b, some c => aslice d a b c
      | _, _, _, _ => none
    | .Subscript v i _ => match aeval Φ n sc v ρ, aeval Φ n sc i ρ with
      | some a, some b => asub a b
      | _, _ => none
    | .Call (.Attribute o m apos) args [] pos => if notCall o = true ∧ (apos.endLine == pos.line) = true ∧ args.length < 29 then match methOf m, aeval Φ n sc o ρ, aevals Φ n sc args ρ with
        | some m, some d, some ds => amethod m d ds
        | _, _, _ => none
      else none
    | .Call (.Name f _) args [] _ => if sc.names.lookup f = some .globalImplicit ∧ f ≠ "__debug__" then match aevals Φ n sc args ρ with
        | some ds => match bltOf f with
          | some b => abuiltin b ds
          | none => Φ f ds
        | none => none
      else none
    | .ListComp elt gens scope _ => match acomp Φ n sc elt gens scope ρ with
      | some ds => if ds.length ≤ LIM then some (.list ds) else none
      | none => none
    | _ => none
noncomputable def acomp (Φ : Funs) : Nat → Scope → Expr → List Comprehension → Scope → REnv → Option (List PyData)
  | 0, _, _, _, _, _ => none
  | n + 1, sc, elt, gens, scope, ρ => if scopeOk scope sc = true ∧ (targetsOf gens).all (fun x => scope.names.lookup x != some .free) = true then match gens with
      | ⟨t, it, ifs, asy⟩ :: rest => match aiter Φ n sc it ρ with
        | some items => acompLoop Φ n (relab scope sc) elt (⟨t, it, ifs, asy⟩ :: rest) items (compRho scope ρ)
        | none => none
      | [] => none
    else none
noncomputable def acompLoop (Φ : Funs) : Nat → Scope → Expr → List Comprehension → List PyData → REnv → Option (List PyData)
  | 0, _, _, _, _, _ => none
  | n + 1, sc, elt, gens, items, ρ => match gens with
    | [] => none
    | ⟨.Name x _, _, ifs, asy⟩ :: rest => if asy = 0 ∧ items.length ≤ LIM ∧ (sc.names.lookup x = some .local ∨ sc.names.lookup x = some .cell) ∧ (ρ x).isNone = true then concatM (fun d => match aifs Φ n sc ifs (ρ.set x (.val d)) with
          | none => none
          | some false => some []
          | some true => match rest with
            | [] => (aeval Φ n sc elt (ρ.set x (.val d))).map fun x => [x]
            | ⟨_, it', _, _⟩ :: _ => match aiter Φ n sc it' (ρ.set x (.val d)) with
              | some its => acompLoop Φ n sc elt rest its (ρ.set x (.val d))
              | none => none) items else none
    | _ => none
noncomputable def aifs (Φ : Funs) : Nat → Scope → List Expr → REnv → Option Bool
  | 0, _, _, _ => none
  | n + 1, sc, es, ρ => match es with
    | [] => some true
    | e :: r => match atrue Φ n sc e ρ with
      | some true => aifs Φ n sc r ρ
      | some false => some false
      | none => none
noncomputable def aiter (Φ : Funs) : Nat → Scope → Expr → REnv → Option (List PyData)
  | 0, _, _, _ => none
  | n + 1, sc, e, ρ => match e with
    | .Call (.Name f _) args [] _ => if f = "range" ∧ sc.names.lookup f = some .globalImplicit then match aevals Φ n sc args ρ with
        | some [.int b] => if -1000 ≤ b ∧ b ≤ 1000 then some (rangeTo 0 b) else none
        | some [.int a, .int b] => if -1000 ≤ a ∧ a ≤ 1000 ∧ -1000 ≤ b ∧ b ≤ 1000 then some (rangeTo a b) else none
        | _ => none
      else match aeval Φ n sc e ρ with
        | some (.list xs) => some xs
        | _ => none
    | _ => match aeval Φ n sc e ρ with
      | some (.list xs) => some xs
      | _ => none
noncomputable def acompare (Φ : Funs) : Nat → Scope → Expr → CmpOp → Expr → REnv → Option Bool
  | 0, _, _, _, _, _ => none
  | n + 1, sc, l, op, r, ρ => match aeval Φ n sc l ρ with
    | none => none
    | some a => match op, r with
      | .In, .Name x _ => match ρ x with
        | some (.own ys) => if x = "__debug__" ∨ x = "__classdict__" then none else aIn a ys
        | _ => match aname ρ x with
          | some b => acmp .In a b
          | none => none
      | .NotIn, .Name x _ => match ρ x with
        | some (.own ys) => if x = "__debug__" ∨ x = "__classdict__" then none else (aIn a ys).map not
        | _ => match aname ρ x with
          | some b => acmp .NotIn a b
          | none => none
      | op, r => match aeval Φ n sc r ρ with
        | some b => acmp op a b
        | none => none
noncomputable def atrue (Φ : Funs) : Nat → Scope → Expr → REnv → Option Bool
  | 0, _, _, _ => none
  | n + 1, sc, e, ρ => match e with
    | .UnaryOp .Not x _ => (atrue Φ n sc x ρ).map not
    | .BoolOp op vs _ => abool Φ n sc op vs ρ
    | .Compare l [op] [r] _ => acompare Φ n sc l op r ρ
    | .Name x _ => match aname ρ x with
      | some (.bool b) => some b
      | _ => none
    | .Call f as ks p => match aeval Φ n sc (.Call f as ks p) ρ with
      | some (.bool b) => some b
      | _ => none
    | _ => none
noncomputable def abool (Φ : Funs) : Nat → Scope → BoolOp → List Expr → REnv → Option Bool
  | 0, _, _, _, _ => none
  | n + 1, sc, op, es, ρ => match es with
    | [] => some (op == .And)
    | e :: r => match atrue Φ n sc e ρ with
      | none => none
      | some b => match op, b with
        | .And, false => some false
        | .Or, true => some true
        | _, _ => abool Φ n sc op r ρ
noncomputable def aevals (Φ : Funs) : Nat → Scope → List Expr → REnv → Option (List PyData)
  | 0, _, _, _ => none
  | n + 1, sc, es, ρ => match es with
    | [] => some []
    | e :: r => if notStar e then match aeval Φ n sc e ρ, aevals Φ n sc r ρ with
        | some a, some b => some (a :: b)
        | _, _ => none
      else none
noncomputable def apart (Φ : Funs) : Nat → Scope → Option Expr → REnv → Option (Option Int)
  | 0, _, _, _ => none
  | n + 1, sc, o, ρ => match o with
    | none => some none
    | some e => match aeval Φ n sc e ρ with
      | some (.int i) => some (some i)
      | _ => none
end
section
variable {Φ : Funs} {n : Nat} {sc : Scope} {ρ : REnv}
theorem v_const {c k p} : aeval Φ (n + 1) sc (.Constant c k p) ρ = aconst c := id rfl
theorem v_name {x p} : aeval Φ (n + 1) sc (.Name x p) ρ = aname ρ x := id rfl
theorem v_bin {l op r p} : aeval Φ (n + 1) sc (.BinOp l op r p) ρ = (match aeval Φ n sc l ρ, aeval Φ n sc r ρ with
      | some a, some b => abin op a b
      | _, _ => none) := id rfl
theorem v_neg {x p} : aeval Φ (n + 1) sc (.UnaryOp .USub x p) ρ = (match aeval Φ n sc x ρ with
      | some (.int i) => some (.int (-i))
      | _ => none) := id rfl
theorem v_if {t b o p} : aeval Φ (n + 1) sc (.IfExp t b o p) ρ = (match atrue Φ n sc t ρ with
      | some true => aeval Φ n sc b ρ
      | some false => aeval Φ n sc o ρ
      | none => none) := id rfl
theorem v_list {es p} : aeval Φ (n + 1) sc (.List es p) ρ = (match aevals Φ n sc es ρ with
      | some ds => if ds.length ≤ LIM then some (.list ds) else none
      | none => none) := id rfl
theorem v_tuple {es k p} : aeval Φ (n + 1) sc (.Tuple es k p) ρ = (match aevals Φ n sc es ρ with
      | some ds => if ds.length ≤ LIM then some (.tuple ds) else none
      | none => none) := id rfl
theorem v_cmp {l op r p} : aeval Φ (n + 1) sc (.Compare l [op] [r] p) ρ = (acompare Φ n sc l op r ρ).map .bool := id rfl
theorem v_slice {v lo hi st q p} : aeval Φ (n + 1) sc (.Subscript v (.Slice lo hi st q) p) ρ = (match aeval Φ n sc v ρ, apart Φ n sc lo ρ, apart Φ n sc hi ρ, apart Φ n sc st ρ with
      | some d, some a, some b, some c => aslice d a b c
      | _, _, _, _ => none) := id rfl
theorem v_subn {v x q p} : aeval Φ (n + 1) sc (.Subscript v (.Name x q) p) ρ = (match aeval Φ n sc v ρ, aeval Φ n sc (.Name x q) ρ with
      | some a, some b => asub a b
      | _, _ => none) := id rfl
theorem v_subc {v c k q p} : aeval Φ (n + 1) sc (.Subscript v (.Constant c k q) p) ρ = (match aeval Φ n sc v ρ, aeval Φ n sc (.Constant c k q) ρ with
      | some a, some b => asub a b
      | _, _ => none) := id rfl
theorem v_subu {v o x q p} : aeval Φ (n + 1) sc (.Subscript v (.UnaryOp o x q) p) ρ = (match aeval Φ n sc v ρ, aeval Φ n sc (.UnaryOp o x q) ρ with
      | some a, some b => asub a b
      | _, _ => none) := id rfl
theorem v_subb {v l o r q p} : aeval Φ (n + 1) sc (.Subscript v (.BinOp l o r q) p) ρ = (match aeval Φ n sc v ρ, aeval Φ n sc (.BinOp l o r q) ρ with
      | some a, some b => asub a b
      | _, _ => none) := id rfl
theorem v_meth {o m apos args pos} : aeval Φ (n + 1) sc (.Call (.Attribute o m apos) args [] pos) ρ = (if notCall o = true ∧ (apos.endLine == pos.line) = true ∧ args.length < 29 then match methOf m, aeval Φ n sc o ρ, aevals Φ n sc args ρ with
        | some m, some d, some ds => amethod m d ds
        | _, _, _ => none
      else none) := id rfl
theorem v_call {f q args pos} : aeval Φ (n + 1) sc (.Call (.Name f q) args [] pos) ρ = (if sc.names.lookup f = some .globalImplicit ∧ f ≠ "__debug__" then match aevals Φ n sc args ρ with
        | some ds => match bltOf f with
          | some b => abuiltin b ds
          | none => Φ f ds
        | none => none
      else none) := id rfl
theorem v_comp {elt gens scope p} : aeval Φ (n + 1) sc (.ListComp elt gens scope p) ρ = (match acomp Φ n sc elt gens scope ρ with
      | some ds => if ds.length ≤ LIM then some (.list ds) else none
      | none => none) := id rfl
theorem v_acomp {elt t it ifs asy rest scope} : acomp Φ (n + 1) sc elt (⟨t, it, ifs, asy⟩ :: rest) scope ρ = (if scopeOk scope sc = true ∧ (targetsOf (⟨t, it, ifs, asy⟩ :: rest)).all (fun x => scope.names.lookup x != some .free) = true then
      match aiter Φ n sc it ρ with
        | some items => acompLoop Φ n (relab scope sc) elt (⟨t, it, ifs, asy⟩ :: rest) items (compRho scope ρ)
        | none => none
    else none) := id rfl
theorem v_loop1 {elt x p it ifs asy items} : acompLoop Φ (n + 1) sc elt [⟨.Name x p, it, ifs, asy⟩] items ρ = (if asy = 0 ∧ items.length ≤ LIM ∧ (sc.names.lookup x = some .local ∨ sc.names.lookup x = some .cell) ∧ (ρ x).isNone = true then concatM (fun d => match aifs Φ n sc ifs (ρ.set x (.val d)) with
          | none => none
          | some false => some []
          | some true => (aeval Φ n sc elt (ρ.set x (.val d))).map fun x => [x]) items else none) := id rfl
theorem v_loop2 {elt x p it ifs asy items t' it' ifs' asy' rest} : acompLoop Φ (n + 1) sc elt (⟨.Name x p, it, ifs, asy⟩ :: ⟨t', it', ifs', asy'⟩ :: rest) items ρ = (if asy = 0 ∧ items.length ≤ LIM ∧ (sc.names.lookup x = some .local ∨ sc.names.lookup x = some .cell) ∧ (ρ x).isNone = true then concatM (fun d => match aifs Φ n sc ifs (ρ.set x (.val d)) with
          | none => none
          | some false => some []
          | some true => match aiter Φ n sc it' (ρ.set x (.val d)) with
              | some its => acompLoop Φ n sc elt (⟨t', it', ifs', asy'⟩ :: rest) its (ρ.set x (.val d))
              | none => none) items else none) := id rfl
theorem v_ifs0 : aifs Φ (n + 1) sc [] ρ = some true := id rfl
theorem v_ifs {e r} : aifs Φ (n + 1) sc (e :: r) ρ = (match atrue Φ n sc e ρ with
      | some true => aifs Φ n sc r ρ
      | some false => some false
      | none => none) := id rfl
theorem v_itname {x p} : aiter Φ (n + 1) sc (.Name x p) ρ = (match aeval Φ n sc (.Name x p) ρ with
      | some (.list xs) => some xs
      | _ => none) := id rfl
theorem v_itlist {es p} : aiter Φ (n + 1) sc (.List es p) ρ = (match aeval Φ n sc (.List es p) ρ with
      | some (.list xs) => some xs
      | _ => none) := id rfl
theorem v_itbin {l o r p} : aiter Φ (n + 1) sc (.BinOp l o r p) ρ = (match aeval Φ n sc (.BinOp l o r p) ρ with
      | some (.list xs) => some xs
      | _ => none) := id rfl
theorem v_itsub {l r p} : aiter Φ (n + 1) sc (.Subscript l r p) ρ = (match aeval Φ n sc (.Subscript l r p) ρ with
      | some (.list xs) => some xs
      | _ => none) := id rfl
theorem v_acmp {l op r} (h1 : op ≠ .In) (h2 : op ≠ .NotIn) : acompare Φ (n + 1) sc l op r ρ = (match aeval Φ n sc l ρ with
    | none => none
    | some a => match aeval Φ n sc r ρ with
        | some b => acmp op a b
        | none => none) := by
  cases op <;> first | rfl | exact absurd rfl h1 | exact absurd rfl h2
theorem v_in {l x q} : acompare Φ (n + 1) sc l .In (.Name x q) ρ = (match aeval Φ n sc l ρ with
    | none => none
    | some a => match ρ x with
        | some (.own ys) => if x = "__debug__" ∨ x = "__classdict__" then none else aIn a ys
        | _ => match aname ρ x with
          | some b => acmp .In a b
          | none => none) := id rfl
theorem v_notin {l x q} : acompare Φ (n + 1) sc l .NotIn (.Name x q) ρ = (match aeval Φ n sc l ρ with
    | none => none
    | some a => match ρ x with
        | some (.own ys) => if x = "__debug__" ∨ x = "__classdict__" then none else (aIn a ys).map not
        | _ => match aname ρ x with
          | some b => acmp .NotIn a b
          | none => none) := id rfl
theorem v_notinsub {l v i q} : acompare Φ (n + 1) sc l .NotIn (.Subscript v i q) ρ = (match aeval Φ n sc l ρ with
    | none => none
    | some a => match aeval Φ n sc (.Subscript v i q) ρ with
          | some b => acmp .NotIn a b
          | none => none) := id rfl
theorem t_not {x p} : atrue Φ (n + 1) sc (.UnaryOp .Not x p) ρ = (atrue Φ n sc x ρ).map not := id rfl
theorem t_bool {op vs p} : atrue Φ (n + 1) sc (.BoolOp op vs p) ρ = abool Φ n sc op vs ρ := id rfl
theorem t_cmp {l op r p} : atrue Φ (n + 1) sc (.Compare l [op] [r] p) ρ = acompare Φ n sc l op r ρ := id rfl
theorem t_name {x p} : atrue Φ (n + 1) sc (.Name x p) ρ = (match aname ρ x with
      | some (.bool b) => some b
      | _ => none) := id rfl
theorem t_call {f as ks p} : atrue Φ (n + 1) sc (.Call f as ks p) ρ = (match aeval Φ n sc (.Call f as ks p) ρ with
      | some (.bool b) => some b
      | _ => none) := id rfl
theorem b_nil {op} : abool Φ (n + 1) sc op [] ρ = some (op == .And) := id rfl
theorem b_and {e r} : abool Φ (n + 1) sc .And (e :: r) ρ = (match atrue Φ n sc e ρ with
      | none => none
      | some false => some false
      | some true => abool Φ n sc .And r ρ) := by
  show (match atrue Φ n sc e ρ with | none => none | some b => match BoolOp.And, b with | .And, false => some false | .Or, true => some true | _, _ => abool Φ n sc .And r ρ) = _
  cases atrue Φ n sc e ρ with
  | none => rfl
  | some b => cases b <;> rfl
theorem b_or {e r} : abool Φ (n + 1) sc .Or (e :: r) ρ = (match atrue Φ n sc e ρ with
      | none => none
      | some true => some true
      | some false => abool Φ n sc .Or r ρ) := by
  show (match atrue Φ n sc e ρ with | none => none | some b => match BoolOp.Or, b with | .And, false => some false | .Or, true => some true | _, _ => abool Φ n sc .Or r ρ) = _
  cases atrue Φ n sc e ρ with
  | none => rfl
  | some b => cases b <;> rfl
theorem e_nil : aevals Φ (n + 1) sc [] ρ = some [] := id rfl
theorem e_cons {e r} : aevals Φ (n + 1) sc (e :: r) ρ = (if notStar e then match aeval Φ n sc e ρ, aevals Φ n sc r ρ with
        | some a, some b => some (a :: b)
        | _, _ => none
      else none) := id rfl
theorem p_none : apart Φ (n + 1) sc none ρ = some none := id rfl
theorem p_some {e} : apart Φ (n + 1) sc (some e) ρ = (match aeval Φ n sc e ρ with
      | some (.int i) => some (some i)
      | _ => none) := id rfl
noncomputable def PlainSub (i : Expr) : Prop := ∀ (Φ : Funs) (n : Nat) (sc : Scope) (ρ : REnv) (v : Expr) (p : Pos), aeval Φ (n + 1) sc (.Subscript v i p) ρ = (match aeval Φ n sc v ρ, aeval Φ n sc i ρ with
      | some a, some b => asub a b
      | _, _ => none)
theorem slice_or (i : Expr) : (∃ lo hi st q, i = .Slice lo hi st q) ∨ PlainSub i := by
  cases i with
  | Slice lo hi st q => exact .inl ⟨lo, hi, st, q, rfl⟩
  | _ => exact .inr fun _ _ _ _ _ _ => id rfl
noncomputable def PlainCmp (op : CmpOp) (i : Expr) : Prop := ∀ (Φ : Funs) (n : Nat) (sc : Scope) (ρ : REnv) (l : Expr), acompare Φ (n + 1) sc l op i ρ = (match aeval Φ n sc l ρ with
    | none => none
    | some a => match aeval Φ n sc i ρ with
        | some b => acmp op a b
        | none => none)
theorem name_or (i : Expr) : (∃ x q, i = .Name x q) ∨ (PlainCmp .In i ∧ PlainCmp .NotIn i) := by
  cases i with
  | Name x q => exact .inl ⟨x, q, rfl⟩
  | _ => exact .inr ⟨fun _ _ _ _ _ => id rfl, fun _ _ _ _ _ => id rfl⟩
noncomputable def PlainIter (i : Expr) : Prop := ∀ (Φ : Funs) (n : Nat) (sc : Scope) (ρ : REnv), aiter Φ (n + 1) sc i ρ = (match aeval Φ n sc i ρ with
      | some (.list xs) => some xs
      | _ => none)
theorem call_or (i : Expr) : (∃ f q args p, i = .Call (.Name f q) args [] p) ∨ PlainIter i := by
  cases i with
  | Call f args ks p => cases f with
    | Name f q => cases ks with
      | nil => exact .inl ⟨f, q, args, p, rfl⟩
      | cons k ks => exact .inr fun _ _ _ _ => id rfl
    | _ => exact .inr fun _ _ _ _ => id rfl
  | _ => exact .inr fun _ _ _ _ => id rfl
theorem v_itcall {f q args p} : aiter Φ (n + 1) sc (.Call (.Name f q) args [] p) ρ = (if f = "range" ∧ sc.names.lookup f = some .globalImplicit then match aevals Φ n sc args ρ with
        | some [.int b] => if -1000 ≤ b ∧ b ≤ 1000 then some (rangeTo 0 b) else none
        | some [.int a, .int b] => if -1000 ≤ a ∧ a ≤ 1000 ∧ -1000 ≤ b ∧ b ≤ 1000 then some (rangeTo a b) else none
        | _ => none
      else (match aeval Φ n sc (.Call (.Name f q) args [] p) ρ with
        | some (.list xs) => some xs
        | _ => none)) := id rfl
theorem v_range {f : Str} {q args p} (h : f = "range") : aiter Φ (n + 1) sc (.Call (.Name f q) args [] p) ρ = (if sc.names.lookup f = some .globalImplicit then match aevals Φ n sc args ρ with
        | some [.int b] => if -1000 ≤ b ∧ b ≤ 1000 then some (rangeTo 0 b) else none
        | some [.int a, .int b] => if -1000 ≤ a ∧ a ≤ 1000 ∧ -1000 ≤ b ∧ b ≤ 1000 then some (rangeTo a b) else none
        | _ => none
      else (match aeval Φ n sc (.Call (.Name f q) args [] p) ρ with
        | some (.list xs) => some xs
        | _ => none)) := by
  rw [v_itcall]
  by_cases hk : sc.names.lookup f = some .globalImplicit
  · rw [if_pos hk, if_pos ⟨h, hk⟩]
  · rw [if_neg hk, if_neg fun q => hk q.2]
theorem b_cons {op e r} : abool Φ (n + 1) sc op (e :: r) ρ = (match atrue Φ n sc e ρ with
      | none => none
      | some b => match op, b with
        | .And, false => some false
        | .Or, true => some true
        | _, _ => abool Φ n sc op r ρ) := id rfl
end
structure BaseOK (h₀ : Heap) (mg mb : Str → Option Value) : Prop where
  g : h₀.Ns mainGlobals mg
  b : h₀.Ns builtinsNs mb
  len : mg "len" = none ∧ mb "len" = some (.builtin "len")
  sorted : mg "sorted" = none ∧ mb "sorted" = some (.builtin "sorted")
  range : mg "range" = none ∧ mb "range" = some (.type "range")
noncomputable abbrev NoE : Value → Shared → Prop := fun _ _ => False
noncomputable def CallOK (prog : Program) (w : World) (h₀ : Heap) (r : Nat) (a : Addr) (ds : List PyData) (d : PyData) : Prop :=
  ∀ A s Av vs, AOK r A → (∀ b o, h₀.get? b = some o → s.heap.get? b = some o) → AvOK Av s.heap → RepAll Av s.heap vs ds → wpAny (model prog w) A (call (.ref a) vs) (Post Av s d) NoE s
noncomputable def FunOK (prog : Program) (w : World) (h₀ : Heap) (mg : Str → Option Value) (r : Nat) (Φ : Funs) : Prop :=
  ∀ f ds d, Φ f ds = some d → ∃ a fd o, mg f = some (.ref a) ∧ h₀.get? a = some o ∧ o.data = .func fd ∧ CallOK prog w h₀ r a ds d
section
variable (prog : Program) (w : World) (h₀ : Heap) (r : Nat) (sc : Scope) (ρ : REnv)
noncomputable def EvOK (e : Expr) (d : PyData) : Prop := ∀ env s Av α A, env.scope = sc → AOK r A → StE h₀ env Av α ρ s.heap → wpAny (model prog w) A (eval e env) (Post Av s d) NoE s
noncomputable def TrOK (e : Expr) (b : Bool) : Prop := ∀ env s Av α A, env.scope = sc → AOK r A → StE h₀ env Av α ρ s.heap → wpAny (model prog w) A (isTrue e env (eval e env)) (fun k s' => k = b ∧ Keeps s s') NoE s
noncomputable def CmOK (l : Expr) (op : CmpOp) (r' : Expr) (b : Bool) : Prop := behindInMarks op r' = false ∧ ∀ env s Av α A, env.scope = sc → AOK r A → StE h₀ env Av α ρ s.heap →
  wpAny (model prog w) A (eval l env) (fun a s₁ => wpAny (model prog w) A (eval r' env) (fun c s₂ => wpAny (model prog w) A (compareOp op a c) (fun v s₃ => v = .bool b ∧ Keeps s s₃) NoE s₂) NoE s₁) NoE s
noncomputable def BoOK (op : BoolOp) (es : List Expr) (b : Bool) : Prop := ∀ env s Av α A, env.scope = sc → AOK r A → StE h₀ env Av α ρ s.heap → wpAny (model prog w) A (allTrue op es env) (fun k s' => k = b ∧ Keeps s s') NoE s
noncomputable def EsOK (es : List Expr) (ds : List PyData) : Prop := es.all notStar = true ∧ ∀ env s Av α A, env.scope = sc → AOK r A → StE h₀ env Av α ρ s.heap →
  wpAny (model prog w) A (spliced (es.map fun e => (false, eval e env))) (fun vs s' => Keeps s s' ∧ RepAll Av s'.heap vs ds) NoE s
noncomputable def PaOK (o : Option Expr) (k : Option Int) : Prop := ∀ env s Av α A, env.scope = sc → AOK r A → StE h₀ env Av α ρ s.heap → wpAny (model prog w) A (evalPart o env) (fun v s' => Keeps s s' ∧ PartIs v k) NoE s
end
section
variable {prog : Program} {w : World} {h₀ : Heap} {r : Nat} {sc : Scope} {ρ : REnv} {mg mb : Str → Option Value} {Φ : Funs}
theorem StE.keeps' {env Av α s s'} (x : StE h₀ env Av α ρ s.heap) (k : Keeps s s') : StE h₀ env Av α ρ s'.heap := x.keeps (keeps_get k)
theorem Rep.keeps' {Av} {s s' : Shared} {v d} (x : Rep Av s.heap v d) (k : Keeps s s') : Rep Av s'.heap v d := x.keeps (keeps_get k)
theorem RepAll.keeps' {Av} {s s' : Shared} {v d} (x : RepAll Av s.heap v d) (k : Keeps s s') : RepAll Av s'.heap v d := x.keeps (keeps_get k)
theorem Post.trans {Av s s₁ d v s'} (k : Keeps s s₁) : Post Av s₁ d v s' → Post Av s d v s' := fun h => ⟨keeps_trans k h.1, h.2⟩
theorem noE {E : Value → Shared → Prop} : ∀ e s, NoE e s → E e s := fun _ _ h => h.elim
theorem AOK.cmp {A} (h : AOK r A) : A.units + 2 < cLine := by obtain ⟨_, _, h⟩ := h; omega
theorem ev_const {c : Const} {k : Nat} {pos : Pos} {d : PyData} (h : aconst c = some d) : EvOK prog w h₀ r sc ρ (.Constant c k pos) d := fun env s Av α A hs ha st => by
  rw [eval_Constant]
  cases c with
  | none => cases h; exact wpAny_pure ⟨keeps_refl _, .none⟩
  | bool _ => cases h; exact wpAny_pure ⟨keeps_refl _, .bool _⟩
  | int _ => cases h; exact wpAny_mkInt ⟨keeps_toks _ _, .int _ _⟩
  | str _ => cases h; exact wpAny_mkText ⟨keeps_toks _ _, .str _ _⟩
  | _ => exact none_no h
theorem aname_val {x : Str} {d : PyData} (h : aname ρ x = some d) : ρ x = some (.val d) ∧ x ≠ "__debug__" ∧ x ≠ "__classdict__" := by
  by_cases hn : x = "__debug__" ∨ x = "__classdict__"
  · have e : aname ρ x = none := if_pos hn
    rw [e] at h; exact none_no h
  · have e : aname ρ x = _ := if_neg hn
    rw [e] at h
    cases hx : ρ x with
    | none => rw [hx] at h; exact none_no h
    | some v => cases v with
      | val d => rw [hx] at h; cases h; exact ⟨rfl, fun q => hn (.inl q), fun q => hn (.inr q)⟩
      | own _ => rw [hx] at h; exact none_no h
theorem ev_name {x : Str} {pos : Pos} {d : PyData} (h : aname ρ x = some d) : EvOK prog w h₀ r sc ρ (.Name x pos) d := fun env s Av α A hs ha st => by
  obtain ⟨h1, h2, h3⟩ := aname_val h
  obtain ⟨v, hl, hr⟩ := st.val x d h1
  exact wpAny_Name (load_ok st.ok.fn hl (beq_eq_false_iff_ne.mpr h3) ⟨keeps_refl _, hr⟩) (beq_eq_false_iff_ne.mpr h2)
theorem ev_bin {l r' : Expr} {op : Operator} {pos : Pos} {a b d : PyData} (hl : EvOK prog w h₀ r sc ρ l a) (hr : EvOK prog w h₀ r sc ρ r' b) (h : abin op a b = some d) : EvOK prog w h₀ r sc ρ (.BinOp l op r' pos) d :=
  fun env s Av α A hs ha st => by
  refine wpAny_BinOp (wpAny_mono (hl env s Av α A hs ha st) (fun va s₁ h₁ => wpAny_mono (hr env s₁ Av α A hs ha (st.keeps' h₁.1)) (fun vb s₂ h₂ => ?_) noE) noE)
  exact wpAny_mono (abin_ok (st.keeps' (keeps_trans h₁.1 h₂.1)).av (h₁.2.keeps' h₂.1) h₂.2 h) (fun v s₃ h₃ => h₃.trans (keeps_trans h₁.1 h₂.1)) noE
theorem ev_neg {x : Expr} {pos : Pos} {i : Int} (hx : EvOK prog w h₀ r sc ρ x (.int i)) : EvOK prog w h₀ r sc ρ (.UnaryOp .USub x pos) (.int (-i)) := fun env s Av α A hs ha st => by
  show wpAny _ A (do let v ← eval x env; standAt pos; holding [v] (unaryOp .USub v)) _ _ s
  refine wpAny_bind (wpAny_mono (hx env s Av α A hs ha st) (fun v s₁ h₁ => wpAny_bind (wpAny_standAt (wpAny_holding ?_))) noE)
  obtain ⟨k, hr⟩ := h₁
  cases hr
  exact PyProof.Rows.neg_int ⟨keeps_trans k (keeps_toks _ _), .int _ _⟩
theorem ev_if {t b o : Expr} {pos : Pos} {k : Bool} {d : PyData} (ht : TrOK prog w h₀ r sc ρ t k) (hb : EvOK prog w h₀ r sc ρ (if k then b else o) d) : EvOK prog w h₀ r sc ρ (.IfExp t b o pos) d := fun env s Av α A hs ha st => by
  show wpAny _ A (do if ← isTrue t env (eval t env) then eval b env else eval o env) _ _ s
  refine wpAny_bind (wpAny_mono (ht env s Av α A hs ha st) (fun k' s₁ h₁ => ?_) noE)
  obtain ⟨rfl, hk⟩ := h₁
  cases k' with
  | true => exact wpAny_mono (hb env s₁ Av α A hs ha (st.keeps' hk)) (fun v s₂ h₂ => h₂.trans hk) noE
  | false => exact wpAny_mono (hb env s₁ Av α A hs ha (st.keeps' hk)) (fun v s₂ h₂ => h₂.trans hk) noE
theorem starEach_plain {env : Env} : ∀ {es : List Expr}, es.all notStar = true → starEach es env = es.map fun e => (false, eval e env)
  | [], _ => rfl
  | e :: r, h => by
    have h' : notStar e = true ∧ r.all notStar = true := by simpa using h
    have e0 : starEach (e :: r) env = (false, eval e env) :: starEach r env := by
      cases e <;> first | rfl | exact absurd h'.1 Bool.false_ne_true
    rw [e0, starEach_plain h'.2]; rfl
theorem backTo_plain {env : Env} {pos : Pos} {es : List Expr} (h : es.all notStar = true) : backTo pos (starEach es env) = es.map fun e => (false, eval e env) := by
  rw [starEach_plain h]
  unfold backTo
  rw [List.map_map]
  rfl
theorem es_nil : EsOK prog w h₀ r sc ρ [] [] := ⟨rfl, fun env _ _ _ _ _ _ _ => Calls.spliced_nil ⟨keeps_refl _, .nil⟩⟩
theorem es_cons {e : Expr} {es : List Expr} {d : PyData} {ds : List PyData} (hn : notStar e = true) (he : EvOK prog w h₀ r sc ρ e d) (hs' : EsOK prog w h₀ r sc ρ es ds) : EsOK prog w h₀ r sc ρ (e :: es) (d :: ds) :=
  ⟨by simp [hn, hs'.1], fun env s Av α A hs ha st => by
    refine Calls.spliced_cons (wpAny_mono (he env s Av α A hs ha st) (fun v s₁ h₁ => wpAny_mono (hs'.2 env s₁ Av α A hs ha (st.keeps' h₁.1)) (fun vs s₂ h₂ => ?_) noE) noE)
    exact ⟨keeps_trans h₁.1 h₂.1, .cons (h₁.2.keeps' h₂.1) h₂.2⟩⟩
theorem ev_list {es : List Expr} {pos : Pos} {ds : List PyData} (he : EsOK prog w h₀ r sc ρ es ds) (hl : ds.length ≤ LIM) : EvOK prog w h₀ r sc ρ (.List es pos) (.list ds) := fun env s Av α A hs ha st => by
  refine List_ ?_
  rw [backTo_plain he.1]
  refine wpAny_mono (he.2 env s Av α A hs ha st) (fun vs s₁ h₁ => ?_) noE
  refine wpAny_newObj_type ((rep_newList (st.keeps' h₁.1).av (by simpa using h₁.2)).trans h₁.1) ?_
  show vs.toArray.size ≤ sizeLine
  have := h₁.2.length
  simp only [List.size_toArray]
  exact lim_le (by omega)
theorem ev_tuple {es : List Expr} {k : Nat} {pos : Pos} {ds : List PyData} (he : EsOK prog w h₀ r sc ρ es ds) (hl : ds.length ≤ LIM) : EvOK prog w h₀ r sc ρ (.Tuple es k pos) (.tuple ds) := fun env s Av α A hs ha st => by
  refine Tuple_ ?_
  rw [backTo_plain he.1]
  refine wpAny_mono (he.2 env s Av α A hs ha st) (fun vs s₁ h₁ => ?_) noE
  refine wpAny_newObj_type ((rep_newTup (st.keeps' h₁.1).av (by simpa using h₁.2)).trans h₁.1) ?_
  show vs.toArray.size ≤ sizeLine
  have := h₁.2.length
  simp only [List.size_toArray]
  exact lim_le (by omega)
theorem cm_plain {l r' : Expr} {op : CmpOp} {a b : PyData} {k : Bool} (hm : behindInMarks op r' = false) (hl : EvOK prog w h₀ r sc ρ l a) (hr : EvOK prog w h₀ r sc ρ r' b) (h : acmp op a b = some k) : CmOK prog w h₀ r sc ρ l op r' k :=
  ⟨hm, fun env s Av α A hs ha st => by
  refine wpAny_mono (hl env s Av α A hs ha st) (fun va s₁ h₁ => wpAny_mono (hr env s₁ Av α A hs ha (st.keeps' h₁.1)) (fun vb s₂ h₂ => ?_) noE) noE
  exact acmp_ok ha.cmp (h₁.2.keeps' h₂.1) h₂.2 h ⟨rfl, keeps_trans h₁.1 h₂.1⟩⟩
theorem cm_in_own {l : Expr} {x : Str} {pos : Pos} {a : PyData} {ys : List PyData} {k : Bool} (hl : EvOK prog w h₀ r sc ρ l a) (hx : ρ x = some (.own ys)) (hn : ¬(x = "__debug__" ∨ x = "__classdict__")) (h : aIn a ys = some k) :
    CmOK prog w h₀ r sc ρ l .In (.Name x pos) k ∧ CmOK prog w h₀ r sc ρ l .NotIn (.Name x pos) (!k) := by
  constructor <;> refine ⟨rfl, fun env s Av α A hs ha st => ?_⟩ <;> refine wpAny_mono (hl env s Av α A hs ha st) (fun va s₁ h₁ => ?_) noE <;>
    obtain ⟨items, n, l1, l2, l2', l3, l4⟩ := (st.keeps' h₁.1).own x ys hx <;>
    refine wpAny_Name (load_ok st.ok.fn l1 (beq_eq_false_iff_ne.mpr fun q => hn (.inr q)) ?_) (beq_eq_false_iff_ne.mpr fun q => hn (.inl q))
  · exact aIn_ok h₁.2 l3 l4 h ⟨rfl, h₁.1⟩
  · exact aNotIn_ok h₁.2 l3 l4 h ⟨rfl, h₁.1⟩
theorem ev_compare {l r' : Expr} {op : CmpOp} {pos : Pos} {k : Bool} (h : CmOK prog w h₀ r sc ρ l op r' k) : EvOK prog w h₀ r sc ρ (.Compare l [op] [r'] pos) (.bool k) := fun env s Av α A hs ha st => by
  refine wpAny_Compare1 (wpAny_mono (h.2 env s Av α A hs ha st) (fun a s₁ h₁ => wpAny_mono h₁ (fun c s₂ h₂ => wpAny_mono h₂ (fun v s₃ h₃ => ?_) noE) noE) noE) h.1
  obtain ⟨rfl, h₃⟩ := h₃
  exact ⟨h₃, .bool _⟩
theorem tr_compare {l r' : Expr} {op : CmpOp} {pos : Pos} {k : Bool} (h : CmOK prog w h₀ r sc ρ l op r' k) : TrOK prog w h₀ r sc ρ (.Compare l [op] [r'] pos) k := fun env s Av α A hs ha st => by
  refine wpAny_isTrue_Compare1 (wpAny_mono (h.2 env s Av α A hs ha st) (fun a s₁ h₁ => wpAny_mono h₁ (fun c s₂ h₂ => wpAny_mono h₂ (fun v s₃ h₃ => ?_) noE) noE) noE) h.1
  obtain ⟨rfl, h₃⟩ := h₃
  exact wpAny_truthy_bool ⟨rfl, h₃⟩
theorem tr_not {x : Expr} {pos : Pos} {k : Bool} (h : TrOK prog w h₀ r sc ρ x k) : TrOK prog w h₀ r sc ρ (.UnaryOp .Not x pos) (!k) := fun env s Av α A hs ha st => by
  show wpAny _ A (do return !(← isTrue x env (eval x env))) _ _ s
  refine wpAny_bind (wpAny_mono (h env s Av α A hs ha st) (fun k' s₁ h₁ => ?_) noE)
  obtain ⟨rfl, hk⟩ := h₁
  exact wpAny_pure ⟨rfl, hk⟩
theorem tr_bool {op : BoolOp} {es : List Expr} {pos : Pos} {k : Bool} (h : BoOK prog w h₀ r sc ρ op es k) : TrOK prog w h₀ r sc ρ (.BoolOp op es pos) k := fun env s Av α A hs ha st => h env s Av α A hs ha st
theorem bo_nil {op : BoolOp} : BoOK prog w h₀ r sc ρ op [] (op == .And) := fun env _ _ _ _ _ _ _ => wpAny_pure ⟨rfl, keeps_refl _⟩
theorem bo_stop {op : BoolOp} {e : Expr} {es : List Expr} {k : Bool} (he : TrOK prog w h₀ r sc ρ e k) (h : (op = .And ∧ k = false) ∨ (op = .Or ∧ k = true)) : BoOK prog w h₀ r sc ρ op (e :: es) k := fun env s Av α A hs ha st => by
  show wpAny _ A (isTrue e env (eval e env) >>= _) _ _ s
  refine wpAny_bind (wpAny_mono (he env s Av α A hs ha st) (fun k' s₁ h₁ => ?_) noE)
  obtain ⟨rfl, hk⟩ := h₁
  rcases h with ⟨rfl, rfl⟩ | ⟨rfl, rfl⟩ <;> exact wpAny_pure ⟨rfl, hk⟩
theorem bo_go {op : BoolOp} {e : Expr} {es : List Expr} {k b : Bool} (he : TrOK prog w h₀ r sc ρ e k) (h : (op = .And ∧ k = true) ∨ (op = .Or ∧ k = false)) (hr : BoOK prog w h₀ r sc ρ op es b) : BoOK prog w h₀ r sc ρ op (e :: es) b := fun env s Av α A hs ha st => by
  show wpAny _ A (isTrue e env (eval e env) >>= _) _ _ s
  refine wpAny_bind (wpAny_mono (he env s Av α A hs ha st) (fun k' s₁ h₁ => ?_) noE)
  obtain ⟨rfl, hk⟩ := h₁
  rcases h with ⟨rfl, rfl⟩ | ⟨rfl, rfl⟩ <;> exact wpAny_mono (hr env s₁ Av α A hs ha (st.keeps' hk)) (fun _ _ q => ⟨q.1, keeps_trans hk q.2⟩) noE
theorem tr_name {x : Str} {pos : Pos} {k : Bool} (h : EvOK prog w h₀ r sc ρ (.Name x pos) (.bool k)) : TrOK prog w h₀ r sc ρ (.Name x pos) k := fun env s Av α A hs ha st => by
  show wpAny _ A (do let v ← eval (.Name x pos) env; standAt (Expr.Name x pos).pos; holding [v] (truthy v)) _ _ s
  refine wpAny_bind (wpAny_mono (h env s Av α A hs ha st) (fun v s₁ h₁ => wpAny_bind (wpAny_standAt (wpAny_holding ?_))) noE)
  obtain ⟨k, hr⟩ := h₁
  cases hr
  exact wpAny_truthy_bool ⟨rfl, k⟩
theorem tr_call {f : Expr} {as : List Expr} {ks : List Keyword} {pos : Pos} {k : Bool} (h : EvOK prog w h₀ r sc ρ (.Call f as ks pos) (.bool k)) : TrOK prog w h₀ r sc ρ (.Call f as ks pos) k := fun env s Av α A hs ha st => by
  show wpAny _ A (do let v ← eval (.Call f as ks pos) env; standAt (Expr.Call f as ks pos).pos; holding [v] (truthy v)) _ _ s
  refine wpAny_bind (wpAny_mono (h env s Av α A hs ha st) (fun v s₁ h₁ => wpAny_bind (wpAny_standAt (wpAny_holding ?_))) noE)
  obtain ⟨k, hr⟩ := h₁
  cases hr
  exact wpAny_truthy_bool ⟨rfl, k⟩
theorem sub_ops {M : Model} {A : Around} {s : Shared} {slice : Expr} {o i : Value} {Q : Value → Shared → Prop} {E : Value → Shared → Prop} (fin : wpAny M A (getItem o i) Q E s) : wpAny M A (subscripted slice false o i) Q E s := by
  have e : subscripted slice false o i = operate [i, o] (getItem o i) ∨ subscripted slice false o i = operate [o, i] (getItem o i) := by
    cases slice with
    | Slice a b c p => cases c with
      | none => exact .inl rfl
      | some _ => exact .inr rfl
    | _ => exact .inr rfl
  rcases e with e | e <;> (rw [e]; exact wpAny_operating fin)
theorem sub_wp {M : Model} {A : Around} {s : Shared} {env : Env} {value slice : Expr} {pos : Pos} {Q : Value → Shared → Prop} {E : Value → Shared → Prop}
    (h : wpAny (model prog w) A (eval value env) (fun o s₁ => wpAny (model prog w) A (eval slice env) (fun i s₂ => (∃ T id, s₂.TypeIs o T ∧ typeLookup (.type T) "__getitem__" = pure (some (.builtin id))) ∧
      wpAny (model prog w) A (getItem o i) Q E s₂) E s₁) E s) : wpAny (model prog w) A (eval (.Subscript value slice pos) env) Q E s := by
  rw [eval_Subscript]
  refine wpAny_bind (wpAny_mono h (fun o s₁ h₁ => wpAny_bind (wpAny_holding (wpAny_mono h₁ (fun i s₂ h₂ => wpAny_bind (wpAny_standAt ?_)) fun _ _ x => x))) fun _ _ x => x)
  obtain ⟨⟨T, id, hT, hl⟩, hq⟩ := h₂
  rw [getitemInPython_of_ne hT.not_modules]
  refine wpAny_bind (wpAny_bind (wpAny_specialOf hT hl (wpAny_pure ?_)))
  have fin : wpAny (model prog w) A (getItem o i) (fun r' s₃ => wpAny (model prog w) A (letTemporaryGo value o r' >>= fun _ => pure r') Q E s₃) E s₂ :=
    wpAny_mono hq (fun r' s₃ h₃ => wpAny_bind (wpAny_letTemporaryGo (wpAny_pure h₃))) fun _ _ x => x
  exact wpAny_bind (sub_ops fin)
theorem ev_sub {v i : Expr} {pos : Pos} {a b d : PyData} (hv : EvOK prog w h₀ r sc ρ v a) (hi : EvOK prog w h₀ r sc ρ i b) (h : asub a b = some d) : EvOK prog w h₀ r sc ρ (.Subscript v i pos) d := fun env s Av α A hs ha st => by
  refine sub_wp (M := model prog w) (wpAny_mono (hv env s Av α A hs ha st) (fun vo s₁ h₁ => wpAny_mono (hi env s₁ Av α A hs ha (st.keeps' h₁.1)) (fun vi s₂ h₂ => ⟨asub_type (h₁.2.keeps' h₂.1) h, ?_⟩) noE) noE)
  exact wpAny_mono (asub_ok (h₁.2.keeps' h₂.1) h₂.2 h) (fun _ _ q => q.trans (keeps_trans h₁.1 h₂.1)) noE
theorem pa_none : PaOK prog w h₀ r sc ρ none none := fun env s Av α A hs ha st => by rw [evalPart_none]; exact wpAny_pure ⟨keeps_refl _, .none⟩
theorem pa_some {e : Expr} {i : Int} (h : EvOK prog w h₀ r sc ρ e (.int i)) : PaOK prog w h₀ r sc ρ (some e) (some i) := fun env s Av α A hs ha st => by
  rw [evalPart_some]
  refine wpAny_mono (h env s Av α A hs ha st) (fun v s₁ h₁ => ?_) noE
  obtain ⟨k, hr⟩ := h₁
  cases hr
  exact ⟨k, .int _ _⟩
theorem ev_slice {v : Expr} {lo hi st' : Option Expr} {p pos : Pos} {a d : PyData} {x y z : Option Int} (hv : EvOK prog w h₀ r sc ρ v a) (h1 : PaOK prog w h₀ r sc ρ lo x) (h2 : PaOK prog w h₀ r sc ρ hi y) (h3 : PaOK prog w h₀ r sc ρ st' z)
    (h : aslice a x y z = some d) : EvOK prog w h₀ r sc ρ (.Subscript v (.Slice lo hi st' p) pos) d := fun env s Av α A hs ha st => by
  refine sub_wp (M := model prog w) (wpAny_mono (hv env s Av α A hs ha st) (fun vo s₁ k₁ => wpAny_Slice (wpAny_mono (h1 env s₁ Av α A hs ha (st.keeps' k₁.1)) (fun v1 s₂ k₂ =>
    wpAny_mono (h2 env s₂ Av α A hs ha (st.keeps' (keeps_trans k₁.1 k₂.1))) (fun v2 s₃ k₃ => wpAny_mono (h3 env s₃ Av α A hs ha (st.keeps' (keeps_trans k₁.1 (keeps_trans k₂.1 k₃.1)))) (fun v3 s₄ k₄ => ?_) noE) noE) noE)) noE)
  have kk : Keeps s₁ { s₄ with heap := s₄.heap.push { cls := .type "slice", data := .fields #[v1, v2, v3] } } := keeps_trans k₂.1 (keeps_trans k₃.1 (keeps_trans k₄.1 keeps_push))
  have ro := k₁.2.keeps' kk
  refine ⟨aslice_type ro h, ?_⟩
  exact wpAny_mono (aslice_ok (st.keeps' (keeps_trans k₁.1 kk)).av ro (Heap.get?_push_size _ rfl) k₂.2 k₃.2 k₄.2 h) (fun _ _ q => q.trans (keeps_trans k₁.1 kk)) noE
theorem evalArgs_list {M : Model} {A : Around} {s : Shared} {env : Env} {f : Value} {es : List Expr} {Q : Args → Shared → Prop} {E : Value → Shared → Prop}
    (h : wpAny M A (spliced (es.map fun e => (false, eval e env))) (fun vs s' => Q ⟨vs, []⟩ s') E s) : wpAny M A (evalArgs f true (es.map fun e => (false, eval e env)) []) Q E s := by
  cases es with
  | nil =>
    unfold evalArgs
    show wpAny M A (spliced [] >>= _) Q E s
    refine wpAny_bind (wpAny_mono h (fun vs s' h' => ?_) fun _ _ x => x)
    refine wpAny_holding ?_
    exact wpAny_bind (wpAny_pure (wpAny_bind (wpAny_pure (wpAny_pure h'))))
  | cons e r => exact Calls.evalArgs_plain h
theorem any_plain {env : Env} : ∀ {es : List Expr}, (es.map fun e => (false, eval e env)).any (·.1) = false
  | [] => rfl
  | e :: r => by simp
theorem attributeBase_plain {o : Expr} {m : Str} {env : Env} {whole : Sem Value} (h : notCall o = true) : attributeBase o m env whole = whole := by
  cases o <;> first | rfl | exact absurd h Bool.false_ne_true
theorem ev_method {o : Expr} {m : Meth} {apos pos : Pos} {args : List Expr} {a d : PyData} {ds : List PyData} (hc : notCall o = true) (hp : (apos.endLine == pos.line) = true) (hlen : args.length < 29)
    (ho : EvOK prog w h₀ r sc ρ o a) (hargs : EsOK prog w h₀ r sc ρ args ds) (h : amethod m a ds = some d) : EvOK prog w h₀ r sc ρ (.Call (.Attribute o m.name apos) args [] pos) d := fun env s Av α A hs ha st => by
  show wpAny _ A (do
    let ov ← attributeBase o m.name env (eval o env)
    standAt apos.atName
    methodCall o m.name apos pos env ov (args.length + 0) (backTo pos (starEach args env)) (backToKw pos (keywordEach [] env))) _ _ s
  rw [attributeBase_plain hc]
  refine wpAny_bind (wpAny_mono (ho env s Av α A hs ha st) (fun ov s₁ h₁ => wpAny_bind (wpAny_standAt ?_)) noE)
  rw [backTo_plain hargs.1]
  have hform : methodCallForm (args.length + 0) (args.map fun e => (false, eval e env)) (backToKw pos (keywordEach [] env)) = true := by
    have e0 : backToKw pos (keywordEach [] env) = [] := rfl
    rw [e0]
    unfold methodCallForm
    simp
    omega
  have hpos : methodCallPos true o env apos pos = pure pos := if_pos (by rw [hp]; rfl)
  unfold methodCall
  rw [hform, hpos]
  unfold calleeOf
  rw [if_pos rfl]
  refine wpAny_bind (wpAny_holding (wpAny_mono (getMeth_ok h₁.2 h) (fun fx s₂ h₂ => ?_) fun _ _ x => x))
  obtain ⟨rfl, rfl⟩ := h₂
  refine wpAny_bind (wpAny_pure ?_)
  refine Calls.callWith_builtin any_plain (evalArgs_list (wpAny_mono (hargs.2 env s₂ Av α A hs ha (st.keeps' h₁.1)) (fun vs s₃ h₃ => ?_) noE))
  exact wpAny_mono (callMeth_ok (h₁.2.keeps' h₃.1) h₃.2 h) (fun _ _ q => q.trans (keeps_trans h₁.1 h₃.1)) noE
theorem load_blt {M : Model} {A : Around} {s : Shared} {env : Env} {f : Str} {pos : Pos} {v : Value} {Av α} {Q : Value → Shared → Prop} {E : Value → Shared → Prop} (B : BaseOK h₀ mg mb) (st : StE h₀ env Av α ρ s.heap)
    (hk : env.scope.names.lookup f = some .globalImplicit) (hd : f ≠ "__debug__") (hm : mg f = none) (hb : mb f = some v) (hQ : Q v s) : wpAny M A (eval (.Name f pos) env) Q E s := by
  refine Calls.Name_function_global st.ok.fn hk (Calls.loadGlobal_builtin (mg := mg) (mb := mb) ?_ hm ?_ hb hQ) (beq_eq_false_iff_ne.mpr hd)
  · rw [st.ok.glob]; exact B.g.keeps st.base
  · rw [st.ok.blt]; exact B.b.keeps st.base
theorem load_glob {M : Model} {A : Around} {s : Shared} {env : Env} {f : Str} {pos : Pos} {v : Value} {Av α} {Q : Value → Shared → Prop} {E : Value → Shared → Prop} (B : BaseOK h₀ mg mb) (st : StE h₀ env Av α ρ s.heap)
    (hk : env.scope.names.lookup f = some .globalImplicit) (hd : f ≠ "__debug__") (hm : mg f = some v) (hQ : Q v s) : wpAny M A (eval (.Name f pos) env) Q E s := by
  refine Calls.Name_function_global st.ok.fn hk (Calls.loadGlobal_global (mg := mg) ?_ hm hQ) (beq_eq_false_iff_ne.mpr hd)
  rw [st.ok.glob]; exact B.g.keeps st.base
theorem blt_vals (B : BaseOK h₀ mg mb) (b : Blt) : mg b.name = none ∧ mb b.name = some (.builtin b.id) := by cases b; exact B.len; exact B.sorted
theorem ev_builtin (B : BaseOK h₀ mg mb) {b : Blt} {p pos : Pos} {args : List Expr} {d : PyData} {ds : List PyData} (hk : sc.names.lookup b.name = some .globalImplicit) (hd : b.name ≠ "__debug__") (hargs : EsOK prog w h₀ r sc ρ args ds)
    (h : abuiltin b ds = some d) : EvOK prog w h₀ r sc ρ (.Call (.Name b.name p) args [] pos) d := fun env s Av α A hs ha st => by
  subst hs
  refine wpAny_Call_NameR (load_blt B st hk hd (blt_vals B b).1 (blt_vals B b).2 ?_)
  rw [backTo_plain hargs.1]
  refine Calls.callWith_builtin any_plain (evalArgs_list (wpAny_mono (hargs.2 env s Av α A rfl ha st) (fun vs s₃ h₃ => ?_) noE))
  exact wpAny_mono (abuiltin_ok (st.keeps' h₃.1).av h₃.2 h) (fun _ _ q => q.trans h₃.1) noE
theorem ev_call (B : BaseOK h₀ mg mb) (F : FunOK prog w h₀ mg r Φ) {f : Str} {p pos : Pos} {args : List Expr} {d : PyData} {ds : List PyData} (hk : sc.names.lookup f = some .globalImplicit) (hd : f ≠ "__debug__") (hargs : EsOK prog w h₀ r sc ρ args ds)
    (h : Φ f ds = some d) : EvOK prog w h₀ r sc ρ (.Call (.Name f p) args [] pos) d := fun env s Av α A hs ha st => by
  subst hs
  obtain ⟨a, fd, o, hm, ho, hdat, hc⟩ := F f ds d h
  refine wpAny_Call_NameR (load_glob B st hk hd hm ?_)
  rw [backTo_plain hargs.1]
  refine Calls.callWith_function (o := o) (fd := fd) (evalArgs_list (wpAny_mono (hargs.2 env s Av α A rfl ha st) (fun vs s₃ h₃ => ?_) noE))
  refine ⟨⟨(st.keeps' h₃.1).base a o ho, hdat⟩, ?_⟩
  exact wpAny_mono (hc A s₃ Av vs ha (st.keeps' h₃.1).base (st.keeps' h₃.1).av h₃.2) (fun _ _ q => q.trans h₃.1) noE
end
noncomputable def PlainObj (o : Obj) : Prop := (∀ es n, o.data ≠ .dict es n) ∧ ∀ v, o.data ≠ .cell v
structure WalksZ (prog : Program) (w : World) (A : Around) (I : Addr) (t : Expr) (fp wr : List Addr) (Av : List Addr) (h2 : Heap) (items : List PyData) (St : Nat → Heap → Prop) : Prop where
  sub : ∀ b ∈ wr, b ∈ fp
  frame : ∀ i h h', St i h → (∀ b ∈ fp, ∀ o, h.get? b = some o → h'.get? b = some o) → St i h'
  item : ∀ i d (s : Shared) (Q : Value → Shared → Prop) (E : Value → Shared → Prop), items[i]? = some d → St i s.heap →
    (∀ v h' tk, (∀ Av', (∀ v d, Rep Av h2 v d → Rep Av' h' v d) → AvOK Av' s.heap → Rep Av' h' v d) → St (i + 1) h' → (∀ b o, b ∉ wr → s.heap.get? b = some o → h'.get? b = some o) → Q v { s with heap := h', toks := tk }) →
    wpAny (model prog w) A (pyNext (.ref I)) (fun ov s₁ => ∃ v, ov = some v ∧ wpAny (model prog w) A (letOwnedTupleGo t (.ref I) v) (fun _ s₂ => Q v s₂) E s₁) E s
  done : ∀ (s : Shared) (Q : Option Value → Shared → Prop) (E : Value → Shared → Prop), St items.length s.heap →
    (∀ h' tk, (∀ b o, b ∉ wr → s.heap.get? b = some o → h'.get? b = some o) → Q none { s with heap := h', toks := tk }) → wpAny (model prog w) A (pyNext (.ref I)) Q E s
  self : ∀ i (s : Shared) (Q : Value → Shared → Prop) (E : Value → Shared → Prop), St i s.heap → Q (.ref I) s → wpAny (model prog w) A (pyIter (.ref I)) Q E s
theorem walksZ {prog : Program} {w : World} {A : Around} {I : Addr} {fp wr : List Addr} {P : Nat → Value → Prop} {St : Nat → Heap → Prop} {Av : List Addr} {h2 : Heap} {items : List PyData} {x : Str} {p : Pos} (W : Walks prog w A I fp wr items.length P St)
    (hP : ∀ i v, i < items.length → P i v → ∃ d, items[i]? = some d ∧ Rep Av h2 v d) : WalksZ prog w A I (.Name x p) fp wr Av h2 items St where
  sub := W.sub
  frame := W.frame
  item := fun i d s Q E hi hst hQ => by
    have hlt : i < items.length := (List.getElem?_eq_some_iff.mp hi).1
    refine W.item i s _ E hlt hst fun v h' tk hv hst' hk => ⟨v, rfl, ?_⟩
    show wpAny _ A (pure ()) _ _ _
    refine wpAny_pure (hQ v h' tk (fun Av' hmv _ => ?_) hst' hk)
    obtain ⟨d', hd', rd⟩ := hP i v hlt hv
    rw [hi] at hd'; cases hd'
    exact hmv _ _ rd
  done := W.done
  self := W.self
inductive ItOK (prog : Program) (w : World) (h₀ : Heap) (A : Around) (Av : List Addr) (t : Expr) (it : Value) (wr : List Addr) (items : List PyData) (s : Shared) : Prop
  | mk (I : Addr) (fp : List Addr) (St : Nat → Heap → Prop) (e : it = .ref I) (W : WalksZ prog w A I t fp wr (wr ++ Av) s.heap items St) (st : St 0 s.heap)
    (hfp : ∀ b ∈ fp, b ∉ Av ∧ ∃ o, s.heap.get? b = some o ∧ PlainObj o)
    (hwr : ∀ b ∈ wr, h₀.get? b = none ∧ ∃ o, s.heap.get? b = some o) (alive : ∀ i h, St i h → ∀ b ∈ fp, ∃ o, h.get? b = some o)
theorem WalksZ.turn {prog : Program} {w : World} {A : Around} {I : Addr} {t : Expr} {fp wr Av : List Addr} {h2 : Heap} {items : List PyData} {St : Nat → Heap → Prop} (W : WalksZ prog w A I t fp wr Av h2 items St)
    {β : Type} {i : Nat} {d : PyData} {s : Shared} {E : Value → Shared → Prop} {k : Option Value → Sem β} {rest : Value → Sem β} {post : β → Shared → Prop} (hk : ∀ v, k (some v) = (letOwnedTupleGo t (.ref I) v >>= fun _ => rest v)) (hi : items[i]? = some d) (hst : St i s.heap)
    (h : ∀ v h' tk, (∀ Av', (∀ v d, Rep Av h2 v d → Rep Av' h' v d) → AvOK Av' s.heap → Rep Av' h' v d) → St (i + 1) h' → (∀ b o, b ∉ wr → s.heap.get? b = some o → h'.get? b = some o) → wpAny (model prog w) A (rest v) post E { s with heap := h', toks := tk }) :
    wpAny (model prog w) A (pyNext (.ref I)) (fun ov s₁ => wpAny (model prog w) A (k ov) post E s₁) E s :=
  wpAny_mono (W.item i d s (fun v s₂ => wpAny (model prog w) A (rest v) post E s₂) E hi hst h) (fun ov s₁ q => by
    obtain ⟨v, rfl, q⟩ := q
    show wpAny _ _ (k (some v)) _ _ _
    rw [hk v]
    exact wpAny_bind q) fun _ _ x => x
theorem WalksZ.turn2 {prog : Program} {w : World} {A : Around} {I : Addr} {t : Expr} {fp wr Av : List Addr} {h2 : Heap} {items : List PyData} {St : Nat → Heap → Prop} (W : WalksZ prog w A I t fp wr Av h2 items St)
    {i : Nat} {d : PyData} {s : Shared} {E : Value → Shared → Prop} {K : Option Value → Shared → Prop} {Q : Value → Shared → Prop} (hk : ∀ v s₁, wpAny (model prog w) A (letOwnedTupleGo t (.ref I) v) (fun _ s₂ => Q v s₂) E s₁ → K (some v) s₁) (hi : items[i]? = some d) (hst : St i s.heap)
    (h : ∀ v h' tk, (∀ Av', (∀ v d, Rep Av h2 v d → Rep Av' h' v d) → AvOK Av' s.heap → Rep Av' h' v d) → St (i + 1) h' → (∀ b o, b ∉ wr → s.heap.get? b = some o → h'.get? b = some o) → Q v { s with heap := h', toks := tk }) :
    wpAny (model prog w) A (pyNext (.ref I)) K E s :=
  wpAny_mono (W.item i d s Q E hi hst h) (fun ov s₁ q => by
    obtain ⟨v, rfl, q⟩ := q
    exact hk v s₁ q) fun _ _ x => x
theorem WalksZ.mono {prog : Program} {w : World} {A : Around} {I : Addr} {t : Expr} {fp wr Av Av2 : List Addr} {h2 h3 : Heap} {items : List PyData} {St : Nat → Heap → Prop} (W : WalksZ prog w A I t fp wr Av h2 items St)
    (hm : ∀ v d, Rep Av h2 v d → Rep Av2 h3 v d) : WalksZ prog w A I t fp wr Av2 h3 items St where
  sub := W.sub
  frame := W.frame
  item := fun i d s Q E hi hst hQ => W.item i d s Q E hi hst fun v h' tk hy hst' hk => hQ v h' tk (fun Av' hmv hav => hy Av' (fun v d r => hmv v d (hm v d r)) hav) hst' hk
  done := W.done
  self := W.self
theorem plain_fields {c d vs sl} : PlainObj ⟨c, d, .fields vs, sl⟩ := ⟨(fun _ _ e => nomatch e), (fun _ e => nomatch e)⟩
theorem plain_seq {c d vs n sl} : PlainObj ⟨c, d, .seq vs n, sl⟩ := ⟨(fun _ _ e => nomatch e), (fun _ e => nomatch e)⟩
noncomputable def notSet (e : Expr) : Bool := e.ctorIdx != 7
theorem folded_plain {e : Expr} {env : Env} {x : Value} (h : notSet e = true) : foldedSetIterable e env x = pure x := by
  cases e <;> first | rfl | exact absurd h Bool.false_ne_true
noncomputable def IterOK (prog : Program) (w : World) (h₀ : Heap) (r : Nat) (sc : Scope) (ρ : REnv) (t e : Expr) (items : List PyData) : Prop :=
  notSet e = true ∧ ∀ env s Av α A, env.scope = sc → AOK r A → StE h₀ env Av α ρ s.heap →
    wpAny (model prog w) A (eval e env) (fun x s₁ => wpAny (model prog w) A (pyIter x) (fun it s₂ => Keeps s s₂ ∧ ∃ wr, (∀ b ∈ wr, s.heap.get? b = none) ∧ ItOK prog w h₀ A Av t it wr items s₂) NoE s₁) NoE s
section
variable {prog : Program} {w : World} {h₀ : Heap} {r : Nat} {sc : Scope} {ρ : REnv} {mg mb : Str → Option Value} {Φ : Funs}
theorem get_none_size (h : Heap) {a : Addr} (ha : h.objs.size ≤ a) : h.get? a = none := by
  cases e : h.get? a with
  | none => rfl
  | some o => exact absurd (Heap.lt_size e) (Nat.not_lt.mpr ha)
theorem it_list {x : Str} {px : Pos} {e : Expr} {items : List PyData} (hn : notSet e = true) (h : EvOK prog w h₀ r sc ρ e (.list items)) : IterOK prog w h₀ r sc ρ (.Name x px) e items := ⟨hn, fun env s Av α A hs ha st => by
  refine wpAny_mono (h env s Av α A hs ha st) (fun xv s₁ h₁ => ?_) noE
  obtain ⟨k₁, rx⟩ := h₁
  cases rx with
  | @list l vals n _ a1 a2 a3 =>
  have hlen : vals.size = items.length := by have := a3.length; simpa using this
  have hlt := Heap.lt_size a2
  refine wpAny_pyIter_list ⟨_, a2, rfl, _, rfl⟩ ⟨keeps_trans k₁ keeps_push, [s₁.heap.objs.size], ?_, ?_⟩
  · intro b hb
    rcases List.mem_singleton.mp hb with rfl
    cases e : s.heap.get? s₁.heap.objs.size with
    | none => rfl
    | some o => exact absurd (Heap.lt_size (keeps_get k₁ _ _ e)) (Nat.lt_irrefl _)
  refine ⟨s₁.heap.objs.size, _, _, rfl, walksZ (hlen ▸ Walks.list ha.1 s₁.heap.objs.size l (Nat.ne_of_lt hlt) vals) ?_, ?_, ?_, ?_, ?_⟩
  · intro i v _ hv
    obtain ⟨d, hd, rd⟩ := a3.get (i := i) (v := v) (by simpa using hv)
    refine ⟨d, hd, rd.move (fun a o _ e _ => Heap.get?_push_of_some _ e) (fun a o ha' e _ hm => ?_)⟩
    rcases List.mem_append.mp hm with hz | hz
    · rcases List.mem_singleton.mp hz with rfl
      exact absurd (Heap.lt_size e) (Nat.lt_irrefl _)
    · exact ha' hz
  · exact ⟨⟨_, Heap.get?_push_size _ rfl, rfl, rfl⟩, ⟨_, Heap.get?_push_of_some _ a2, rfl, _, rfl⟩⟩
  · intro b hb
    rcases List.mem_cons.mp hb with rfl | hb
    · exact ⟨(st.keeps' k₁).av.fresh, _, Heap.get?_push_size _ rfl, plain_fields⟩
    · rcases List.mem_singleton.mp hb with rfl
      exact ⟨a1, _, Heap.get?_push_of_some _ a2, plain_seq⟩
  · intro b hb
    rcases List.mem_singleton.mp hb with rfl
    refine ⟨?_, _, Heap.get?_push_size _ rfl⟩
    cases e : h₀.get? s₁.heap.objs.size with
    | none => rfl
    | some o => exact absurd (Heap.lt_size ((st.keeps' k₁).base _ _ e)) (Nat.lt_irrefl _)
  · intro i h hst b hb
    rcases List.mem_cons.mp hb with rfl | hb
    · obtain ⟨o, ho, _⟩ := hst.1
      exact ⟨o, ho⟩
    · rcases List.mem_singleton.mp hb with rfl
      obtain ⟨o, ho, _⟩ := hst.2
      exact ⟨o, ho⟩⟩
theorem it_range {x : Str} {px : Pos} (B : BaseOK h₀ mg mb) {f : Str} {p pos : Pos} {args : List Expr} {a b : Int} {ds : List PyData} (hf : f = "range") (hk : sc.names.lookup f = some .globalImplicit) (hargs : EsOK prog w h₀ r sc ρ args ds)
    (hds : (ds = [.int b] ∧ a = 0) ∨ ds = [.int a, .int b]) (ha1 : -1000000 ≤ a) (ha2 : a ≤ 1000000) (hb1 : -1000000 ≤ b) (hb2 : b ≤ 1000000) :
    IterOK prog w h₀ r sc ρ (.Name x px) (.Call (.Name f p) args [] pos) (rangeTo a b) := ⟨rfl, fun env s Av α A hs ha st => by
  subst hs hf
  refine wpAny_Call_NameR (load_blt B st hk (by decide) B.range.1 B.range.2 ?_)
  rw [backTo_plain hargs.1]
  refine PySem.callWith_type any_plain (evalArgs_list (wpAny_mono (hargs.2 env s Av α A rfl ha st) (fun vs s₁ h₁ => ?_) noE))
  obtain ⟨k₁, rv⟩ := h₁
  have hlen : (rangeTo a b).length = (b - a).toNat := by simp [rangeTo]
  have key : ∀ (t u v : Tok) (tk : Nat), wpAny (model prog w) A (pyIter (.ref s₁.heap.objs.size)) (fun it s₂ => Keeps s s₂ ∧ ∃ wr, (∀ b ∈ wr, s.heap.get? b = none) ∧ ItOK prog w h₀ A Av (.Name x px) it wr (rangeTo a b) s₂) NoE
      { s₁ with heap := s₁.heap.push { cls := .type "range", data := .fields #[.int a t, .int b u, .int 1 v] }, toks := tk } := by
    intro t u v tk
    refine wpAny_pyIter_range (IsRange.new ..) (small_one (by omega) (by omega) (by omega) (by omega)) ?_
    have hsz : Builtin.Range.rangeSize a b 1 = ((b - a).toNat : Int) := by rw [rangeSize_one]; split <;> omega
    dsimp only
    have e0 : (s₁.heap.push { cls := .type "range", data := .fields #[.int a t, .int b u, .int 1 v] }).objs.size = s₁.heap.objs.size + 1 := Heap.size_push ..
    refine ⟨keeps_trans k₁ ⟨_, _, rfl, fun _ _ e => Heap.get?_push_of_some _ (Heap.get?_push_of_some _ e)⟩, [s₁.heap.objs.size + 1], ?_, ?_⟩
    · intro c hc
      rcases List.mem_singleton.mp hc with rfl
      cases e : s.heap.get? (s₁.heap.objs.size + 1) with
      | none => rfl
      | some o => exact absurd (Heap.lt_size (keeps_get k₁ _ _ e)) (Nat.not_lt.mpr (Nat.le_succ _))
    rw [e0]
    refine ⟨s₁.heap.objs.size + 1, _, _, rfl, walksZ (Walks.range ha.1 (s₁.heap.objs.size + 1) a 1 (rangeTo a b).length) ?_, ?_, ?_, ?_, ?_⟩
    · rintro i v hi ⟨t', rfl⟩
      refine ⟨.int (a + i), ?_, by simpa using Rep.int _ _⟩
      rw [hlen] at hi
      simp [rangeTo, hi]
    · have e1 : (a + ((0 : Nat) : Int) * 1) = a := by simp
      have e2 : (((b - a).toNat : Int) - ((0 : Nat) : Int)) = Builtin.Range.rangeSize a b 1 := by rw [hsz]; simp
      rw [hlen, e1, e2, ← e0]
      exact Heap.get?_push_size _ rfl
    · intro c hc
      rcases List.mem_singleton.mp hc with rfl
      refine ⟨fun hm => ?_, _, by rw [← e0]; exact Heap.get?_push_size _ rfl, plain_fields⟩
      obtain ⟨o, ho⟩ := (st.keeps' k₁).av _ hm
      exact absurd (Heap.lt_size ho) (Nat.not_lt.mpr (Nat.le_succ _))
    · intro c hc
      rcases List.mem_singleton.mp hc with rfl
      refine ⟨?_, _, by rw [← e0]; exact Heap.get?_push_size _ rfl⟩
      cases e : h₀.get? (s₁.heap.objs.size + 1) with
      | none => rfl
      | some o => exact absurd (Heap.lt_size ((st.keeps' k₁).base _ _ e)) (Nat.not_lt.mpr (Nat.le_succ _))
    · intro i h hst b hb
      rcases List.mem_singleton.mp hb with rfl
      exact ⟨_, hst⟩
  rcases hds with ⟨rfl, rfl⟩ | rfl
  · cases rv with
    | cons r1 r2 =>
    cases r2; cases r1
    exact call_range_1 (key _ _ _ _)
  · cases rv with
    | cons r1 r2 =>
    cases r2 with
    | cons r2 r3 =>
    cases r3; cases r1; cases r2
    exact call_range_2 (key _ _ _ _)⟩
end
theorem StoreAt.notSeq {env : Env} {h : Heap} {x : Str} {W : Addr} (ok : EnvOK env h) (sa : StoreAt env x W) : ∀ o, h.get? W = some o → ¬ SeqObj o := by
  rcases sa with ⟨_, rfl⟩ | ⟨hk, hc⟩
  · obtain ⟨m, hm⟩ := ok.loc
    exact fun o e => ns_not_seq hm e
  · obtain ⟨c, v, hc', hv⟩ := ok.cell x (.inl hk)
    rw [hc] at hc'; cases hc'
    exact fun o e => cell_not_seq hv e
theorem StoreAt.exists {env : Env} {h : Heap} {x : Str} {W : Addr} (ok : EnvOK env h) (sa : StoreAt env x W) : ∃ o, h.get? W = some o := by
  rcases sa with ⟨_, rfl⟩ | ⟨hk, hc⟩
  · obtain ⟨m, o, _, _, ho, _⟩ := ok.loc
    exact ⟨o, ho⟩
  · obtain ⟨c, v, hc', o, ho, _⟩ := ok.cell x (.inl hk)
    rw [hc] at hc'; cases hc'
    exact ⟨o, ho⟩
section
variable {h₀ : Heap} {env : Env} {Av : List Addr} {α : Str → Addr} {ρ : REnv} {h h' : Heap}
theorem StE.store (st : StE h₀ env Av α ρ h) {x : Str} {W : Addr} {v : Value} {d : PyData} (hW : StoreAt env x W) (hns : ∀ o, h.get? W = some o → ¬ SeqObj o) (hk : ∀ b o, b ≠ W → h.get? b = some o → h'.get? b = some o)
    (ok' : EnvOK env h') (hx : Loads env h' x v) (hy : ∀ y u, y ≠ x → Loads env h y u → Loads env h' y u) (rv : Rep Av h v d) : StE h₀ env Av α (ρ.set x (.val d)) h' := by
  have sk : ∀ a o, h.get? a = some o → SeqObj o → h'.get? a = some o := fun a o e hs => hk a o (fun e' => hns o (e' ▸ e) hs) e
  have mv : ∀ {v d}, Rep Av h v d → Rep Av h' v d := fun r => r.move (fun a o _ e hs => sk a o e hs) fun _ _ x _ _ => x
  have mva : ∀ {v d}, RepAll Av h v d → RepAll Av h' v d := fun r => r.move (fun a o _ e hs => sk a o e hs) fun _ _ x _ _ => x
  refine ⟨ok', fun b o e => hk b o (fun e' => by have := st.wr x W hW; rw [← e', e] at this; cases this) (st.base b o e), fun a ha => ?_, st.wr, fun y d' e => ?_, fun y xs e => ?_, fun y z xs ys e1 e2 e3 => ?_⟩
  · by_cases e : a = W
    · subst e; exact hW.exists ok'
    · obtain ⟨o, ho⟩ := st.av a ha
      exact ⟨o, hk a o e ho⟩
  · unfold REnv.set at e
    split at e
    · rename_i hyx; cases e; subst hyx; exact ⟨v, hx, mv rv⟩
    · rename_i hyx
      obtain ⟨u, hu, ru⟩ := st.val y d' e
      exact ⟨u, hy y u hyx hu, mv ru⟩
  · unfold REnv.set at e
    split at e
    · cases e
    · rename_i hyx
      obtain ⟨items, n, a1, a2, a2', a3, a4⟩ := st.own y xs e
      exact ⟨items, n, hy y _ hyx a1, a2, a2', sk _ _ a3 ⟨_, _, rfl⟩, mva a4⟩
  · unfold REnv.set at e1 e2
    split at e1
    · cases e1
    · split at e2
      · cases e2
      · exact st.inj y z xs ys e1 e2 e3
theorem StE.weaken {ρ1 : REnv} (st : StE h₀ env Av α ρ1 h) (e : ∀ y u, ρ y = some u → ρ1 y = some u) : StE h₀ env Av α ρ h :=
  ⟨st.ok, st.base, st.av, st.wr, fun y d h => st.val y d (e _ _ h), fun y xs h => st.own y xs (e _ _ h), fun y z xs ys h1 h2 => st.inj y z xs ys (e _ _ h1) (e _ _ h2)⟩
theorem Rep.avoidNew {Z : List Addr} (hk : ∀ b o, h.get? b = some o → h'.get? b = some o) (hZ : ∀ b ∈ Z, h.get? b = Option.none) {v d} (r : Rep Av h v d) : Rep (Z ++ Av) h' v d :=
  r.move (fun a o _ e _ => hk a o e) fun a o ha e _ hm => by
    rcases List.mem_append.mp hm with hz | hz
    · rw [hZ a hz] at e; cases e
    · exact ha hz
theorem RepAll.avoidNew {Z : List Addr} (hk : ∀ b o, h.get? b = some o → h'.get? b = some o) (hZ : ∀ b ∈ Z, h.get? b = Option.none) {v d} (r : RepAll Av h v d) : RepAll (Z ++ Av) h' v d :=
  r.move (fun a o _ e _ => hk a o e) fun a o ha e _ hm => by
    rcases List.mem_append.mp hm with hz | hz
    · rw [hZ a hz] at e; cases e
    · exact ha hz
theorem StE.avoidNew (st : StE h₀ env Av α ρ h) (hk : ∀ b o, h.get? b = some o → h'.get? b = some o) (Z : List Addr) (hZ : ∀ b ∈ Z, h.get? b = none ∧ ∃ o, h'.get? b = some o) : StE h₀ env (Z ++ Av) α ρ h' := by
  have st' := st.keeps hk
  refine ⟨st'.ok, st'.base, fun a ha => ?_, st.wr, fun y d e => ?_, fun y xs e => ?_, st.inj⟩
  · rcases List.mem_append.mp ha with hz | hz
    · exact (hZ a hz).2
    · exact st'.av a hz
  · obtain ⟨u, hu, ru⟩ := st.val y d e
    exact ⟨u, hu.keeps hk, ru.avoidNew hk fun b hb => (hZ b hb).1⟩
  · obtain ⟨items, n, a1, a2, a2', a3, a4⟩ := st.own y xs e
    exact ⟨items, n, a1.keeps hk, List.mem_append.mpr (.inr a2), a2', hk _ _ a3, a4.avoidNew hk fun b hb => (hZ b hb).1⟩
theorem StE.perm {Av' : List Addr} (st : StE h₀ env Av α ρ h) (hp : ∀ a, a ∈ Av' ↔ a ∈ Av) : StE h₀ env Av' α ρ h := by
  refine ⟨st.ok, st.base, fun a ha => st.av a ((hp a).mp ha), st.wr, fun y d e => ?_, fun y xs e => ?_, st.inj⟩
  · obtain ⟨u, hu, ru⟩ := st.val y d e
    exact ⟨u, hu, ru.move (fun _ _ _ e _ => e) fun a o ha _ _ hm => ha ((hp a).mp hm)⟩
  · obtain ⟨items, n, a1, a2, a2', a3, a4⟩ := st.own y xs e
    exact ⟨items, n, a1, (hp _).mpr a2, a2', a3, a4.move (fun _ _ _ e _ => e) fun a o ha _ _ hm => ha ((hp a).mp hm)⟩
theorem StE.change (st : StE h₀ env Av α ρ h) (Z : List Addr) (hk : ∀ b o, b ∉ Z → h.get? b = some o → h'.get? b = some o) (hZav : ∀ b ∈ Z, b ∈ Av) (hex : ∀ b ∈ Z, ∃ o, h'.get? b = some o) (hZ0 : ∀ b ∈ Z, h₀.get? b = none)
    (hZl : env.locals ∉ Z) (hZc : ∀ x c, (env.kindOf x = some .cell ∨ env.kindOf x = some .free) → env.cells.lookup x = some c → c ∉ Z) (hZo : ∀ x xs, ρ x = some (.own xs) → α x ∉ Z) : StE h₀ env Av α ρ h' := by
  have mv : ∀ {v d}, Rep Av h v d → Rep Av h' v d := fun r => r.move (fun a o ha e hs => hk a o (fun hz => ha (hZav a hz)) e) fun _ _ x _ _ => x
  have mva : ∀ {v d}, RepAll Av h v d → RepAll Av h' v d := fun r => r.move (fun a o ha e hs => hk a o (fun hz => ha (hZav a hz)) e) fun _ _ x _ _ => x
  have hns : ∀ {m}, h.Ns env.locals m → h'.Ns env.locals m := fun hn => hn.at' fun o e => hk _ o hZl e
  have hcl : ∀ {x c v}, (env.kindOf x = some .cell ∨ env.kindOf x = some .free) → env.cells.lookup x = some c → h.IsCell c v → h'.IsCell c v := fun hx hc hv => let ⟨o, ho, hd⟩ := hv; ⟨o, hk _ o (hZc _ _ hx hc) ho, hd⟩
  have hld : ∀ {x v}, Loads env h x v → Loads env h' x v := fun l => by
    cases l with
    | loc a b c => exact .loc a (hns b) c
    | cell a b c => exact .cell a b (hcl (.inl a) b c)
    | free a b c => exact .free a b (hcl (.inr a) b c)
  refine ⟨⟨st.ok.fn, st.ok.glob, st.ok.blt, let ⟨m, hm⟩ := st.ok.loc; ⟨m, hns hm⟩, fun x hx => let ⟨c, v, a, b⟩ := st.ok.cell x hx; ⟨c, v, a, hcl hx a b⟩, st.ok.inj⟩,
    fun b o e => hk b o (fun hz => by rw [hZ0 b hz] at e; cases e) (st.base b o e), fun a ha => ?_, st.wr, fun y d e => ?_, fun y xs e => ?_, st.inj⟩
  · by_cases hz : a ∈ Z
    · exact hex a hz
    · obtain ⟨o, ho⟩ := st.av a ha
      exact ⟨o, hk a o hz ho⟩
  · obtain ⟨u, hu, ru⟩ := st.val y d e
    exact ⟨u, hld hu, mv ru⟩
  · obtain ⟨items, n, a1, a2, a2', a3, a4⟩ := st.own y xs e
    exact ⟨items, n, hld a1, a2, a2', hk _ _ (hZo y xs e) a3, mva a4⟩
theorem StE.avoid (st : StE h₀ env Av α ρ h) (Z : List Addr) (hZ : ∀ b ∈ Z, ∃ o, h.get? b = some o ∧ ¬ SeqObj o) : StE h₀ env (Z ++ Av) α ρ h := by
  have hav : ∀ a o, a ∉ Av → h.get? a = some o → SeqObj o → a ∉ Z ++ Av := fun a o ha e hs hm => by
    rcases List.mem_append.mp hm with hz | hz
    · obtain ⟨o', e', hn⟩ := hZ a hz
      rw [e] at e'; cases e'; exact hn hs
    · exact ha hz
  refine ⟨st.ok, st.base, fun a ha => ?_, st.wr, fun y d e => ?_, fun y xs e => ?_, st.inj⟩
  · rcases List.mem_append.mp ha with hz | hz
    · obtain ⟨o', e', _⟩ := hZ a hz; exact ⟨o', e'⟩
    · exact st.av a hz
  · obtain ⟨u, hu, ru⟩ := st.val y d e
    exact ⟨u, hu, ru.move (fun _ _ _ e _ => e) hav⟩
  · obtain ⟨items, n, a1, a2, a2', a3, a4⟩ := st.own y xs e
    exact ⟨items, n, a1, List.mem_append.mpr (.inr a2), a2', a3, a4.move (fun _ _ _ e _ => e) hav⟩
theorem StE.drop {Z : List Addr} (st : StE h₀ env (Z ++ Av) α ρ h) (hk : ∀ b o, b ∉ Z → h.get? b = some o → h'.get? b = some o) (hdis : ∀ b ∈ Av, b ∉ Z) (hZ0 : ∀ b ∈ Z, h₀.get? b = none)
    (hZl : env.locals ∉ Z) (hZc : ∀ x c, (env.kindOf x = some .cell ∨ env.kindOf x = some .free) → env.cells.lookup x = some c → c ∉ Z) (hZo : ∀ x xs, ρ x = some (.own xs) → α x ∉ Z) : StE h₀ env Av α ρ h' := by
  have mv : ∀ {v d}, Rep (Z ++ Av) h v d → Rep Av h' v d := fun r => r.move (fun a o ha e hs => hk a o (fun hz => ha (List.mem_append.mpr (.inl hz))) e) fun _ _ x _ _ hm => x (List.mem_append.mpr (.inr hm))
  have mva : ∀ {v d}, RepAll (Z ++ Av) h v d → RepAll Av h' v d := fun r => r.move (fun a o ha e hs => hk a o (fun hz => ha (List.mem_append.mpr (.inl hz))) e) fun _ _ x _ _ hm => x (List.mem_append.mpr (.inr hm))
  have hns : ∀ {m}, h.Ns env.locals m → h'.Ns env.locals m := fun hn => hn.at' fun o e => hk _ o hZl e
  have hcl : ∀ {x c v}, (env.kindOf x = some .cell ∨ env.kindOf x = some .free) → env.cells.lookup x = some c → h.IsCell c v → h'.IsCell c v := fun hx hc hv => let ⟨o, ho, hd⟩ := hv; ⟨o, hk _ o (hZc _ _ hx hc) ho, hd⟩
  have hld : ∀ {x v}, Loads env h x v → Loads env h' x v := fun l => by
    cases l with
    | loc a b c => exact .loc a (hns b) c
    | cell a b c => exact .cell a b (hcl (.inl a) b c)
    | free a b c => exact .free a b (hcl (.inr a) b c)
  refine ⟨⟨st.ok.fn, st.ok.glob, st.ok.blt, let ⟨m, hm⟩ := st.ok.loc; ⟨m, hns hm⟩, fun x hx => let ⟨c, v, a, b⟩ := st.ok.cell x hx; ⟨c, v, a, hcl hx a b⟩, st.ok.inj⟩,
    fun b o e => hk b o (fun hz => by rw [hZ0 b hz] at e; cases e) (st.base b o e), fun a ha => ?_, st.wr, fun y d e => ?_, fun y xs e => ?_, st.inj⟩
  · obtain ⟨o, ho⟩ := st.av a (List.mem_append.mpr (.inr ha))
    exact ⟨o, hk a o (hdis a ha) ho⟩
  · obtain ⟨u, hu, ru⟩ := st.val y d e
    exact ⟨u, hld hu, mv ru⟩
  · obtain ⟨items, n, a1, a2, a2', a3, a4⟩ := st.own y xs e
    exact ⟨items, n, hld a1, (List.mem_append.mp a2).resolve_left (hZo y xs e), a2', hk _ _ (hZo y xs e) a3, mva a4⟩
noncomputable def NoOwn (ρ : REnv) : Prop := ∀ x xs, ρ x ≠ some (.own xs)
theorem NoOwn.set {ρ : REnv} (h : NoOwn ρ) (x d) : NoOwn (ρ.set x (.val d)) := fun y xs e => by
  unfold REnv.set at e
  split at e
  · cases e
  · exact h y xs e
/-- to a smaller set of addresses, where nothing is owned -/
theorem StE.less {Av'} (st : StE h₀ env Av α ρ h) (hn : NoOwn ρ) (hs : ∀ a ∈ Av', a ∈ Av) : StE h₀ env Av' α ρ h :=
  ⟨st.ok, st.base, fun a ha => st.av a (hs a ha), st.wr, fun y d e => let ⟨u, a, b⟩ := st.val y d e; ⟨u, a, b.move (fun _ _ _ e _ => e) fun a _ ha _ _ hm => ha (hs a hm)⟩,
    fun y xs e => absurd e (hn y xs), fun y _ xs _ e => absurd e (hn y xs)⟩
end
theorem atgt_name {sc : Scope} {x : Str} {p : Pos} {d : PyData} {ρ : REnv} (h : kindOk sc x = true) : atgt sc (.Name x p) d ρ = some (ρ.set x (.val d)) := if_pos h
inductive Atgt (sc : Scope) (ρ : REnv) : Expr → PyData → REnv → Prop
  | one (x : Str) (p : Pos) (d : PyData) (h : kindOk sc x = true) : Atgt sc ρ (.Name x p) d (ρ.set x (.val d))
  | two (x : Str) (px : Pos) (y : Str) (py : Pos) (k : Nat) (tp : Pos) (a b : PyData) (h : kindOk sc x = true ∧ kindOk sc y = true ∧ x ≠ y) : Atgt sc ρ (.Tuple [.Name x px, .Name y py] k tp) (.tuple [a, b]) ((ρ.set x (.val a)).set y (.val b))
  | three (x : Str) (px : Pos) (y : Str) (py : Pos) (z : Str) (pz : Pos) (k : Nat) (tp : Pos) (a b c : PyData) (h : kindOk sc x = true ∧ kindOk sc y = true ∧ kindOk sc z = true ∧ x ≠ y ∧ x ≠ z ∧ y ≠ z) :
      Atgt sc ρ (.Tuple [.Name x px, .Name y py, .Name z pz] k tp) (.tuple [a, b, c]) (((ρ.set x (.val a)).set y (.val b)).set z (.val c))
theorem atgt_two {sc : Scope} {x y : Str} {px py : Pos} {k : Nat} {tp : Pos} {d : PyData} {ρ ρ1 : REnv} (h : atgt sc (.Tuple [.Name x px, .Name y py] k tp) d ρ = some ρ1) : Atgt sc ρ (.Tuple [.Name x px, .Name y py] k tp) d ρ1 := by
  cases d with
  | tuple xs => cases xs with
    | nil => exact none_no h
    | cons a xs => cases xs with
      | nil => exact none_no h
      | cons b xs => cases xs with
        | nil =>
          obtain ⟨hc, h⟩ := ite_some h
          cases h
          exact .two x px y py k tp a b hc
        | cons _ _ => exact none_no h
  | _ => exact none_no h
theorem atgt_three {sc : Scope} {x y z : Str} {px py pz : Pos} {k : Nat} {tp : Pos} {d : PyData} {ρ ρ1 : REnv} (h : atgt sc (.Tuple [.Name x px, .Name y py, .Name z pz] k tp) d ρ = some ρ1) : Atgt sc ρ (.Tuple [.Name x px, .Name y py, .Name z pz] k tp) d ρ1 := by
  cases d with
  | tuple xs => cases xs with
    | nil => exact none_no h
    | cons a xs => cases xs with
      | nil => exact none_no h
      | cons b xs => cases xs with
        | nil => exact none_no h
        | cons c xs => cases xs with
          | nil =>
            obtain ⟨hc, h⟩ := ite_some h
            cases h
            exact .three x px y py z pz k tp a b c hc
          | cons _ _ => exact none_no h
  | _ => exact none_no h
theorem atgt_inv {sc : Scope} {t : Expr} {d : PyData} {ρ ρ1 : REnv} (h : atgt sc t d ρ = some ρ1) : Atgt sc ρ t d ρ1 := by
  cases t with
  | Name x p =>
    obtain ⟨hk, h⟩ := ite_some (P := kindOk sc x = true) h
    cases h
    exact .one x p d hk
  | Tuple es k tp => cases es with
    | nil => exact none_no h
    | cons e es => cases e with
      | Name x px => cases es with
        | nil => exact none_no h
        | cons e es => cases e with
          | Name y py => cases es with
            | nil => exact atgt_two h
            | cons e es => cases e with
              | Name z pz => cases es with
                | nil => exact atgt_three h
                | cons _ _ => exact none_no h
              | _ => exact none_no h
          | _ => exact none_no h
      | _ => exact none_no h
  | _ => exact none_no h
theorem set_own {ρ : REnv} {x y : Str} {d : PyData} {xs : List PyData} (h : (ρ.set x (.val d)) y = some (.own xs)) : ρ y = some (.own xs) := by
  by_cases e : y = x
  · subst e; rw [set_at] at h; cases h
  · rwa [set_ne e] at h
theorem atgt_some {sc : Scope} {t : Expr} {d : PyData} {ρ ρ1 : REnv} (h : atgt sc t d ρ = some ρ1) : (∀ y, y ∉ tnames t → ρ1 y = ρ y) ∧ (∀ y xs, ρ1 y = some (.own xs) → ρ y = some (.own xs)) := by
  cases atgt_inv h with
  | one x p d hk => exact ⟨fun y hy => set_ne fun e => hy (by rw [e]; exact List.mem_singleton_self x), fun y xs e => set_own e⟩
  | two x px y py k tp a b hc =>
    exact ⟨fun u hu => by
      rw [set_ne fun e => hu (by rw [e]; exact List.mem_cons_of_mem x (List.mem_singleton_self y)), set_ne fun e => hu (by rw [e]; exact List.mem_cons_self)], fun u xs e => set_own (set_own e)⟩
  | three x px y py z pz k tp a b c hc =>
    exact ⟨fun u hu => by
      rw [set_ne fun e => hu (by rw [e]; exact List.mem_cons_of_mem x (List.mem_cons_of_mem y (List.mem_singleton_self z))), set_ne fun e => hu (by rw [e]; exact List.mem_cons_of_mem x List.mem_cons_self), set_ne fun e => hu (by rw [e]; exact List.mem_cons_self)],
      fun u xs e => set_own (set_own (set_own e))⟩
theorem StE.forgetT {h₀ : Heap} {env : Env} {Av : List Addr} {α : Str → Addr} {ρ ρ1 : REnv} {h : Heap} {sc : Scope} {t : Expr} {d : PyData} (st : StE h₀ env Av α ρ1 h) (ht : atgt sc t d ρ = some ρ1) (hx : ∀ y ∈ tnames t, ρ y = none) : StE h₀ env Av α ρ h :=
  st.weaken fun y u hy => by
    rw [(atgt_some ht).1 y fun hm => by rw [hx y hm] at hy; cases hy]; exact hy
section
variable {prog : Program} {w : World} {h₀ : Heap} {A : Around} {E : Value → Shared → Prop} {s : Shared} {env : Env} {Av : List Addr} {α : Str → Addr} {ρ : REnv}
theorem store1 {x : Str} {v : Value} {d : PyData} {Q : Unit → Shared → Prop} (st : StE h₀ env Av α ρ s.heap) (hk : kindOk env.scope x = true) (rv : Rep Av s.heap v d)
    (hQ : ∀ h' tk, StE h₀ env Av α (ρ.set x (.val d)) h' → (∀ b o, ¬ StoreAt env x b → s.heap.get? b = some o → h'.get? b = some o) → (∀ b o, s.heap.get? b = some o → SeqObj o → h'.get? b = some o) →
      (∀ b o, s.heap.get? b = some o → ∃ o', h'.get? b = some o') → Q () { s with heap := h', toks := tk }) : wpAny (model prog w) A (assign (.Name x p) env v) Q E s := by
  have hk' : env.kindOf x = some .local ∨ env.kindOf x = some .cell := by
    unfold kindOk at hk
    simp only [Bool.or_eq_true, beq_iff_eq] at hk
    exact hk
  refine wpAny_assign_Name (store_ok st.ok hk' fun h' tk W hW hns hkp ok' hx hy => ?_)
  refine hQ h' tk (st.store hW hns hkp ok' hx hy rv) (fun b o hs e => hkp b o (fun e' => hs (e' ▸ hW)) e) (fun b o e hso => hkp b o (fun e' => hns o (e' ▸ e) hso) e) (fun b o e => ?_)
  by_cases e' : b = W
  · subst e'; exact hW.exists ok'
  · exact ⟨o, hkp b o e' e⟩
theorem asg_ok {t : Expr} {d : PyData} {ρ1 : REnv} {v : Value} {Q : Unit → Shared → Prop} (hh : A.handled = none) (st : StE h₀ env Av α ρ s.heap) (ht : atgt env.scope t d ρ = some ρ1) (rv : Rep Av s.heap v d)
    (hQ : ∀ h' tk, StE h₀ env Av α ρ1 h' → (∀ b o, (∀ x ∈ tnames t, ¬ StoreAt env x b) → s.heap.get? b = some o → h'.get? b = some o) → (∀ b o, s.heap.get? b = some o → SeqObj o → h'.get? b = some o) →
      (∀ b o, s.heap.get? b = some o → ∃ o', h'.get? b = some o') → Q () { s with heap := h', toks := tk }) : wpAny (model prog w) A (assign t env v) Q E s := by
  cases atgt_inv ht with
  | one x p d hk =>
      exact store1 st hk rv fun h' tk st' k1 k2 k3 => hQ h' tk st' (fun b o hs e => k1 b o (hs x (List.mem_singleton_self x)) e) k2 k3
  | two x px y py k tp a b hc =>
      obtain ⟨hx, hy, hxy⟩ := hc
      rw [arm_assign_Tuple]
      refine wpAny_bind (wpAny_standAt ?_)
      unfold unpack
      cases rv with
      | @tuple l items n _ a1 a2 a3 =>
      have hsz : items.size = 2 := by have := a3.length; simpa using this
      show wpAny _ A (holding [Value.ref l] (unpackItems (Value.ref l) 2 none) >>= fun xs => assignInOrder [assign (.Name x px) env, assign (.Name y py) env] xs) _ _ s
      refine wpAny_bind (wpAny_holding ?_)
      have hun := wpAny_unpackItems_tuple (prog := prog) (w := w) (A := A) (E := E) (s := s) (t := l) (items := items) (Q := fun xs s1 => wpAny (model prog w) A (assignInOrder [assign (.Name x px) env, assign (.Name y py) env] xs) Q E s1) hh ⟨_, a2, rfl, _, rfl⟩ (fun h' he => ?_)
      · rwa [hsz] at hun
      · have hex : ∀ b o, s.heap.get? b = some o → h'.get? b = some o := fun b o e => he b o (Nat.ne_of_lt (Heap.lt_size e)) e
        generalize hl : items.toList = vs at a3
        cases a3 with
        | @cons va _ _ _ r1 r2 =>
        cases r2 with
        | @cons vb _ _ _ r2 r3 =>
        cases r3
        show wpAny _ A (holding [vb] (assign (.Name x px) env va) >>= fun _ => (holding [] (assign (.Name y py) env vb) >>= fun _ => pure ())) _ _ _
        refine wpAny_bind (wpAny_holding (store1 (s := { s with heap := h' }) (st.keeps hex) hx (r1.keeps hex) fun h2 tk2 st2 k1 k2 k3 => ?_))
        refine wpAny_bind (wpAny_holding (store1 (s := { s with heap := h2, toks := tk2 }) st2 hy ((r2.keeps hex).move (fun a o _ e hso => k2 a o e hso) (fun _ _ q _ _ => q)) fun h3 tk3 st3 j1 j2 j3 => wpAny_pure ?_))
        refine hQ h3 tk3 st3 (fun b o hs e => j1 b o (hs y (List.mem_cons_of_mem x (List.mem_singleton_self y))) (k1 b o (hs x List.mem_cons_self) (hex b o e))) (fun b o e hso => j2 b o (k2 b o (hex b o e) hso) hso) (fun b o e => ?_)
        obtain ⟨o', ho'⟩ := k3 b o (hex b o e)
        exact j3 b o' ho'
  | three x px y py z pz k tp a b c hc =>
      obtain ⟨hx, hy, hz, _⟩ := hc
      rw [arm_assign_Tuple]
      refine wpAny_bind (wpAny_standAt ?_)
      unfold unpack
      cases rv with
      | @tuple l items n _ a1 a2 a3 =>
      have hsz : items.size = 3 := by have := a3.length; simpa using this
      show wpAny _ A (holding [Value.ref l] (unpackItems (Value.ref l) 3 none) >>= fun xs => assignInOrder [assign (.Name x px) env, assign (.Name y py) env, assign (.Name z pz) env] xs) _ _ s
      refine wpAny_bind (wpAny_holding ?_)
      have hun := wpAny_unpackItems_tuple (prog := prog) (w := w) (A := A) (E := E) (s := s) (t := l) (items := items) (Q := fun xs s1 => wpAny (model prog w) A (assignInOrder [assign (.Name x px) env, assign (.Name y py) env, assign (.Name z pz) env] xs) Q E s1) hh ⟨_, a2, rfl, _, rfl⟩ (fun h' he => ?_)
      · rwa [hsz] at hun
      · have hex : ∀ b o, s.heap.get? b = some o → h'.get? b = some o := fun b o e => he b o (Nat.ne_of_lt (Heap.lt_size e)) e
        generalize hl : items.toList = vs at a3
        cases a3 with
        | @cons va _ _ _ r1 r2 =>
        cases r2 with
        | @cons vb _ _ _ r2 r3 =>
        cases r3 with
        | @cons vc _ _ _ r3 r4 =>
        cases r4
        show wpAny _ A (holding [vb, vc] (assign (.Name x px) env va) >>= fun _ => (holding [vc] (assign (.Name y py) env vb) >>= fun _ => (holding [] (assign (.Name z pz) env vc) >>= fun _ => pure ()))) _ _ _
        refine wpAny_bind (wpAny_holding (store1 (s := { s with heap := h' }) (st.keeps hex) hx (r1.keeps hex) fun h2 tk2 st2 k1 k2 k3 => ?_))
        have r2' := (r2.keeps hex).move (Av' := Av) (fun a o _ e hso => k2 a o e hso) (fun _ _ q _ _ => q)
        have r3' := (r3.keeps hex).move (Av' := Av) (fun a o _ e hso => k2 a o e hso) (fun _ _ q _ _ => q)
        refine wpAny_bind (wpAny_holding (store1 (s := { s with heap := h2, toks := tk2 }) st2 hy r2' fun h3 tk3 st3 j1 j2 j3 => ?_))
        refine wpAny_bind (wpAny_holding (store1 (s := { s with heap := h3, toks := tk3 }) st3 hz (r3'.move (fun a o _ e hso => j2 a o e hso) (fun _ _ q _ _ => q)) fun h4 tk4 st4 i1 i2 i3 => wpAny_pure ?_))
        refine hQ h4 tk4 st4 (fun b o hs e => i1 b o (hs z (List.mem_cons_of_mem x (List.mem_cons_of_mem y (List.mem_singleton_self z)))) (j1 b o (hs y (List.mem_cons_of_mem x List.mem_cons_self)) (k1 b o (hs x List.mem_cons_self) (hex b o e)))) (fun b o e hso => i2 b o (j2 b o (k2 b o (hex b o e) hso) hso) hso) (fun b o e => ?_)
        obtain ⟨o', ho'⟩ := k3 b o (hex b o e)
        obtain ⟨o2, ho2⟩ := j3 b o' ho'
        exact i3 b o2 ho2
end
noncomputable abbrev testsOf (ifs : List Expr) (env : Env) : Sem Bool := forIn ifs true fun c r => if r = true then do let ok ← isTrue c env (eval c env); pure (ForInStep.yield ok) else pure (ForInStep.yield r)
theorem compTurn_gen {elt : Expr} {gens : List Comprehension} {scope : Scope} {pos : Pos} {k : Nat} {it acc : Value} {env : Env} {t i : Expr} {ifs : List Expr} (hg : gens[k]? = some ⟨t, i, ifs, 0⟩) :
    compTurn (.ListComp elt gens scope pos) k it acc env = (do
      standAt i.pos
      match ← pyNext it with
      | none => pure (.done .next)
      | some v =>
        letOwnedTupleGo t it v
        assign t env v
        let ok ← testsOf ifs env
        if ok then
          match gens[k + 1]? with
          | some g' =>
            let x ← eval g'.iter env
            standAt g'.iter.pos
            let x ← if g'.is_async != 0 then foldedIterable g'.iter x else foldedSetIterable g'.iter env x
            let _ ← runOwn (.compStart (.ListComp elt gens scope pos) (k + 1) (← holding [x] (if g'.is_async != 0 then asyncIter x else pyIter x)) acc env) env
          | none => (do let _ ← call (.builtin "list.append") [acc, ← eval elt env])
        again (.compLoop (.ListComp elt gens scope pos) k it acc env)) := by
  unfold compTurn
  simp only [hg]
  rfl
section
variable {prog : Program} {w : World} {h₀ : Heap} {r : Nat} {sc : Scope} {ρ : REnv} {mg mb : Str → Option Value} {Φ : Funs}
noncomputable def IfsOK (prog : Program) (w : World) (h₀ : Heap) (r : Nat) (sc : Scope) (ρ : REnv) (ifs : List Expr) (b : Bool) : Prop :=
  ∀ env s Av α A, env.scope = sc → AOK r A → StE h₀ env Av α ρ s.heap → wpAny (model prog w) A (testsOf ifs env) (fun k s' => k = b ∧ Keeps s s') NoE s
theorem tests_false {M : Model} {A : Around} {env : Env} {s : Shared} {Q : Bool → Shared → Prop} {E : Value → Shared → Prop} : ∀ (ifs : List Expr), Q false s →
    wpAny M A (forIn ifs false fun c r => if r = true then do let ok ← isTrue c env (eval c env); pure (ForInStep.yield ok) else pure (ForInStep.yield r)) Q E s
  | [], h => wpAny_pure h
  | c :: r, h => by
    rw [List.forIn_cons]
    exact wpAny_bind (wpAny_pure (tests_false r h))
theorem ifs_nil : IfsOK prog w h₀ r sc ρ [] true := fun env _ _ _ _ _ _ _ => wpAny_pure ⟨rfl, keeps_refl _⟩
theorem ifs_false {e : Expr} {es : List Expr} (he : TrOK prog w h₀ r sc ρ e false) : IfsOK prog w h₀ r sc ρ (e :: es) false := fun env s Av α A hs ha st => by
  show wpAny _ A (forIn (e :: es) true _) _ _ s
  rw [List.forIn_cons]
  simp only [if_true]
  refine wpAny_bind (wpAny_bind (wpAny_mono (he env s Av α A hs ha st) (fun k s₁ h₁ => wpAny_pure ?_) noE))
  obtain ⟨rfl, hk⟩ := h₁
  exact tests_false es ⟨rfl, hk⟩
theorem ifs_true {e : Expr} {es : List Expr} {b : Bool} (he : TrOK prog w h₀ r sc ρ e true) (hr : IfsOK prog w h₀ r sc ρ es b) : IfsOK prog w h₀ r sc ρ (e :: es) b := fun env s Av α A hs ha st => by
  show wpAny _ A (forIn (e :: es) true _) _ _ s
  rw [List.forIn_cons]
  simp only [if_true]
  refine wpAny_bind (wpAny_bind (wpAny_mono (he env s Av α A hs ha st) (fun k s₁ h₁ => wpAny_pure ?_) noE))
  obtain ⟨rfl, hk⟩ := h₁
  exact wpAny_mono (hr env s₁ Av α A hs ha (st.keeps' hk)) (fun _ _ q => ⟨q.1, keeps_trans hk q.2⟩) noE
noncomputable def CLOK (prog : Program) (w : World) (h₀ : Heap) (r : Nat) (sc : Scope) (elt : Expr) (gens : List Comprehension) (scope : Scope) (pos : Pos) (k : Nat) (ρ : REnv) (items ds : List PyData) : Prop :=
  ∀ cenv s Av α A it wr D accI nn acc (R : Result → Shared → Prop), cenv.scope = sc → AOK r A → NoOwn ρ → StE h₀ cenv (wr ++ Av) α ρ s.heap → (∃ g, gens[k]? = some g ∧ ItOK prog w h₀ A Av g.target it wr items s) → D ∈ Av → h₀.get? D = none →
    s.heap.get? D = some (listObj accI nn) → RepAll (wr ++ Av) s.heap accI.toList acc → acc.length + ds.length ≤ LIM →
    (∀ h' tk accI' nn', (∀ b o, b ≠ D → b ∉ wr → (∀ x ∈ targetsOf gens, ¬ StoreAt cenv x b) → s.heap.get? b = some o → h'.get? b = some o) → StE h₀ cenv Av α ρ h' → h'.get? D = some (listObj accI' nn') →
      RepAll Av h' accI'.toList (acc ++ ds) → R (.ok .next) { s with heap := h', toks := tk }) →
    codeAny (model prog w) A (.compLoop (.ListComp elt gens scope pos) k it (.ref D) cenv) R s
/-- one item of a clause: what it gives -/
noncomputable def turnTree (elt : Expr) (gens : List Comprehension) (scope : Scope) (pos : Pos) (k : Nat) (D : Addr) (cenv : Env) (K : Sem Fin) : Sem Fin :=
  match gens[k + 1]? with
    | some g' => do
      let x ← eval g'.iter cenv
      standAt g'.iter.pos
      if (g'.is_async != 0) = true then do
          let x ← foldedIterable g'.iter x
          let it ← holding [x] (if (g'.is_async != 0) = true then asyncIter x else pyIter x)
          let _ ← runOwn (Code.compStart (elt.ListComp gens scope pos) (k + 1) it (Value.ref D) cenv) cenv
          K
        else do
          let x ← foldedSetIterable g'.iter cenv x
          let it ← holding [x] (if (g'.is_async != 0) = true then asyncIter x else pyIter x)
          let _ ← runOwn (Code.compStart (elt.ListComp gens scope pos) (k + 1) it (Value.ref D) cenv) cenv
          K
    | none => ((do
        let v ← eval elt cenv
        let _ ← call (Value.builtin "list.append") [Value.ref D, v]
        pure ()) : Sem PUnit) >>= fun _ => K
noncomputable def TurnOK (prog : Program) (w : World) (h₀ : Heap) (r : Nat) (sc : Scope) (elt : Expr) (gens : List Comprehension) (scope : Scope) (pos : Pos) (k : Nat) (ρ : REnv) (ds : List PyData) : Prop :=
  ∀ cenv s Av α A D accI nn acc (K : Sem Fin) (Q : Fin → Shared → Prop) (E : Value → Shared → Prop), cenv.scope = sc → AOK r A → NoOwn ρ → StE h₀ cenv Av α ρ s.heap → D ∈ Av → h₀.get? D = none →
    s.heap.get? D = some (listObj accI nn) → RepAll Av s.heap accI.toList acc → acc.length + ds.length ≤ LIM →
    (∀ h' tk accI' nn', (∀ b o, b ≠ D → (∀ x ∈ targetsOf gens, ¬ StoreAt cenv x b) → s.heap.get? b = some o → h'.get? b = some o) → StE h₀ cenv Av α ρ h' → h'.get? D = some (listObj accI' nn') → RepAll Av h' accI'.toList (acc ++ ds) →
      wpAny (model prog w) A K Q E { s with heap := h', toks := tk }) →
    wpAny (model prog w) A (turnTree elt gens scope pos k D cenv K) Q E s
theorem turn_last {elt : Expr} {gens : List Comprehension} {scope : Scope} {pos : Pos} {k : Nat} {d : PyData} (hk : gens[k + 1]? = none) (he : EvOK prog w h₀ r sc ρ elt d) : TurnOK prog w h₀ r sc elt gens scope pos k ρ [d] :=
  fun cenv s Av α A D accI nn acc K Q E hs ha hno st hD hD0 hDo hacc hlen hQ => by
  unfold turnTree
  rw [hk]
  refine wpAny_bind (wpAny_bind (wpAny_mono (he cenv s Av α A hs ha st) (fun v s₁ h₁ => ?_) noE))
  obtain ⟨⟨h1, tk1, rfl, k1⟩, rv⟩ := h₁
  have st1 := st.keeps k1
  have hsz : accI.size ≤ sizeLine := by have := hacc.length; simp at this hlen; exact lim_le (by omega)
  refine wpAny_bind (wpAny_list_append_plain (hsz := hsz) ⟨nn, k1 _ _ hDo⟩ fun h2 hl2 hs2 => wpAny_pure ?_)
  obtain ⟨n2, hl2⟩ := hl2
  have hDl : cenv.locals ≠ D := by
    rintro rfl
    obtain ⟨m, hm⟩ := st1.ok.loc
    exact ns_not_seq hm (k1 _ _ hDo) ⟨_, _, rfl⟩
  have hDc : ∀ x c, (cenv.kindOf x = some .cell ∨ cenv.kindOf x = some .free) → cenv.cells.lookup x = some c → c ∉ [D] := fun x c hx hc hm => by
    rcases List.mem_singleton.mp hm with rfl
    obtain ⟨c', v', hc', hv'⟩ := st1.ok.cell x hx
    rw [hc] at hc'; cases hc'
    exact cell_not_seq hv' (k1 _ _ hDo) ⟨_, _, rfl⟩
  refine hQ h2 _ _ n2 (fun b o hb _ e => hs2.extBut b o hb (k1 b o e)) ?_ hl2 ?_
  · exact st1.change [D] (fun b o hb e => hs2.extBut b o (fun e' => hb (by simp [e'])) e) (by intro b hb; simp at hb; subst hb; exact hD) (by intro b hb; simp at hb; subst hb; exact ⟨_, hl2⟩)
      (by intro b hb; simp at hb; subst hb; exact hD0) (by simp [hDl]) hDc (fun x xs e => absurd e (hno x xs))
  · have mv : ∀ a o, a ∉ Av → h1.get? a = some o → SeqObj o → h2.get? a = some o := fun a o ha e _ => hs2.extBut a o (fun e' => ha (e' ▸ hD)) e
    simpa using ((hacc.keeps k1).move mv (fun _ _ x _ _ => x)).append (.cons (rv.move mv (fun _ _ x _ _ => x)) .nil)
theorem comp_start {elt : Expr} {gens : List Comprehension} {scope : Scope} {pos : Pos} {k : Nat} {A : Around} {s : Shared} {it acc : Value} {env : Env} {R : Result → Shared → Prop} {t i : Expr} {ifs : List Expr} (hg : gens[k]? = some ⟨t, i, ifs, 0⟩)
    (h0 : codeAny (model prog w) A (.compLoop (.ListComp elt gens scope pos) k it acc env) R s)
    (h : wpAny (model prog w) A (pyIter it) (fun it' s' => it' = it ∧ s' = s) NoE s) :
    codeAny (model prog w) A (.compStart (.ListComp elt gens scope pos) k it acc env) R s := by
  refine codeAny_of_tree ?_
  show wpAny _ _ ((compStart (.ListComp elt gens scope pos) k it acc env).onRaise (fun x => do noteFrame x env; standAt theWindowsPlace)) _ _ s
  refine wpAny_notedAt ?_
  unfold compStart
  have hc : (clausesOf (.ListComp elt gens scope pos))[k]? = some ⟨t, i, ifs, 0⟩ := hg
  simp only [hc]
  show wpAny _ _ (ask >>= _) _ _ s
  refine wpAny_bind (wpAny_askSetting (wpAny_ite ?_))
  have h' : wpAny (model prog w) (A.under (.compStart (.ListComp elt gens scope pos) k it acc env)) (pyIter it) (fun it' s' => it' = it ∧ s' = s) NoE s := h
  split
  · exact wpAny_pure (And.intro rfl h0)
  · refine wpAny_bind (wpAny_rule (wpAny_bind (wpAny_standAt (wpAny_bind (wpAny_mono h' (fun it' s' q => ?_) noE)))))
    obtain ⟨rfl, rfl⟩ := q
    exact wpAny_pure (And.intro rfl h0)
theorem turn_next {elt : Expr} {gens : List Comprehension} {scope : Scope} {pos : Pos} {k : Nat} {t i : Expr} {ifs : List Expr} {its ds : List PyData} (hk : gens[k + 1]? = some ⟨t, i, ifs, 0⟩) (hi : IterOK prog w h₀ r sc ρ t i its)
    (hc : CLOK prog w h₀ r sc elt gens scope pos (k + 1) ρ its ds) : TurnOK prog w h₀ r sc elt gens scope pos k ρ ds :=
  fun cenv s Av α A D accI nn acc K Q E hs ha hno st hD hD0 hDo hacc hlen hQ => by
  unfold turnTree
  rw [hk]
  refine wpAny_bind (wpAny_mono (hi.2 cenv s Av α A hs ha st) (fun x s₁ h₁ => wpAny_bind (wpAny_standAt ?_)) noE)
  show wpAny _ A (foldedSetIterable i cenv x >>= _) _ _ s₁
  rw [folded_plain hi.1]
  refine wpAny_bind (wpAny_pure (wpAny_bind (wpAny_holding (wpAny_mono h₁ (fun it s₂ h₂ => ?_) noE))))
  obtain ⟨⟨h2, tk2, rfl, k2⟩, wr, hwrn, hit⟩ := h₂
  refine wpAny_bind (wpAny_runOwn ?_)
  have hself : wpAny (model prog w) A (pyIter it) (fun it' s' => it' = it ∧ s' = { s with heap := h2, toks := tk2 }) NoE { s with heap := h2, toks := tk2 } := by
    obtain ⟨I, fp, St, rfl, W, hst, _⟩ := hit
    exact W.self 0 _ _ _ hst ⟨rfl, rfl⟩
  refine comp_start hk ?_ hself
  have hwex : ∀ b ∈ wr, s.heap.get? b = none ∧ ∃ o, h2.get? b = some o := fun b hb => ⟨hwrn b hb, let ⟨_, _, _, _, _, _, _, hw, _⟩ := hit; (hw b hb).2⟩
  refine hc cenv { s with heap := h2, toks := tk2 } Av α A it wr D accI nn acc _ hs ha hno (st.avoidNew k2 wr hwex) ⟨_, hk, hit⟩ hD hD0 (k2 _ _ hDo) (hacc.avoidNew k2 hwrn) hlen ?_
  intro h' tk accI' nn' kept st' hD' hacc'
  refine hQ h' tk accI' nn' (fun b o h1 h3 e => kept b o h1 (fun hm => ?_) h3 (k2 b o e)) st' hD' hacc'
  rw [hwrn b hm] at e; cases e
theorem mem_targets {t : Expr} {x : Str} (hx : x ∈ tnames t) : ∀ {gens : List Comprehension} {k : Nat} {i ifs asy}, gens[k]? = some ⟨t, i, ifs, asy⟩ → x ∈ targetsOf gens
  | [], _, _, _, _, h => by simp at h
  | g :: gs, 0, _, _, _, h => by simp at h; subst h; simp [targetsOf, hx]
  | g :: gs, k + 1, _, _, _, h => by
    have := mem_targets hx (gens := gs) (k := k) (by simpa using h)
    obtain ⟨t', _, _, _⟩ := g
    simp [targetsOf, this]
theorem concatM_drop {f : PyData → Option (List PyData)} {items : List PyData} {i : Nat} {d : PyData} {ds : List PyData} (hi : items[i]? = some d) (h : concatM f (items.drop i) = some ds) :
    ∃ a b, f d = some a ∧ concatM f (items.drop (i + 1)) = some b ∧ ds = a ++ b := by
  have hlt : i < items.length := (List.getElem?_eq_some_iff.mp hi).1
  rw [List.drop_eq_getElem_cons hlt] at h
  have e : items[i] = d := (List.getElem?_eq_some_iff.mp hi).2
  rw [e] at h
  obtain ⟨a, b, h1, h2, h3⟩ := opt2_some h
  exact ⟨a, b, h1, h2, h3.symm⟩
inductive CInv (h₀ : Heap) (cenv : Env) (α : Str → Addr) (ρ : REnv) (gens : List Comprehension) (Av wr : List Addr) (D : Addr) (f : PyData → Option (List PyData)) (items all : List PyData) (St : Nat → Heap → Prop) (s : Shared) (m : Nat) (s' : Shared) : Prop
  | mk (j : Nat) (h' : Heap) (tk : Nat) (accI' : Array Value) (nn' : Nat) (acc' dsr : List PyData) (e : s' = { s with heap := h', toks := tk }) (hj : j ≤ items.length) (hm : m = items.length + 1 - j) (hst : St j h')
    (kept : ∀ b o, b ≠ D → b ∉ wr → (∀ x ∈ targetsOf gens, ¬ StoreAt cenv x b) → s.heap.get? b = some o → h'.get? b = some o) (st : StE h₀ cenv (wr ++ Av) α ρ h') (hD : h'.get? D = some (listObj accI' nn'))
    (hacc : RepAll (wr ++ Av) h' accI'.toList acc') (hds : concatM f (items.drop j) = some dsr) (hcat : acc' ++ dsr = all)
theorem comp_loop {elt : Expr} {gens : List Comprehension} {scope : Scope} {pos : Pos} {k : Nat} {t : Expr} {i : Expr} {ifs : List Expr} {items ds : List PyData} {f : PyData → Option (List PyData)}
    (hg : gens[k]? = some ⟨t, i, ifs, 0⟩) (hx : ∀ x ∈ tnames t, ρ x = none) (hlen : items.length ≤ LIM) (hds : concatM f items = some ds)
    (turn : ∀ d ds', f d = some ds' → ∃ ρ1 b, atgt sc t d ρ = some ρ1 ∧ IfsOK prog w h₀ r sc ρ1 ifs b ∧ (if b then TurnOK prog w h₀ r sc elt gens scope pos k ρ1 ds' else ds' = [])) :
    CLOK prog w h₀ r sc elt gens scope pos k ρ items ds := fun cenv s Av α A it wr D accI nn acc R hs ha hno st0 hit hD hD0 hDo hacc hL hR => by
  obtain ⟨g, hg', I, fp, St, rfl, W, hst, hfp, hwr, halive⟩ := hit
  rw [hg] at hg'; cases hg'
  have hwD : D ∉ wr := fun hm => (hfp D (W.sub D hm)).1 hD
  have hwAv : ∀ b ∈ wr, b ∉ Av := fun b hm => (hfp b (W.sub b hm)).1
  have fpl : cenv.locals ∉ fp := fun hm => by
    obtain ⟨_, o, ho, hp⟩ := hfp _ hm
    obtain ⟨m, o', es, ep, ho', hd', _⟩ := st0.ok.loc
    rw [ho] at ho'; cases ho'; exact hp.1 _ _ hd'
  have fpc : ∀ y c, (cenv.kindOf y = some .cell ∨ cenv.kindOf y = some .free) → cenv.cells.lookup y = some c → c ∉ fp := fun y c hy hc hm => by
    obtain ⟨_, o, ho, hp⟩ := hfp _ hm
    obtain ⟨c', v', hc', o', ho', hd'⟩ := st0.ok.cell y hy
    rw [hc] at hc'; cases hc'
    rw [ho] at ho'; cases ho'; exact hp.2 _ hd'
  have fps : ∀ y W', StoreAt cenv y W' → W' ∉ fp := fun y W' hsa hm => by
    rcases hsa with ⟨_, rfl⟩ | ⟨h1, h2⟩
    · exact fpl hm
    · exact fpc y W' (.inl h1) h2 hm
  have hxT : ∀ x ∈ tnames t, x ∈ targetsOf gens := fun x hx => mem_targets hx hg
  refine codeAny_loop rfl (CInv h₀ cenv α ρ gens Av wr D f items (acc ++ ds) St s) ?_ (items.length + 1)
    ⟨0, s.heap, s.toks, accI, nn, acc, ds, rfl, Nat.zero_le _, rfl, hst, fun _ _ _ _ _ e => e, st0, hDo, hacc, by simpa using hds, rfl⟩
  rintro m _ ⟨j, H, tk, accI', nn', acc', dsr, rfl, hj, rfl, hst', hkept, stH, hDH, haccH, hdsr, hcat⟩
  show wpAny _ A ((compTurn (.ListComp elt gens scope pos) k (.ref I) (.ref D) cenv).onRaise (fun x => do noteFrame x cenv; theTreesLotGoes x)) _ _ _
  refine wpAny_noted ?_
  rw [compTurn_gen hg]
  refine wpAny_bind (wpAny_standAt (wpAny_bind ?_))
  by_cases hlt : j < items.length
  · refine W.turn (fun v => rfl) (List.getElem?_eq_getElem hlt) hst' fun v h1 tk1 hyv hst1 hk1 => ?_
    generalize hdd : items[j] = d at *
    have hd : items[j]? = some d := by rw [← hdd]; exact List.getElem?_eq_getElem hlt
    obtain ⟨a, b, hfa, hfb, rfl⟩ := concatM_drop hd hdsr
    have hD1 : h1.get? D = some (listObj accI' nn') := hk1 _ _ hwD hDH
    have sk : ∀ a o, a ∉ wr ++ Av → s.heap.get? a = some o → SeqObj o → H.get? a = some o := fun a o ha e hso =>
      hkept a o (fun e' => ha (List.mem_append.mpr (.inr (e' ▸ hD)))) (fun hm => ha (List.mem_append.mpr (.inl hm))) (fun y _ hsa => hsa.notSeq st0.ok o e hso) e
    have rdH : Rep (wr ++ Av) h1 v d := hyv (wr ++ Av) (fun v d rd => (rd.move sk (fun _ _ x _ _ => x)).move (fun a o ha e _ => hk1 a o (fun hm => ha (List.mem_append.mpr (.inl hm))) e) (fun _ _ x _ _ => x)) stH.av
    have st1 : StE h₀ cenv (wr ++ Av) α ρ h1 := stH.change wr hk1 (fun b hb => List.mem_append.mpr (.inl hb)) (fun b hb => halive _ _ hst1 b (W.sub b hb)) (fun b hb => (hwr b hb).1) (fun hm => fpl (W.sub _ hm)) (fun y c hy hc hm => fpc y c hy hc (W.sub _ hm)) (fun y xs e => absurd e (hno y xs))
    have hacc1 : RepAll (wr ++ Av) h1 accI'.toList acc' := haccH.move (fun a o ha e _ => hk1 a o (fun hm => ha (List.mem_append.mpr (.inl hm))) e) (fun _ _ x _ _ => x)
    obtain ⟨ρ1, bb, htg, hifs, hturn⟩ := turn d a hfa
    refine wpAny_bind (asg_ok (s := { s with heap := h1, toks := tk1 }) ha.1 st1 (by rw [hs]; exact htg) rdH fun h2 tk2 st2 k2a k2s k2e => ?_)
    have hD2 : h2.get? D = some (listObj accI' nn') := k2s _ _ hD1 ⟨_, _, rfl⟩
    have hacc2 : RepAll (wr ++ Av) h2 accI'.toList acc' := hacc1.move (fun a o ha e hso => k2s a o e hso) (fun _ _ x _ _ => x)
    have hst2 : St (j + 1) h2 := W.frame _ _ _ hst1 fun b hb o e => k2a b o (fun x _ hsa => fps x b hsa hb) e
    refine wpAny_bind (wpAny_mono (hifs cenv { s with heap := h2, toks := tk2 } (wr ++ Av) α A hs ha st2) (fun k3 s3 h3 => ?_) noE)
    obtain ⟨rfl, h3, tk3, rfl, hk3⟩ := h3
    have st3 := st2.keeps hk3
    have hacc3 := hacc2.keeps hk3
    have hD3 := hk3 _ _ hD2
    have hst3 : St (j + 1) h3 := W.frame _ _ _ hst2 fun b hb o e => hk3 b o e
    have kept3 : ∀ b o, b ≠ D → b ∉ wr → (∀ x ∈ targetsOf gens, ¬ StoreAt cenv x b) → s.heap.get? b = some o → h3.get? b = some o := fun b o h1' h2' h3' e =>
      hk3 b o (k2a b o (fun x hx => h3' x (hxT x hx)) (hk1 b o h2' (hkept b o h1' h2' h3' e)))
    cases k3 with
    | false =>
      simp only [Bool.false_eq_true, if_false] at hturn ⊢
      subst hturn
      refine wpAny_pure ⟨rfl, items.length + 1 - (j + 1), by omega, j + 1, h3, tk3, accI', nn', acc', b, rfl, hlt, rfl, hst3, kept3, st3.forgetT htg hx, hD3, hacc3, hfb, by simpa using hcat⟩
    | true =>
      simp only [if_true] at hturn ⊢
      have hl' : acc'.length + a.length ≤ LIM := by
        have := congrArg List.length hcat
        simp at this
        omega
      have hno1 : NoOwn ρ1 := fun y xs e => hno y xs ((atgt_some htg).2 y xs e)
      refine hturn cenv { s with heap := h3, toks := tk3 } (wr ++ Av) α A D accI' nn' acc' (again (.compLoop (.ListComp elt gens scope pos) k (.ref I) (.ref D) cenv)) _ _ hs ha hno1 st3 (List.mem_append.mpr (.inr hD)) hD0 hD3 hacc3 hl' ?_
      intro h4 tk4 accI4 nn4 hk4 st4 hD4 hacc4
      have hst4 : St (j + 1) h4 := W.frame _ _ _ hst3 fun b hb o e => hk4 b o (fun e' => (hfp b hb).1 (e' ▸ hD)) (fun y _ hsa => fps y b hsa hb) e
      exact wpAny_pure ⟨rfl, items.length + 1 - (j + 1), by omega, j + 1, h4, tk4, accI4, nn4, acc' ++ a, b, rfl, hlt, rfl, hst4,
        fun b o h1' h2' h3' e => hk4 b o h1' h3' (kept3 b o h1' h2' h3' e), st4.forgetT htg hx, hD4, hacc4, hfb, by rw [List.append_assoc]; exact hcat⟩
  · have hjn : j = items.length := by omega
    subst hjn
    refine W.done _ _ _ hst' fun h1 tk1 hk1 => wpAny_pure ?_
    have hnil : dsr = [] := by rw [List.drop_length] at hdsr; exact (Option.some.inj hdsr).symm
    subst hnil
    refine hR h1 tk1 accI' nn' (fun b o h1' h2' h3' e => hk1 b o h2' (hkept b o h1' h2' h3' e)) ?_ (hk1 _ _ hwD hDH) ?_
    · exact stH.drop hk1 (fun a ha hm => hwAv a hm ha) (fun b hb => (hwr b hb).1) (fun hm => fpl (W.sub _ hm)) (fun y c hy hc hm => fpc y c hy hc (W.sub _ hm)) (fun y xs e => absurd e (hno y xs))
    · rw [← hcat, List.append_nil]
      exact (haccH.move (fun a o ha e _ => hk1 a o (fun hm => ha (List.mem_append.mpr (.inl hm))) e) (fun _ _ x _ _ hm => x (List.mem_append.mpr (.inr hm))))
end
noncomputable def cloFrom (cells : List (Str × Addr)) : List (Str × NameKind) → List (Str × Addr) → List (Str × Addr)
  | [], acc => acc
  | (n, k) :: r, acc => if k == .free then cloFrom cells r ((n, (cells.lookup n).getD 0) :: acc) else cloFrom cells r acc
theorem clo_eq {env : Env} (f : Str × NameKind → List (Str × Addr) → Sem (ForInStep (List (Str × Addr))))
    (hf : ∀ n k cs, f (n, k) cs = if (k == .free) = true then (cellOf env n >>= fun a => pure (ForInStep.yield ((n, a) :: cs))) else pure (ForInStep.yield cs)) :
    ∀ (names : List (Str × NameKind)) (acc : List (Str × Addr)), (∀ p ∈ names, p.2 = .free → (env.cells.lookup p.1).isSome = true) → forIn names acc f = pure (cloFrom env.cells names acc)
  | [], acc, _ => rfl
  | (n, k) :: r, acc, h => by
    rw [List.forIn_cons, hf]
    have hr : ∀ p ∈ r, p.2 = .free → (env.cells.lookup p.1).isSome = true := fun p hp => h p (List.mem_cons_of_mem _ hp)
    by_cases hk : (k == NameKind.free) = true
    · have hk' : k = .free := by simpa using hk
      obtain ⟨c, hc⟩ := Option.isSome_iff_exists.mp (h (n, k) List.mem_cons_self hk')
      simp only at hc
      have e : cellOf env n = pure c := by unfold cellOf; rw [hc]
      rw [if_pos hk, e]
      simp only [pure_bind]
      rw [clo_eq f hf r _ hr, cloFrom, if_pos hk, hc]
      rfl
    · rw [if_neg hk]
      simp only [pure_bind]
      rw [clo_eq f hf r _ hr, cloFrom, if_neg hk]
theorem closureFor_eq {scope : Scope} {env : Env} (h : ∀ p ∈ scope.names, p.2 = .free → (env.cells.lookup p.1).isSome = true) : closureFor scope env = pure (cloFrom env.cells scope.names []) := by
  simp only [closureFor]
  rw [clo_eq (env := env) _ (fun n k cs => by cases hk : (k == NameKind.free) <;> simp) scope.names [] h]
  rfl
theorem lookup_cons_eq {α : Type} (x n : Str) (v : α) (r : List (Str × α)) : ((n, v) :: r).lookup x = if x = n then some v else r.lookup x := by
  rw [List.lookup_cons]
  by_cases h : x = n
  · subst h; simp
  · have : (x == n) = false := beq_eq_false_iff_ne.mpr h
    simp [this, h]
theorem cloFrom_old {cells : List (Str × Addr)} : ∀ (names : List (Str × NameKind)) (acc : List (Str × Addr)), (∀ p ∈ names, p.2 = .free → (cells.lookup p.1).isSome = true) → (∀ x c, acc.lookup x = some c → cells.lookup x = some c) →
    (∀ x c, (cloFrom cells names acc).lookup x = some c → cells.lookup x = some c) ∧ (∀ x c, acc.lookup x = some c → (cloFrom cells names acc).lookup x = some c) ∧
    (∀ x, (x, NameKind.free) ∈ names → ((cloFrom cells names acc).lookup x).isSome = true)
  | [], acc, _, h => ⟨h, fun _ _ e => e, fun _ hm => by simp at hm⟩
  | (n, k) :: r, acc, hf, h => by
    have hr : ∀ p ∈ r, p.2 = .free → (cells.lookup p.1).isSome = true := fun p hp => hf p (List.mem_cons_of_mem _ hp)
    unfold cloFrom
    by_cases hk : (k == NameKind.free) = true
    · have hk' : k = .free := by simpa using hk
      subst hk'
      obtain ⟨c, hc⟩ := Option.isSome_iff_exists.mp (hf (n, .free) List.mem_cons_self rfl)
      simp only at hc
      simp only [hk, if_true, hc, Option.getD_some]
      have hacc : ∀ x c', ((n, c) :: acc).lookup x = some c' → cells.lookup x = some c' := fun x c' e => by
        rw [lookup_cons_eq] at e
        split at e
        · rename_i e'; subst e'; rw [hc]; exact e
        · exact h x c' e
      obtain ⟨i1, i2, i3⟩ := cloFrom_old r ((n, c) :: acc) hr hacc
      refine ⟨i1, fun x c' e => ?_, fun x hm => ?_⟩
      · refine i2 x c' ?_
        rw [lookup_cons_eq]
        split
        · rename_i e'; subst e'; have := h x c' e; rw [hc] at this; exact this
        · exact e
      · rcases List.mem_cons.mp hm with e | hm
        · cases e
          rw [i2 n c (by rw [lookup_cons_eq]; simp)]; rfl
        · exact i3 x hm
    · simp only [hk, Bool.false_eq_true, if_false]
      obtain ⟨i1, i2, i3⟩ := cloFrom_old r acc hr h
      refine ⟨i1, i2, fun x hm => ?_⟩
      rcases List.mem_cons.mp hm with e | hm
      · cases e; simp at hk
      · exact i3 x hm
/-- the cells of a block: its own ones are new -/
theorem cellsFrom_spec (lo : Nat) : ∀ (names : List (Str × NameKind)) (h : Heap) (acc : List (Str × Addr)), lo ≤ h.objs.size →
    (∀ x c, acc.lookup x = some c → c < h.objs.size) → (∀ x y c, lo ≤ c → acc.lookup x = some c → acc.lookup y = some c → x = y) →
    (∀ x c, (cellsFrom h.objs.size names acc).lookup x = some c → (lo ≤ c ∧ (x, NameKind.cell) ∈ names ∧ (pushCells h names).IsCell c none) ∨ acc.lookup x = some c) ∧
    (∀ x, (x, NameKind.cell) ∈ names → ∃ c, (cellsFrom h.objs.size names acc).lookup x = some c ∧ lo ≤ c ∧ (pushCells h names).IsCell c none) ∧
    (∀ x c, acc.lookup x = some c → (x, NameKind.cell) ∉ names → (cellsFrom h.objs.size names acc).lookup x = some c) ∧
    (∀ x y c, lo ≤ c → (cellsFrom h.objs.size names acc).lookup x = some c → (cellsFrom h.objs.size names acc).lookup y = some c → x = y)
  | [], h, acc, hlo, h1, h2 => ⟨fun x c e => .inr e, fun x hm => by simp at hm, fun x c e _ => e, h2⟩
  | (n, k) :: r, h, acc, hlo, h1, h2 => by
    by_cases hk : (k == NameKind.cell) = true
    · have hk' : k = .cell := by simpa using hk
      subst hk'
      have hpush : (h.push { cls := .type "cell", data := .cell none }).objs.size = h.objs.size + 1 := Heap.size_push ..
      have e1 : cellsFrom h.objs.size ((n, .cell) :: r) acc = cellsFrom (h.push { cls := .type "cell", data := .cell none }).objs.size r ((n, h.objs.size) :: acc) := by rw [hpush]; rfl
      have e2 : pushCells h ((n, .cell) :: r) = pushCells (h.push { cls := .type "cell", data := .cell none }) r := rfl
      rw [e1, e2]
      have a1 : ∀ x c, ((n, h.objs.size) :: acc).lookup x = some c → c < (h.push { cls := .type "cell", data := .cell none }).objs.size := fun x c e => by
        rw [hpush]
        rw [lookup_cons_eq] at e
        split at e
        · cases e; exact Nat.lt_succ_self _
        · exact Nat.lt_succ_of_lt (h1 x c e)
      have a2 : ∀ x y c, lo ≤ c → ((n, h.objs.size) :: acc).lookup x = some c → ((n, h.objs.size) :: acc).lookup y = some c → x = y := fun x y c hc ex ey => by
        rw [lookup_cons_eq] at ex ey
        split at ex
        · rename_i e; cases ex
          split at ey
          · rename_i e'; rw [e, e']
          · exact absurd (h1 y _ ey) (Nat.lt_irrefl _)
        · split at ey
          · rename_i e'; cases ey
            exact absurd (h1 x _ ex) (Nat.lt_irrefl _)
          · exact h2 x y c hc ex ey
      obtain ⟨i1, i2, i3, i4⟩ := cellsFrom_spec lo r (h.push { cls := .type "cell", data := .cell none }) ((n, h.objs.size) :: acc) (by rw [hpush]; omega) a1 a2
      have hcell : (pushCells (h.push { cls := .type "cell", data := .cell none }) r).IsCell h.objs.size none := ⟨_, pushCells_keeps _ _ _ _ (Heap.get?_push_size _ rfl), rfl⟩
      refine ⟨fun x c e => ?_, fun x hm => ?_, fun x c e hm => ?_, i4⟩
      · rcases i1 x c e with ⟨p1, p2, p3⟩ | e
        · exact .inl ⟨p1, List.mem_cons_of_mem _ p2, p3⟩
        · rw [lookup_cons_eq] at e
          split at e
          · rename_i e'; cases e; subst e'; exact .inl ⟨hlo, List.mem_cons_self, hcell⟩
          · exact .inr e
      · by_cases hmr : (x, NameKind.cell) ∈ r
        · exact i2 x hmr
        · rcases List.mem_cons.mp hm with e | hm
          · cases e
            exact ⟨_, i3 n h.objs.size (by rw [lookup_cons_eq]; simp) hmr, hlo, hcell⟩
          · exact absurd hm hmr
      · refine i3 x c ?_ fun hm' => hm (List.mem_cons_of_mem _ hm')
        rw [lookup_cons_eq]
        split
        · rename_i e'; subst e'; exact absurd List.mem_cons_self hm
        · exact e
    · have e1 : cellsFrom h.objs.size ((n, k) :: r) acc = cellsFrom h.objs.size r acc := by rw [cellsFrom, if_neg hk]
      have e2 : pushCells h ((n, k) :: r) = pushCells h r := by rw [pushCells, if_neg hk]
      rw [e1, e2]
      obtain ⟨i1, i2, i3, i4⟩ := cellsFrom_spec lo r h acc hlo h1 h2
      refine ⟨fun x c e => ?_, fun x hm => ?_, fun x c e hm => i3 x c e fun hm' => hm (List.mem_cons_of_mem _ hm'), i4⟩
      · rcases i1 x c e with ⟨p1, p2, p3⟩ | e
        · exact .inl ⟨p1, List.mem_cons_of_mem _ p2, p3⟩
        · exact .inr e
      · rcases List.mem_cons.mp hm with e | hm
        · cases e; simp at hk
        · exact i2 x hm
noncomputable abbrev compE (scope : Scope) (env : Env) (s : Shared) (cl : List (Str × Addr)) : Env :=
  { scope, locals := s.heap.objs.size, globals := env.globals, cells := cellsFrom (s.heap.objs.size + 1) scope.names cl, qual := env.qual, func := none, code := env.code, frame := env.frame, builtins := env.builtins }
theorem newCompEnv {M : Model} {A : Around} {E : Value → Shared → Prop} {s : Shared} {scope : Scope} {env : Env} {cl : List (Str × Addr)} {Q : Env → Shared → Prop}
    (h : Q (compE scope env s cl) { s with heap := pushCells (s.heap.push { cls := .type "dict", data := .dict #[] }) scope.names }) :
    wpAny M A (newFunctionEnv scope env.globals cl [] env.qual none .none (some env)) Q E s := by
  simp only [newFunctionEnv, Option.isSome_some, if_true]
  refine wpAny_bind (wpAny_alloc ?_)
  refine wpAny_bind (wpAny_layCells _ (fun name kind cells => by cases hkc : kind == NameKind.cell <;> simp) _ _ _ _ ?_)
  rw [show ({ s with heap := s.heap.push { cls := .type "dict", data := .dict #[] } } : Shared).heap.objs.size = s.heap.objs.size + 1 from Heap.size_push ..]
  exact wpAny_bind (wpAny_pure (wpAny_pure h))
theorem relab_lookup {scope sc : Scope} {x : Str} : (relab scope sc).names.lookup x = (scope.names.lookup x).map fun k => if (k == .free && sc.kind == .function && sc.names.lookup x == some .cell) then NameKind.cell else k := by
  unfold relab
  simp only
  induction scope.names with
  | nil => rfl
  | cons p r ih =>
    obtain ⟨n, k⟩ := p
    rw [List.map_cons]
    have e : (if (k == NameKind.free && sc.kind == .function && sc.names.lookup n == some .cell) = true then (n, NameKind.cell) else (n, k)) = (n, if (k == NameKind.free && sc.kind == .function && sc.names.lookup n == some .cell) = true then NameKind.cell else k) := by
      split <;> rfl
    rw [e, lookup_cons_eq, lookup_cons_eq, ih]
    by_cases hx : x = n
    · subst hx; simp
    · simp [hx]
section
variable {prog : Program} {w : World} {h₀ : Heap} {r : Nat} {sc : Scope} {ρ : REnv} {mg mb : Str → Option Value} {Φ : Funs}
theorem scopeOk_kind {scope sc : Scope} (h : scopeOk scope sc = true) : scope.kind = .function := by
  unfold scopeOk at h
  simp only [Bool.and_eq_true, beq_iff_eq] at h
  exact h.1
theorem scopeOk_mem {scope sc : Scope} (h : scopeOk scope sc = true) {x : Str} {k : NameKind} (hm : (x, k) ∈ scope.names) :
    (k = .local → scope.names.lookup x = some .local) ∧ (k = .cell → scope.names.lookup x = some .cell) ∧ (k = .free → sc.names.lookup x = some .cell ∨ sc.names.lookup x = some .free) := by
  unfold scopeOk at h
  simp only [Bool.and_eq_true, List.all_eq_true] at h
  have h2 := h.2 (x, k) hm
  simp only [Bool.or_eq_true, bne_iff_ne, beq_iff_eq] at h2
  refine ⟨fun e => h2.1.1.resolve_left (fun q => q e), fun e => h2.1.2.resolve_left (fun q => q e), fun e => ?_⟩
  rcases h2.2 with (q | q) | q
  · exact absurd e q
  · exact .inl q
  · exact .inr q
theorem compRho_noOwn {scope : Scope} : NoOwn (compRho scope ρ) := fun x xs e => by
  unfold compRho at e
  split at e
  · split at e
    · cases e
    · cases e
  · cases e
/-- the block of a comprehension is well made -/
theorem comp_env {scope : Scope} {env : Env} {s : Shared} {Av : List Addr} {α : Str → Addr} (hsc : scopeOk scope env.scope = true) (st : StE h₀ env Av α ρ s.heap) :
    StE h₀ { compE scope env s (cloFrom env.cells scope.names []) with scope := relabel scope env } Av α (compRho scope ρ) (pushCells (s.heap.push { cls := .type "dict", data := .dict #[] }) scope.names) ∧
    (∀ x W, scope.names.lookup x ≠ some .free → StoreAt { compE scope env s (cloFrom env.cells scope.names []) with scope := relabel scope env } x W → s.heap.objs.size ≤ W) := by
  have hkeep : ∀ b o, s.heap.get? b = some o → (pushCells (s.heap.push { cls := .type "dict", data := .dict #[] }) scope.names).get? b = some o := fun b o e => pushCells_keeps _ _ _ _ (Heap.get?_push_of_some _ e)
  have hfree : ∀ p ∈ scope.names, p.2 = .free → (env.cells.lookup p.1).isSome = true := fun p hp hf => by
    have := (scopeOk_mem hsc (x := p.1) (k := p.2) hp).2.2 hf
    obtain ⟨c, v, hc, _⟩ := st.ok.cell p.1 this
    rw [hc]; rfl
  obtain ⟨o1, o2, o3⟩ := cloFrom_old scope.names [] hfree (fun x c e => by simp at e)
  have hpush : (s.heap.push { cls := .type "dict", data := .dict #[] }).objs.size = s.heap.objs.size + 1 := Heap.size_push ..
  have oldlt : ∀ x c, (cloFrom env.cells scope.names []).lookup x = some c → (∃ y, (y, NameKind.free) ∈ scope.names ∧ y = x) → c < s.heap.objs.size := fun x c e hy => by
    obtain ⟨y, hy, rfl⟩ := hy
    obtain ⟨c', v, hc, o, ho, _⟩ := st.ok.cell y ((scopeOk_mem hsc hy).2.2 rfl)
    rw [o1 _ _ e] at hc; cases hc
    exact Heap.lt_size ho
  have hcloMem : ∀ x c, (cloFrom env.cells scope.names []).lookup x = some c → (x, NameKind.free) ∈ scope.names := by
    have gen : ∀ (names : List (Str × NameKind)) (acc : List (Str × Addr)) x c, (cloFrom env.cells names acc).lookup x = some c → (acc.lookup x).isSome = true ∨ (x, NameKind.free) ∈ names := by
      intro names
      induction names with
      | nil => intro acc x c e; unfold cloFrom at e; rw [e]; exact .inl rfl
      | cons p r ih =>
        obtain ⟨n, k⟩ := p
        intro acc x c e
        unfold cloFrom at e
        split at e
        · rename_i hk
          have hk' : k = .free := by simpa using hk
          subst hk'
          rcases ih _ x c e with q | q
          · rw [lookup_cons_eq] at q
            split at q
            · rename_i e'; subst e'; exact .inr List.mem_cons_self
            · exact .inl q
          · exact .inr (List.mem_cons_of_mem _ q)
        · rcases ih _ x c e with q | q
          · exact .inl q
          · exact .inr (List.mem_cons_of_mem _ q)
    intro x c e
    rcases gen _ _ x c e with q | q
    · simp at q
    · exact q
  obtain ⟨c1, c2, c3, c4⟩ := cellsFrom_spec (s.heap.objs.size + 1) scope.names (s.heap.push { cls := .type "dict", data := .dict #[] }) (cloFrom env.cells scope.names []) (by rw [hpush]; exact Nat.le_refl _)
    (fun x c e => by rw [hpush]; exact Nat.lt_succ_of_lt (oldlt x c e ⟨x, hcloMem x c e, rfl⟩))
    (fun x y c hc e _ => absurd (oldlt x c e ⟨x, hcloMem x c e, rfl⟩) (Nat.not_lt.mpr (Nat.le_of_succ_le hc)))
  rw [hpush] at c1 c2 c3 c4
  have hmemlk : ∀ x k, scope.names.lookup x = some k → (x, k) ∈ scope.names := fun x k e => mem_of_lookup e
  have hnc : ∀ x, scope.names.lookup x = some .free → (x, NameKind.cell) ∉ scope.names := fun x e hm => by
    have := (scopeOk_mem hsc hm).2.1 rfl
    rw [e] at this; cases this
  -- the cell of a captured name
  have hcap : ∀ x, scope.names.lookup x = some .free → ∃ c, env.cells.lookup x = some c ∧ (cellsFrom (s.heap.objs.size + 1) scope.names (cloFrom env.cells scope.names [])).lookup x = some c := fun x e => by
    obtain ⟨c, hc⟩ := Option.isSome_iff_exists.mp (o3 x (hmemlk x _ e))
    exact ⟨c, o1 x c hc, c3 x c hc (hnc x e)⟩
  have hC : ∃ m, (pushCells (s.heap.push { cls := .type "dict", data := .dict #[] }) scope.names).Ns s.heap.objs.size m := ⟨_, (Heap.Ns.new s.heap (.type "dict")).keeps (pushCells_keeps _ _)⟩
  have hfresh : h₀.get? s.heap.objs.size = none := by
    cases e : h₀.get? s.heap.objs.size with
    | none => rfl
    | some o => exact absurd (Heap.lt_size (st.base _ _ e)) (Nat.lt_irrefl _)
  have hnew : ∀ c, s.heap.objs.size + 1 ≤ c → h₀.get? c = none := fun c hc => by
    cases e : h₀.get? c with
    | none => rfl
    | some o => exact absurd (Heap.lt_size (st.base _ _ e)) (Nat.not_lt.mpr (Nat.le_of_succ_le hc))
  -- kinds
  have kd : ∀ x, Env.kindOf { compE scope env s (cloFrom env.cells scope.names []) with scope := relabel scope env } x = (scope.names.lookup x).map fun k => if (k == .free && env.scope.kind == .function && env.scope.names.lookup x == some .cell) then NameKind.cell else k := fun x => relab_lookup
  have kcell : ∀ x, Env.kindOf { compE scope env s (cloFrom env.cells scope.names []) with scope := relabel scope env } x = some .cell → scope.names.lookup x = some .cell ∨ (scope.names.lookup x = some .free ∧ env.scope.names.lookup x = some .cell) := fun x e => by
    rw [kd] at e
    cases hl : scope.names.lookup x with
    | none => rw [hl] at e; cases e
    | some k =>
      rw [hl] at e
      simp only [Option.map_some, Option.some.injEq] at e
      split at e
      · rename_i hc; simp only [Bool.and_eq_true, beq_iff_eq] at hc
        rw [hc.1.1]; exact .inr ⟨rfl, hc.2⟩
      · subst e; exact .inl rfl
  have kfree : ∀ x, Env.kindOf { compE scope env s (cloFrom env.cells scope.names []) with scope := relabel scope env } x = some .free → scope.names.lookup x = some .free := fun x e => by
    rw [kd] at e
    cases hl : scope.names.lookup x with
    | none => rw [hl] at e; cases e
    | some k =>
      rw [hl] at e
      simp only [Option.map_some, Option.some.injEq] at e
      split at e
      · cases e
      · subst e; rfl
  constructor
  · refine ⟨⟨?_, st.ok.glob, st.ok.blt, hC, ?_, ?_⟩, fun b o e => hkeep b o (st.base b o e), ?_, ?_, ?_, fun x xs e => absurd e (compRho_noOwn x xs), fun x y xs ys e => absurd e (compRho_noOwn x xs)⟩
    · show scope.kind = _
      exact scopeOk_kind hsc
    · intro x hx
      have hcases : scope.names.lookup x = some .cell ∨ scope.names.lookup x = some .free := by
        rcases hx with hx | hx
        · rcases kcell x hx with q | q
          · exact .inl q
          · exact .inr q.1
        · exact .inr (kfree x hx)
      rcases hcases with q | q
      · obtain ⟨c, hc, _, hcell⟩ := c2 x (hmemlk x _ q)
        exact ⟨c, none, hc, hcell⟩
      · obtain ⟨c, hc, hc'⟩ := hcap x q
        obtain ⟨c'', v, hcc, hv⟩ := st.ok.cell x ((scopeOk_mem hsc (hmemlk x _ q)).2.2 rfl)
        rw [hc] at hcc; cases hcc
        exact ⟨c, v, hc', hv.keeps hkeep⟩
    · intro x y c ex ey
      by_cases hlo : s.heap.objs.size + 1 ≤ c
      · exact c4 x y c hlo ex ey
      · have px := (c1 x c ex).resolve_left (fun q => hlo q.1)
        have py := (c1 y c ey).resolve_left (fun q => hlo q.1)
        exact st.ok.inj x y c (o1 _ _ px) (o1 _ _ py)
    · intro a ha
      obtain ⟨o, ho⟩ := st.av a ha; exact ⟨o, hkeep _ _ ho⟩
    · intro x W hW
      rcases hW with ⟨_, rfl⟩ | ⟨hk, hc⟩
      · exact hfresh
      · rcases kcell x hk with q | q
        · obtain ⟨c, hc', hlo, _⟩ := c2 x (hmemlk x _ q)
          rw [show List.lookup x _ = some W from hc] at hc'; cases hc'
          exact hnew _ hlo
        · obtain ⟨c, hcc, hc'⟩ := hcap x q.1
          rw [show List.lookup x _ = some W from hc] at hc'; cases hc'
          exact st.wr x W (.inr ⟨q.2, hcc⟩)
    · intro x d e
      unfold compRho at e
      split at e
      · rename_i hl
        split at e
        · rename_i d' hρ
          cases e
          obtain ⟨v, hv, rv⟩ := st.val x d hρ
          obtain ⟨c, hc, hc'⟩ := hcap x hl
          refine ⟨v, ?_, rv.keeps hkeep⟩
          have hcv : s.heap.IsCell c (some v) := by
            have hkk := (scopeOk_mem hsc (hmemlk x _ hl)).2.2 rfl
            cases hv with
            | loc a b c => rcases hkk with q | q <;> (rw [show env.kindOf x = env.scope.names.lookup x from rfl, q] at a; cases a)
            | cell a b c' => rw [hc] at b; cases b; exact c'
            | free a b c' => rw [hc] at b; cases b; exact c'
          have hkind := kd x
          rw [hl] at hkind
          simp only [Option.map_some] at hkind
          split at hkind
          · exact .cell hkind hc' (hcv.keeps hkeep)
          · exact .free hkind hc' (hcv.keeps hkeep)
        · cases e
      · cases e
  · intro x W hl hW
    rcases hW with ⟨_, rfl⟩ | ⟨hk, hc⟩
    · exact Nat.le_refl _
    · rcases kcell x hk with q | q
      · obtain ⟨c, hc', hlo, _⟩ := c2 x (hmemlk x _ q)
        rw [show List.lookup x _ = some W from hc] at hc'; cases hc'
        exact Nat.le_of_succ_le hlo
      · exact absurd q.1 hl
end
theorem StE.fresh {h₀ : Heap} {env : Env} {Av : List Addr} {α : Str → Addr} {ρ : REnv} {h : Heap} (st : StE h₀ env Av α ρ h) {o : Obj} (ho : o.isFreed = false) : StE h₀ env (h.objs.size :: Av) α ρ (h.push o) := by
  have hn : h.get? h.objs.size = none := get_none_size _ (Nat.le_refl _)
  have k : ∀ b o', h.get? b = some o' → (h.push o).get? b = some o' := fun b o' e => Heap.get?_push_of_some _ e
  have hav : ∀ a o, a ∉ Av → h.get? a = some o → SeqObj o → a ∉ h.objs.size :: Av := fun a o ha e _ hm => by
    rcases List.mem_cons.mp hm with rfl | hm
    · rw [hn] at e; cases e
    · exact ha hm
  have st' := st.keeps k
  refine ⟨st'.ok, st'.base, fun a ha => ?_, st.wr, fun y d e => ?_, fun y xs e => ?_, st.inj⟩
  · rcases List.mem_cons.mp ha with rfl | ha
    · exact ⟨o, Heap.get?_push_size _ ho⟩
    · exact st'.av a ha
  · obtain ⟨v, a, b⟩ := st.val y d e
    exact ⟨v, a.keeps k, b.move (fun a o _ e _ => k a o e) hav⟩
  · obtain ⟨items, n, a1, a2, a2', a3, a4⟩ := st.own y xs e
    exact ⟨items, n, a1.keeps k, List.mem_cons_of_mem _ a2, a2', k _ _ a3, a4.move (fun a o _ e _ => k a o e) hav⟩
theorem ItOK.later {prog : Program} {w : World} {h₀ : Heap} {A : Around} {Av : List Addr} {t : Expr} {it : Value} {wr : List Addr} {items : List PyData} {s s' : Shared} {D : Addr} (h : ItOK prog w h₀ A Av t it wr items s)
    (hk : ∀ b o, s.heap.get? b = some o → s'.heap.get? b = some o) (hD : s.heap.get? D = none) : ItOK prog w h₀ A (D :: Av) t it wr items s' := by
  obtain ⟨I, fp, St, rfl, W, hst, hfp, hwr, halive⟩ := h
  refine ⟨I, fp, St, rfl, W.mono (fun v d rd => rd.move (fun a o _ e _ => hk a o e) (fun a o ha e _ hm => ?_)), W.frame _ _ _ hst (fun b _ o e => hk b o e), fun b hb => ?_, fun b hb => ?_, halive⟩
  · rcases List.mem_append.mp hm with hz | hz
    · exact ha (List.mem_append.mpr (.inl hz))
    · rcases List.mem_cons.mp hz with rfl | hz
      · rw [hD] at e; cases e
      · exact ha (List.mem_append.mpr (.inr hz))
  · obtain ⟨h1, o, ho, hp⟩ := hfp b hb
    refine ⟨fun hm => ?_, o, hk _ _ ho, hp⟩
    rcases List.mem_cons.mp hm with rfl | hm
    · rw [hD] at ho; cases ho
    · exact h1 hm
  · obtain ⟨h1, o, ho⟩ := hwr b hb
    exact ⟨h1, o, hk _ _ ho⟩
section
variable {prog : Program} {w : World} {h₀ : Heap} {r : Nat} {sc : Scope} {ρ : REnv} {mg mb : Str → Option Value} {Φ : Funs}
theorem comp_core {elt : Expr} {rest : List Comprehension} {scope : Scope} {pos : Pos} {t i : Expr} {ifs : List Expr} {items ds : List PyData} (hsc : scopeOk scope sc = true)
    (hT : (targetsOf (⟨t, i, ifs, 0⟩ :: rest)).all (fun x => scope.names.lookup x != some .free) = true) (hi : IterOK prog w h₀ r sc ρ t i items)
    (hc : CLOK prog w h₀ r (relab scope sc) elt (⟨t, i, ifs, 0⟩ :: rest) scope pos 0 (compRho scope ρ) items ds) (hl : ds.length ≤ LIM)
    {env : Env} {s : Shared} {Av : List Addr} {α : Str → Addr} {A : Around} {E : Value → Shared → Prop} {RR : Value → Addr → Result → Shared → Prop} (hs : env.scope = sc) (ha : AOK r A) (st : StE h₀ env Av α ρ s.heap)
    (hRR : ∀ D C h' tk accI nn, s.heap.get? C = none → s.heap.get? D = none → D ≠ C → (∃ m, h'.Ns C m) → (∀ b o, s.heap.get? b = some o → h'.get? b = some o) → D ∉ Av → h'.get? D = some (listObj accI nn) → RepAll Av h' accI.toList ds →
      RR (.ref D) C (.ok .next) { s with heap := h', toks := tk }) :
    wpAny (model prog w) A (eval i env) (fun x s₁ => wpAny (model prog w) A (pyIter x) (fun it s₂ => wpAny (model prog w) A (newList []) (fun acc s₃ =>
      wpAny (model prog w) A (newFunctionEnv scope env.globals (cloFrom env.cells scope.names []) [] env.qual none .none (some env)) (fun cenv s₄ =>
        codeAny (model prog w) A (.compStart (.ListComp elt (⟨t, i, ifs, 0⟩ :: rest) scope pos) 0 it acc { cenv with scope := relabel scope env }) (RR acc cenv.locals) s₄) E s₃) E s₂) E s₁) E s := by
  subst hs
  refine wpAny_mono (hi.2 env s Av α A rfl ha st) (fun x s₁ h₁ => wpAny_mono h₁ (fun it s₂ h₂ => ?_) noE) noE
  obtain ⟨⟨h2, tk2, rfl, k2⟩, wr, hwrn, hit⟩ := h₂
  have st2 := st.keeps k2
  refine wpAny_newObj_type (newCompEnv ?_)
  dsimp only
  have k3 : ∀ b o, h2.get? b = some o → (h2.push (listObj #[] 0)).get? b = some o := fun b o e => Heap.get?_push_of_some _ e
  have hDnone : h2.get? h2.objs.size = none := get_none_size _ (Nat.le_refl _)
  have hDget : (h2.push (listObj #[] 0)).get? h2.objs.size = some (listObj #[] 0) := Heap.get?_push_size _ rfl
  have st3 : StE h₀ env Av α ρ (h2.push (listObj #[] 0)) := st2.keeps k3
  have hsize : (h2.push (listObj #[] 0)).objs.size = h2.objs.size + 1 := Heap.size_push ..
  have hwex : ∀ b ∈ wr, s.heap.get? b = none ∧ ∃ o, h2.get? b = some o := fun b hb => ⟨hwrn b hb, let ⟨_, _, _, _, _, _, _, hw, _⟩ := hit; (hw b hb).2⟩
  have stD : StE h₀ env (wr ++ h2.objs.size :: Av) α ρ (h2.push (listObj #[] 0)) := ((st.avoidNew k2 wr hwex).fresh (o := listObj #[] 0) rfl).perm fun a => by simp only [List.mem_append, List.mem_cons]; constructor <;> (rintro (q | q | q) <;> simp [q])
  obtain ⟨stc, hnewW⟩ := comp_env (s := { s with heap := h2.push (listObj #[] 0), toks := tk2 }) hsc stD
  have hD0 : h₀.get? h2.objs.size = none := by
    cases e : h₀.get? h2.objs.size with
    | none => rfl
    | some o => exact absurd (Heap.lt_size (st2.base _ _ e)) (Nat.lt_irrefl _)
  have k4 : ∀ b o, h2.get? b = some o → (pushCells ((h2.push (listObj #[] 0)).push { cls := .type "dict", data := .dict #[] }) scope.names).get? b = some o := fun b o e => pushCells_keeps _ _ _ _ (Heap.get?_push_of_some _ (k3 b o e))
  have hD4 : (pushCells ((h2.push (listObj #[] 0)).push { cls := .type "dict", data := .dict #[] }) scope.names).get? h2.objs.size = some (listObj #[] 0) := pushCells_keeps _ _ _ _ (Heap.get?_push_of_some _ hDget)
  have hit4 := hit.later (s' := { s with heap := pushCells ((h2.push (listObj #[] 0)).push { cls := .type "dict", data := .dict #[] }) scope.names, toks := tk2 }) k4 hDnone
  have hself : wpAny (model prog w) A (pyIter it) (fun it' s' => it' = it ∧ s' = { s with heap := pushCells ((h2.push (listObj #[] 0)).push { cls := .type "dict", data := .dict #[] }) scope.names, toks := tk2 }) NoE
      { s with heap := pushCells ((h2.push (listObj #[] 0)).push { cls := .type "dict", data := .dict #[] }) scope.names, toks := tk2 } := by
    obtain ⟨I, fp, St, rfl, W, hst, _⟩ := hit4
    exact W.self 0 _ _ _ hst ⟨rfl, rfl⟩
  refine comp_start (t := t) (i := i) (ifs := ifs) rfl ?_ hself
  refine hc _ _ (h2.objs.size :: Av) α A it wr h2.objs.size #[] 0 [] _ rfl ha compRho_noOwn stc ⟨_, rfl, hit4⟩ List.mem_cons_self hD0 hD4 (by simpa using RepAll.nil) (by simpa using hl) ?_
  intro h' tk accI' nn' kept st' hD' hacc'
  have fresh : ∀ a, h2.objs.size ≤ a → s.heap.get? a = none := fun a ha' => by
    cases e : s.heap.get? a with
    | none => rfl
    | some o => exact absurd (Heap.lt_size (k2 _ _ e)) (Nat.not_lt.mpr ha')
  have hCD : h2.objs.size ≠ (h2.push (listObj #[] 0)).objs.size := by rw [hsize]; exact Nat.ne_of_lt (Nat.lt_succ_self _)
  refine hRR h2.objs.size (h2.push (listObj #[] 0)).objs.size h' tk accI' nn' (fresh _ (by rw [hsize]; exact Nat.le_succ _)) (fresh _ (Nat.le_refl _)) hCD st'.ok.loc (fun b o e => ?_) st2.av.fresh hD' (by simpa using hacc'.move (fun _ _ _ e _ => e) (fun a o ha' _ _ hm => ha' (List.mem_cons_of_mem _ hm)))
  have hb2 := k2 b o e
  have hblt := Heap.lt_size hb2
  refine kept b o (Nat.ne_of_lt hblt) (fun hm => by rw [hwrn b hm] at e; cases e) (fun x hx hsa => ?_) (k4 b o hb2)
  have hnf : scope.names.lookup x ≠ some .free := by
    have := List.all_eq_true.mp hT x hx
    simpa using this
  have := hnewW x b hnf hsa
  dsimp only at this
  rw [hsize] at this
  exact absurd hblt (Nat.not_lt.mpr (Nat.le_of_succ_le this))
theorem hclos_of {scope : Scope} {env : Env} {Av α} {s : Shared} (hsc : scopeOk scope env.scope = true) (st : StE h₀ env Av α ρ s.heap) : closureFor scope env = pure (cloFrom env.cells scope.names []) :=
  closureFor_eq fun p hp hf => by
    have := (scopeOk_mem hsc (x := p.1) (k := p.2) hp).2.2 hf
    obtain ⟨c, v, hc, _⟩ := st.ok.cell p.1 this
    rw [hc]; rfl
theorem hnames_of {scope sc : Scope} (hsc : scopeOk scope sc = true) : ∀ x ∈ scope.names, x.2 = .local → scope.names.lookup x.1 = some .local := fun x hx hl => (scopeOk_mem hsc (x := x.1) (k := x.2) hx).1 hl
theorem ev_listcomp {elt : Expr} {rest : List Comprehension} {scope : Scope} {pos : Pos} {t i : Expr} {ifs : List Expr} {items ds : List PyData} (hsc : scopeOk scope sc = true)
    (hT : (targetsOf (⟨t, i, ifs, 0⟩ :: rest)).all (fun x => scope.names.lookup x != some .free) = true) (hi : IterOK prog w h₀ r sc ρ t i items)
    (hc : CLOK prog w h₀ r (relab scope sc) elt (⟨t, i, ifs, 0⟩ :: rest) scope pos 0 (compRho scope ρ) items ds) (hl : ds.length ≤ LIM) :
    EvOK prog w h₀ r sc ρ (.ListComp elt (⟨t, i, ifs, 0⟩ :: rest) scope pos) (.list ds) := fun env s Av α A hs ha st => by
  rw [eval_ListComp]
  refine wpAny_comprehension_free (use := none) (g := ⟨t, i, ifs, 0⟩) rfl (fun x => folded_plain hi.1) (hclos_of (hs ▸ hsc) st) (scopeOk_kind hsc) (hnames_of hsc) ?_
  refine comp_core hsc hT hi hc hl hs ha st (RR := fun acc C => compPost (model prog w) A NoE none (Post Av s (.list ds)) acc C) ?_
  intro D C h' tk accI nn hC hD hDC hns hk hDav hDget hacc
  obtain ⟨m, hm⟩ := hns
  refine ⟨m, hm, fun h'' hs'' => ⟨⟨h'', tk, rfl, fun b o e => hs''.extBut b o (by rintro rfl; rw [hC] at e; cases e) (hk b o e)⟩, ?_⟩⟩
  refine .list hDav (hs''.extBut _ _ hDC hDget) (hacc.move (fun a o _ e hso => hs''.extBut a o (fun e' => ns_not_seq hm (e' ▸ e) hso) e) (fun _ _ x _ _ => x))
end
noncomputable def CompData (prog : Program) (w : World) (h₀ : Heap) (r : Nat) (sc : Scope) (ρ : REnv) (elt : Expr) (gens : List Comprehension) (scope : Scope) (pos : Pos) (ds : List PyData) : Prop :=
  ∃ t i ifs rest items, gens = ⟨t, i, ifs, 0⟩ :: rest ∧ scopeOk scope sc = true ∧ (targetsOf gens).all (fun x => scope.names.lookup x != some .free) = true ∧ IterOK prog w h₀ r sc ρ t i items ∧
    CLOK prog w h₀ r (relab scope sc) elt gens scope pos 0 (compRho scope ρ) items ds
structure Snd (prog : Program) (w : World) (h₀ : Heap) (r : Nat) (Φ : Funs) (n : Nat) : Prop where
  ev : ∀ sc e ρ d, aeval Φ n sc e ρ = some d → EvOK prog w h₀ r sc ρ e d
  comp : ∀ sc elt gens scope ρ ds pos, acomp Φ n sc elt gens scope ρ = some ds → CompData prog w h₀ r sc ρ elt gens scope pos ds
  loop : ∀ sc elt gens k rest scope pos items ρ ds, gens.drop k = rest → acompLoop Φ n sc elt rest items ρ = some ds → CLOK prog w h₀ r sc elt gens scope pos k ρ items ds
  ifs : ∀ sc es ρ b, aifs Φ n sc es ρ = some b → IfsOK prog w h₀ r sc ρ es b
  iter : ∀ sc e ρ ds, aiter Φ n sc e ρ = some ds → ∀ x p, IterOK prog w h₀ r sc ρ (.Name x p) e ds
  cmp : ∀ sc l op r' ρ b, acompare Φ n sc l op r' ρ = some b → CmOK prog w h₀ r sc ρ l op r' b
  tr : ∀ sc e ρ b, atrue Φ n sc e ρ = some b → TrOK prog w h₀ r sc ρ e b
  bo : ∀ sc op es ρ b, abool Φ n sc op es ρ = some b → BoOK prog w h₀ r sc ρ op es b
  es : ∀ sc es ρ ds, aevals Φ n sc es ρ = some ds → EsOK prog w h₀ r sc ρ es ds
  pa : ∀ sc o ρ k, apart Φ n sc o ρ = some k → PaOK prog w h₀ r sc ρ o k
theorem notSet_of_aeval {Φ : Funs} {n : Nat} {sc : Scope} {e : Expr} {ρ : REnv} {d : PyData} (h : aeval Φ n sc e ρ = some d) : notSet e = true := by
  cases n with
  | zero => exact none_no h
  | succ n => cases e <;> first | rfl | exact none_no h
theorem marks_of_aeval {Φ : Funs} {n : Nat} {sc : Scope} {e : Expr} {ρ : REnv} {d : PyData} {op : CmpOp} (h : aeval Φ n sc e ρ = some d) : behindInMarks op e = false := by
  have := notSet_of_aeval h
  cases e <;> first | rfl | exact absurd this Bool.false_ne_true
section
variable {prog : Program} {w : World} {h₀ : Heap} {r : Nat} {mg mb : Str → Option Value} {Φ : Funs}
theorem snd_zero : Snd prog w h₀ r Φ 0 where
  ev := fun _ _ _ _ h => none_no h
  comp := fun _ _ _ _ _ _ _ h => none_no h
  loop := fun _ _ _ _ _ _ _ _ _ _ _ h => none_no h
  ifs := fun _ _ _ _ h => none_no h
  iter := fun _ _ _ _ h => none_no h
  cmp := fun _ _ _ _ _ _ h => none_no h
  tr := fun _ _ _ _ h => none_no h
  bo := fun _ _ _ _ _ h => none_no h
  es := fun _ _ _ _ h => none_no h
  pa := fun _ _ _ _ h => none_no h
theorem opt_or {α : Type} (a : Option α) : (∃ x, a = some x) ∨ a = none := match a with
  | none => .inr rfl
  | some x => .inl ⟨x, rfl⟩
theorem if_some {P : Prop} [Decidable P] {γ : Type} {a : Option γ} {c : γ} (h : (if P then a else none) = some c) : P ∧ a = some c := by
  by_cases q : P
  · rw [if_pos q] at h; exact ⟨q, h⟩
  · rw [if_neg q] at h; exact none_no h
theorem ifn_some {P : Prop} [Decidable P] {γ : Type} {a : Option γ} {c : γ} (h : (if P then none else a) = some c) : ¬ P ∧ a = some c := by
  by_cases q : P
  · rw [if_pos q] at h; exact none_no h
  · rw [if_neg q] at h; exact ⟨q, h⟩
theorem snd_ev (B : BaseOK h₀ mg mb) (F : FunOK prog w h₀ mg r Φ) {n : Nat} (ih : Snd prog w h₀ r Φ n) : ∀ sc e ρ d, aeval Φ (n + 1) sc e ρ = some d → EvOK prog w h₀ r sc ρ e d := by
  intro sc e ρ d h
  cases e with
  | Constant c k p => exact ev_const h
  | Name x p => exact ev_name h
  | BinOp l op r' p =>
    replace h := (v_bin.symm.trans h)
    obtain ⟨a, h1⟩ | h1 := opt_or (aeval Φ n sc l ρ)
    rotate_left
    · rw [h1] at h; exact none_no h
    obtain ⟨b, h2⟩ | h2 := opt_or (aeval Φ n sc r' ρ)
    rotate_left
    · rw [h1, h2] at h; exact none_no h
    rw [h1, h2] at h
    have h3 := h
    exact ev_bin (ih.ev _ _ _ _ h1) (ih.ev _ _ _ _ h2) h3
  | UnaryOp op x p => cases op with
    | USub =>
      replace h := v_neg.symm.trans h
      cases h1 : aeval Φ n sc x ρ with
      | none => rw [h1] at h; exact none_no h
      | some v =>
        rw [h1] at h
        cases v with
        | int i => cases h; exact ev_neg (ih.ev _ _ _ _ h1)
        | _ => exact none_no h
    | _ => exact none_no h
  | IfExp t b o p =>
    replace h := v_if.symm.trans h
    cases h1 : atrue Φ n sc t ρ with
    | none => rw [h1] at h; exact none_no h
    | some k =>
      rw [h1] at h
      cases k with
      | true => exact ev_if (ih.tr _ _ _ _ h1) (ih.ev _ _ _ _ h)
      | false => exact ev_if (ih.tr _ _ _ _ h1) (ih.ev _ _ _ _ h)
  | List es p =>
    replace h := (v_list.symm.trans h)
    obtain ⟨ds, h1⟩ | h1 := opt_or (aevals Φ n sc es ρ)
    rotate_left
    · rw [h1] at h; exact none_no h
    rw [h1] at h
    have h2 := h
    obtain ⟨hl, h3⟩ := if_some h2
    cases h3; exact ev_list (ih.es _ _ _ _ h1) hl
  | Tuple es k p =>
    replace h := (v_tuple.symm.trans h)
    obtain ⟨ds, h1⟩ | h1 := opt_or (aevals Φ n sc es ρ)
    rotate_left
    · rw [h1] at h; exact none_no h
    rw [h1] at h
    have h2 := h
    obtain ⟨hl, h3⟩ := if_some h2
    cases h3; exact ev_tuple (ih.es _ _ _ _ h1) hl
  | Compare l ops rs p => cases ops with
    | nil => exact none_no h
    | cons op ops => cases ops with
      | cons _ _ => exact none_no h
      | nil => cases rs with
        | nil => exact none_no h
        | cons r' rs => cases rs with
          | cons _ _ => exact none_no h
          | nil =>
            obtain ⟨k, hk, rfl⟩ := Option.map_eq_some_iff.mp (v_cmp.symm.trans h)
            exact ev_compare (ih.cmp _ _ _ _ _ _ hk)
  | Subscript v i p =>
    rcases slice_or i with ⟨lo, hi, st, q, rfl⟩ | hn
    · replace h := v_slice.symm.trans h
      cases h1 : aeval Φ n sc v ρ with
      | none => rw [h1] at h; exact none_no h
      | some a => cases h2 : apart Φ n sc lo ρ with
        | none => rw [h1, h2] at h; exact none_no h
        | some b => cases h3 : apart Φ n sc hi ρ with
          | none => rw [h1, h2, h3] at h; exact none_no h
          | some c => cases h4 : apart Φ n sc st ρ with
            | none => rw [h1, h2, h3, h4] at h; exact none_no h
            | some e =>
              rw [h1, h2, h3, h4] at h
              exact ev_slice (ih.ev _ _ _ _ h1) (ih.pa _ _ _ _ h2) (ih.pa _ _ _ _ h3) (ih.pa _ _ _ _ h4) h
    · replace h := ((hn _ _ _ _ _ _).symm.trans h)
      obtain ⟨a, h1⟩ | h1 := opt_or (aeval Φ n sc v ρ)
      rotate_left
      · rw [h1] at h; exact none_no h
      obtain ⟨b, h2⟩ | h2 := opt_or (aeval Φ n sc i ρ)
      rotate_left
      · rw [h1, h2] at h; exact none_no h
      rw [h1, h2] at h
      have h3 := h
      exact ev_sub (ih.ev _ _ _ _ h1) (ih.ev _ _ _ _ h2) h3
  | Call f args ks pos => cases ks with
    | cons k ks => cases f <;> exact none_no h
    | nil => cases f with
      | Attribute o m apos =>
        obtain ⟨hc, h⟩ := if_some (v_meth.symm.trans h)
        cases h1 : methOf m with
        | none => rw [h1] at h; exact none_no h
        | some m' => cases h2 : aeval Φ n sc o ρ with
          | none => rw [h1, h2] at h; exact none_no h
          | some v => cases h3 : aevals Φ n sc args ρ with
            | none => rw [h1, h2, h3] at h; exact none_no h
            | some ds =>
              rw [h1, h2, h3] at h
              rw [methOf_name h1]
              exact ev_method hc.1 hc.2.1 hc.2.2 (ih.ev _ _ _ _ h2) (ih.es _ _ _ _ h3) h
      | Name f q =>
        obtain ⟨hc, h⟩ := if_some (v_call.symm.trans h)
        obtain ⟨ds, h1⟩ | h1 := opt_or (aevals Φ n sc args ρ)
        rotate_left
        · rw [h1] at h; exact none_no h
        rw [h1] at h
        cases h2 : bltOf f with
        | none => rw [h2] at h; exact ev_call B F hc.1 hc.2 (ih.es _ _ _ _ h1) h
        | some b =>
          rw [h2] at h
          have := bltOf_name h2
          subst this
          exact ev_builtin B hc.1 hc.2 (ih.es _ _ _ _ h1) h
      | _ => exact none_no h
  | ListComp elt gens scope p =>
    replace h := (v_comp.symm.trans h)
    obtain ⟨ds, h1⟩ | h1 := opt_or (acomp Φ n sc elt gens scope ρ)
    rotate_left
    · rw [h1] at h; exact none_no h
    rw [h1] at h
    have h2 := h
    obtain ⟨hl, h3⟩ := if_some h2
    cases h3
    obtain ⟨t, i, ifs, rest, items, rfl, h2, h3, h4, h5⟩ := ih.comp _ _ _ _ _ _ _ h1
    exact ev_listcomp h2 h3 h4 h5 hl
  | _ => exact none_no h
theorem loop_head {n : Nat} {sc : Scope} {elt : Expr} {t it : Expr} {ifs : List Expr} {asy : Int} {rest : List Comprehension} {items ds : List PyData} {ρ : REnv} (h : acompLoop Φ n sc elt (⟨t, it, ifs, asy⟩ :: rest) items ρ = some ds) : asy = 0 ∧ ∃ x p, t = .Name x p := by
  cases n with
  | zero => exact none_no h
  | succ n => cases t with
    | Name x p => exact ⟨(if_some h).1.1, x, p, rfl⟩
    | _ => exact none_no h
theorem snd_comp (B : BaseOK h₀ mg mb) (F : FunOK prog w h₀ mg r Φ) {n : Nat} (ih : Snd prog w h₀ r Φ n) : ∀ sc elt gens scope ρ ds pos, acomp Φ (n + 1) sc elt gens scope ρ = some ds → CompData prog w h₀ r sc ρ elt gens scope pos ds := by
  intro sc elt gens scope ρ ds pos h
  cases gens with
  | nil =>
    exact none_no (if_some (a := (none : Option (List PyData))) h).2
  | cons g rest =>
    obtain ⟨t, it, ifs, asy⟩ := g
    obtain ⟨hc, h⟩ := if_some (v_acomp.symm.trans h)
    obtain ⟨items, hi⟩ | hi := opt_or (aiter Φ n sc it ρ)
    rotate_left
    · rw [hi] at h; exact none_no h
    rw [hi] at h
    obtain ⟨rfl, x, p, rfl⟩ := loop_head h
    exact ⟨_, it, ifs, rest, items, rfl, hc.1, hc.2, ih.iter _ _ _ _ hi _ _, ih.loop _ _ _ 0 _ _ _ _ _ _ rfl h⟩
theorem snd_loop (B : BaseOK h₀ mg mb) (F : FunOK prog w h₀ mg r Φ) {n : Nat} (ih : Snd prog w h₀ r Φ n) : ∀ sc elt gens k rest scope pos items ρ ds, gens.drop k = rest → acompLoop Φ (n + 1) sc elt rest items ρ = some ds → CLOK prog w h₀ r sc elt gens scope pos k ρ items ds := by
  intro sc elt gens k rest scope pos items ρ ds hd h
  cases rest with
  | nil => exact none_no h
  | cons g rest' =>
    obtain ⟨t, it, ifs, asy⟩ := g
    obtain ⟨rfl, x, p, rfl⟩ := loop_head h
    obtain ⟨hc, h⟩ := if_some h
    obtain ⟨_, hlen, hkind, hx⟩ := hc
    have hg : gens[k]? = some ⟨.Name x p, it, ifs, 0⟩ := by
      have := congrArg (fun l => l[0]?) hd
      simpa using this
    have hg1 : gens[k + 1]? = rest'[0]? := by
      have := congrArg (fun l => l[1]?) hd
      simpa using this
    have hd1 : gens.drop (k + 1) = rest' := by
      have := congrArg (List.drop 1) hd
      simpa [Nat.add_comm] using this
    have hat : ∀ d, atgt sc (.Name x p) d ρ = some (ρ.set x (.val d)) := fun d => by
      refine atgt_name ?_
      unfold kindOk; simpa using hkind
    refine comp_loop hg (fun y hy => by rw [List.mem_singleton.mp hy]; exact Option.isNone_iff_eq_none.mp hx) hlen h ?_
    intro d ds' hf
    cases hi : aifs Φ n sc ifs (ρ.set x (.val d)) with
    | none => rw [hi] at hf; exact none_no hf
    | some b =>
      rw [hi] at hf
      cases b with
      | false => cases hf; exact ⟨_, false, hat d, ih.ifs _ _ _ _ hi, by simp⟩
      | true =>
        refine ⟨_, true, hat d, ih.ifs _ _ _ _ hi, ?_⟩
        rw [if_pos rfl]
        cases rest' with
        | nil =>
          obtain ⟨v, hv, rfl⟩ := Option.map_eq_some_iff.mp hf
          exact turn_last (by rw [hg1]; rfl) (ih.ev _ _ _ _ hv)
        | cons g2 rest2 =>
          obtain ⟨t', it', ifs', asy'⟩ := g2
          dsimp only at hf
          obtain ⟨its, hits⟩ | hits := opt_or (aiter Φ n sc it' (ρ.set x (.val d)))
          rotate_left
          · rw [hits] at hf; exact none_no hf
          rw [hits] at hf
          obtain ⟨rfl, x', p', rfl⟩ := loop_head hf
          exact turn_next (by rw [hg1]; rfl) (ih.iter _ _ _ _ hits _ _) (ih.loop _ _ _ _ _ _ _ _ _ _ hd1 hf)
theorem list_some {a : Option PyData} {ds : List PyData} (h : (match a with | some (.list xs) => some xs | _ => none) = some ds) : a = some (.list ds) := by
  cases a with
  | none => exact none_no h
  | some v => cases v with
    | list xs => cases h; rfl
    | _ => exact none_no h
theorem snd_iter (B : BaseOK h₀ mg mb) (F : FunOK prog w h₀ mg r Φ) {n : Nat} (ih : Snd prog w h₀ r Φ n) : ∀ sc e ρ ds, aiter Φ (n + 1) sc e ρ = some ds → ∀ x p, IterOK prog w h₀ r sc ρ (.Name x p) e ds := by
  intro sc e ρ ds h x p
  rcases call_or e with ⟨f, q, args, pos, rfl⟩ | hn
  · replace h := v_itcall.symm.trans h
    by_cases hc : f = "range" ∧ sc.names.lookup f = some .globalImplicit
    · rw [if_pos hc] at h
      cases h1 : aevals Φ n sc args ρ with
      | none => rw [h1] at h; exact none_no h
      | some l =>
        rw [h1] at h
        cases l with
        | nil => exact none_no h
        | cons a l => cases a with
          | int a => cases l with
            | nil =>
              obtain ⟨hb, h⟩ := if_some h
              cases h
              exact it_range B hc.1 hc.2 (ih.es _ _ _ _ h1) (.inl ⟨rfl, rfl⟩) (by decide) (by decide) (by omega) (by omega)
            | cons b l => cases b with
              | int b => cases l with
                | nil =>
                  obtain ⟨hb, h⟩ := if_some h
                  cases h
                  exact it_range B hc.1 hc.2 (ih.es _ _ _ _ h1) (.inr rfl) (by omega) (by omega) (by omega) (by omega)
                | cons _ _ => exact none_no h
              | _ => exact none_no h
          | _ => exact none_no h
    · rw [if_neg hc] at h
      exact it_list rfl (ih.ev _ _ _ _ (list_some h))
  · have h1 := list_some ((hn _ _ _ _).symm.trans h)
    exact it_list (notSet_of_aeval h1) (ih.ev _ _ _ _ h1)
theorem snd_cmp (B : BaseOK h₀ mg mb) (F : FunOK prog w h₀ mg r Φ) {n : Nat} (ih : Snd prog w h₀ r Φ n) : ∀ sc l op r' ρ b, acompare Φ (n + 1) sc l op r' ρ = some b → CmOK prog w h₀ r sc ρ l op r' b := by
  intro sc l op r' ρ b h
  have plain : (match aeval Φ n sc l ρ with | none => none | some a => match aeval Φ n sc r' ρ with | some b => acmp op a b | none => none) = some b → CmOK prog w h₀ r sc ρ l op r' b := fun h => by
    cases ha : aeval Φ n sc l ρ with
    | none => rw [ha] at h; exact none_no h
    | some a =>
      rw [ha] at h
      obtain ⟨d, hb⟩ | hb := opt_or (aeval Φ n sc r' ρ)
      rotate_left
      · rw [hb] at h; exact none_no h
      rw [hb] at h
      exact cm_plain (marks_of_aeval hb) (ih.ev _ _ _ _ ha) (ih.ev _ _ _ _ hb) h
  by_cases h1 : op = .In
  · subst h1
    rcases name_or r' with ⟨x, q, rfl⟩ | hn
    · replace h := v_in.symm.trans h
      obtain ⟨a, ha⟩ | ha := opt_or (aeval Φ n sc l ρ)
      rotate_left
      · rw [ha] at h; exact none_no h
      rw [ha] at h
      have nm : (match aname ρ x with | some b => acmp .In a b | none => none) = some b → CmOK prog w h₀ r sc ρ l .In (.Name x q) b := fun h => by
        obtain ⟨d, hb⟩ | hb := opt_or (aname ρ x)
        · rw [hb] at h; exact cm_plain rfl (ih.ev _ _ _ _ ha) (ev_name hb) h
        · rw [hb] at h; exact none_no h
      cases hx : ρ x with
      | none => rw [hx] at h; exact nm h
      | some v => cases v with
        | val d => rw [hx] at h; exact nm h
        | own ys =>
          rw [hx] at h
          obtain ⟨hd, h⟩ := ifn_some h
          exact (cm_in_own (ih.ev _ _ _ _ ha) hx hd h).1
    · exact plain ((hn.1 _ _ _ _ _).symm.trans h)
  · by_cases h2 : op = .NotIn
    · subst h2
      rcases name_or r' with ⟨x, q, rfl⟩ | hn
      · replace h := v_notin.symm.trans h
        obtain ⟨a, ha⟩ | ha := opt_or (aeval Φ n sc l ρ)
        rotate_left
        · rw [ha] at h; exact none_no h
        rw [ha] at h
        have nm : (match aname ρ x with | some b => acmp .NotIn a b | none => none) = some b → CmOK prog w h₀ r sc ρ l .NotIn (.Name x q) b := fun h => by
          obtain ⟨d, hb⟩ | hb := opt_or (aname ρ x)
          · rw [hb] at h; exact cm_plain rfl (ih.ev _ _ _ _ ha) (ev_name hb) h
          · rw [hb] at h; exact none_no h
        cases hx : ρ x with
        | none => rw [hx] at h; exact nm h
        | some v => cases v with
          | val d => rw [hx] at h; exact nm h
          | own ys =>
            rw [hx] at h
            obtain ⟨hd, h⟩ := ifn_some h
            obtain ⟨k, hk, rfl⟩ := Option.map_eq_some_iff.mp h
            exact (cm_in_own (ih.ev _ _ _ _ ha) hx hd hk).2
      · exact plain ((hn.2 _ _ _ _ _).symm.trans h)
    · exact plain ((v_acmp h1 h2).symm.trans h)
theorem bool_some {a : Option PyData} {b : Bool} (h : (match a with | some (.bool k) => some k | _ => none) = some b) : a = some (.bool b) := by
  cases a with
  | none => exact none_no h
  | some v => cases v with
    | bool k => cases h; rfl
    | _ => exact none_no h
theorem snd_tr (B : BaseOK h₀ mg mb) (F : FunOK prog w h₀ mg r Φ) {n : Nat} (ih : Snd prog w h₀ r Φ n) : ∀ sc e ρ b, atrue Φ (n + 1) sc e ρ = some b → TrOK prog w h₀ r sc ρ e b := by
  intro sc e ρ b h
  cases e with
  | UnaryOp op x p => cases op with
    | Not =>
      obtain ⟨k, hk, rfl⟩ := Option.map_eq_some_iff.mp (t_not.symm.trans h)
      exact tr_not (ih.tr _ _ _ _ hk)
    | _ => exact none_no h
  | BoolOp op vs p => exact tr_bool (ih.bo _ _ _ _ _ h)
  | Compare l ops rs p => cases ops with
    | nil => exact none_no h
    | cons op ops => cases ops with
      | cons _ _ => exact none_no h
      | nil => cases rs with
        | nil => exact none_no h
        | cons r' rs => cases rs with
          | cons _ _ => exact none_no h
          | nil => exact tr_compare (ih.cmp _ _ _ _ _ _ h)
  | Name x p => exact tr_name (ev_name (bool_some (t_name.symm.trans h)))
  | Call f as ks p => exact tr_call (ih.ev _ _ _ _ (bool_some (t_call.symm.trans h)))
  | _ => exact none_no h
theorem snd_step (B : BaseOK h₀ mg mb) (F : FunOK prog w h₀ mg r Φ) {n : Nat} (ih : Snd prog w h₀ r Φ n) : Snd prog w h₀ r Φ (n + 1) where
  ev := snd_ev B F ih
  comp := snd_comp B F ih
  loop := snd_loop B F ih
  ifs := by
    intro sc es ρ b h
    cases es with
    | nil => cases (v_ifs0.symm.trans h); exact ifs_nil
    | cons e rr =>
      replace h := v_ifs.symm.trans h
      cases h1 : atrue Φ n sc e ρ with
      | none => rw [h1] at h; exact none_no h
      | some k =>
        rw [h1] at h
        cases k with
        | true => exact ifs_true (ih.tr _ _ _ _ h1) (ih.ifs _ _ _ _ h)
        | false => cases h; exact ifs_false (ih.tr _ _ _ _ h1)
  iter := snd_iter B F ih
  cmp := snd_cmp B F ih
  tr := snd_tr B F ih
  bo := by
    intro sc op es ρ b h
    cases es with
    | nil => cases (b_nil.symm.trans h); exact bo_nil
    | cons e rr =>
      replace h := b_cons.symm.trans h
      cases hk : atrue Φ n sc e ρ with
      | none => rw [hk] at h; exact none_no h
      | some k =>
        rw [hk] at h
        cases op with
        | And => cases k with
          | false => cases h; exact bo_stop (ih.tr _ _ _ _ hk) (.inl ⟨rfl, rfl⟩)
          | true => exact bo_go (ih.tr _ _ _ _ hk) (by simp) (ih.bo _ _ _ _ _ h)
        | Or => cases k with
          | true => cases h; exact bo_stop (ih.tr _ _ _ _ hk) (.inr ⟨rfl, rfl⟩)
          | false => exact bo_go (ih.tr _ _ _ _ hk) (by simp) (ih.bo _ _ _ _ _ h)
  es := by
    intro sc es ρ ds h
    cases es with
    | nil => cases (e_nil.symm.trans h); exact es_nil
    | cons e rr =>
      obtain ⟨hn, h⟩ := if_some (e_cons.symm.trans h)
      obtain ⟨a, h1⟩ | h1 := opt_or (aeval Φ n sc e ρ)
      rotate_left
      · rw [h1] at h; exact none_no h
      obtain ⟨b, h2⟩ | h2 := opt_or (aevals Φ n sc rr ρ)
      rotate_left
      · rw [h1, h2] at h; exact none_no h
      rw [h1, h2] at h
      have h3 := h
      cases h3; exact es_cons hn (ih.ev _ _ _ _ h1) (ih.es _ _ _ _ h2)
  pa := by
    intro sc o ρ k h
    cases o with
    | none => cases (p_none.symm.trans h); exact pa_none
    | some e =>
      replace h := p_some.symm.trans h
      cases h1 : aeval Φ n sc e ρ with
      | none => rw [h1] at h; exact none_no h
      | some v =>
        rw [h1] at h
        cases v with
        | int i => cases h; exact pa_some (ih.ev _ _ _ _ h1)
        | _ => exact none_no h
end
theorem snd_all {prog : Program} {w : World} {h₀ : Heap} {r : Nat} {mg mb : Str → Option Value} {Φ : Funs} (B : BaseOK h₀ mg mb) (F : FunOK prog w h₀ mg r Φ) : ∀ n, Snd prog w h₀ r Φ n
  | 0 => snd_zero
  | n + 1 => snd_step B F (snd_all B F n)
inductive AFlow where
  | next
  | brk
  | ret (d : PyData)
noncomputable def frzV : Option LV → Option LV
  | some (.own ys) => some (.val (.list ys))
  | o => o
noncomputable def frz1 (y : Str) (ρ : REnv) : REnv := fun x => if x = y then frzV (ρ y) else ρ x
theorem frz1_of_own {y : Str} {ρ : REnv} {ys} (h : ρ y = some (.own ys)) : frz1 y ρ = ρ.set y (.val (.list ys)) := by
  funext x; unfold frz1 REnv.set; rw [h]; rfl
theorem frz1_of_not {y : Str} {ρ : REnv} (h : ∀ ys, ρ y ≠ some (.own ys)) : frz1 y ρ = ρ := by
  funext x; unfold frz1
  split
  · rename_i e; subst e
    cases hy : ρ x with
    | none => rfl
    | some v => cases v with
      | val d => rfl
      | own ys => exact absurd hy (h ys)
  · rfl
noncomputable def frz : List Str → REnv → REnv
  | [], ρ => ρ
  | y :: r, ρ => frz r (frz1 y ρ)
noncomputable def namesE : Nat → Expr → List Str
  | 0, _ => []
  | n + 1, e => match e with
    | .Name x _ => [x]
    | .Call _ args _ _ => args.flatMap (namesE n)
    | .Subscript v _ _ => namesE n v
    | _ => []
noncomputable def aloop (f : PyData → REnv → Option (AFlow × REnv)) : List PyData → REnv → Option (AFlow × REnv)
  | [], ρ => some (.next, ρ)
  | d :: ds, ρ => match f d ρ with
    | some (.next, ρ') => aloop f ds ρ'
    | some (.brk, ρ') => some (.next, ρ')
    | some (.ret v, ρ') => some (.ret v, ρ')
    | none => none
noncomputable def isEmptyList : Expr → Bool
  | .List [] _ => true
  | _ => false
mutual
noncomputable def aexec (Φ : Funs) (ap : List Str) : Nat → Scope → Stmt → REnv → Option (AFlow × REnv)
  | 0, _, _, _ => none
  | n + 1, sc, st, ρ => match st with
    | .Assign [.Name x _] v _ => if kindOk sc x = true then (if isEmptyList v = true ∧ ap.contains x = true then some (.next, ρ.set x (.own []))
        else match aeval Φ n sc v ρ with
          | some d => some (.next, ρ.set x (.val d))
          | none => none) else none
    | .Assign [.Tuple [.Name x _, .Name y _] _ _] (.Name z _) _ => if kindOk sc x = true ∧ kindOk sc y = true ∧ x ≠ y then match aname ρ z with
        | some (.tuple [a, b]) => some (.next, (ρ.set x (.val a)).set y (.val b))
        | some (.list [a, b]) => some (.next, (ρ.set x (.val a)).set y (.val b))
        | _ => none
      else none
    | .Expr (.Call (.Attribute (.Name x _) m apos) [e] [] pos) _ => if m = "append" ∧ (apos.endLine == pos.line) = true ∧ notStar e = true ∧ x ≠ "__debug__" ∧ x ≠ "__classdict__" ∧ (namesE 1 e).contains x = false then match aeval Φ n sc e (frz (namesE 1 e) ρ), ρ x with
        | some d, some (.own xs) => if xs.length < LIM then some (.next, (frz (namesE 1 e) ρ).set x (.own (xs ++ [d]))) else none
        | _, _ => none
      else none
    | .If t b o _ => match atrue Φ n sc t ρ with
      | some true => aexecs Φ ap n sc b ρ
      | some false => aexecs Φ ap n sc o ρ
      | none => none
    | .For (.Name x xp) it b [] _ => match aiter Φ n sc it (frz (namesE 1 it) ρ) with
      | some items => aloop (fun d ρ => match abind sc (.Name x xp) d ρ with
        | some ρ' => aexecs Φ ap n sc b ρ'
        | none => none) items (frz (namesE 1 it) ρ)
      | none => none
    | .Break _ => some (.brk, ρ)
    | .Return (some e) _ => match aeval Φ n sc e (frz (namesE 5 e) ρ) with
      | some d => some (.ret d, frz (namesE 5 e) ρ)
      | none => none
    | .Try b (_ :: _) [] [] _ => aexecs Φ ap n sc b ρ
    | _ => none
noncomputable def aexecs (Φ : Funs) (ap : List Str) : Nat → Scope → List Stmt → REnv → Option (AFlow × REnv)
  | 0, _, _, _ => none
  | n + 1, sc, sts, ρ => match sts with
    | [] => some (.next, ρ)
    | st :: r => match aexec Φ ap n sc st ρ with
      | some (.next, ρ') => aexecs Φ ap n sc r ρ'
      | x => x
end
section
variable {Φ : Funs} {n : Nat} {sc : Scope} {ρ : REnv} {ap : List Str}
theorem x_nil : aexecs Φ ap (n + 1) sc [] ρ = some (.next, ρ) := id rfl
theorem x_cons {st r} : aexecs Φ ap (n + 1) sc (st :: r) ρ = (match aexec Φ ap n sc st ρ with
      | some (.next, ρ') => aexecs Φ ap n sc r ρ'
      | x => x) := id rfl
theorem x_assign {x q v p} : aexec Φ ap (n + 1) sc (.Assign [.Name x q] v p) ρ = (if kindOk sc x = true then (if isEmptyList v = true ∧ ap.contains x = true then some (.next, ρ.set x (.own []))
        else match aeval Φ n sc v ρ with
          | some d => some (.next, ρ.set x (.val d))
          | none => none) else none) := id rfl
theorem x_unpack {x px y py k tp z pz p} : aexec Φ ap (n + 1) sc (.Assign [.Tuple [.Name x px, .Name y py] k tp] (.Name z pz) p) ρ = (if kindOk sc x = true ∧ kindOk sc y = true ∧ x ≠ y then match aname ρ z with
        | some (.tuple [a, b]) => some (.next, (ρ.set x (.val a)).set y (.val b))
        | some (.list [a, b]) => some (.next, (ρ.set x (.val a)).set y (.val b))
        | _ => none
      else none) := id rfl
theorem x_append {x q m apos e pos p} : aexec Φ ap (n + 1) sc (.Expr (.Call (.Attribute (.Name x q) m apos) [e] [] pos) p) ρ = (if m = "append" ∧ (apos.endLine == pos.line) = true ∧ notStar e = true ∧ x ≠ "__debug__" ∧ x ≠ "__classdict__" ∧ (namesE 1 e).contains x = false then match aeval Φ n sc e (frz (namesE 1 e) ρ), ρ x with
        | some d, some (.own xs) => if xs.length < LIM then some (.next, (frz (namesE 1 e) ρ).set x (.own (xs ++ [d]))) else none
        | _, _ => none
      else none) := id rfl
theorem x_if {t b o p} : aexec Φ ap (n + 1) sc (.If t b o p) ρ = (match atrue Φ n sc t ρ with
      | some true => aexecs Φ ap n sc b ρ
      | some false => aexecs Φ ap n sc o ρ
      | none => none) := id rfl
theorem x_for {x q it b p} : aexec Φ ap (n + 1) sc (.For (.Name x q) it b [] p) ρ = (match aiter Φ n sc it (frz (namesE 1 it) ρ) with
      | some items => aloop (fun d ρ => match abind sc (.Name x q) d ρ with
        | some ρ' => aexecs Φ ap n sc b ρ'
        | none => none) items (frz (namesE 1 it) ρ)
      | none => none) := id rfl
theorem x_break {p} : aexec Φ ap (n + 1) sc (.Break p) ρ = some (.brk, ρ) := id rfl
theorem x_ret {e p} : aexec Φ ap (n + 1) sc (.Return (some e) p) ρ = (match aeval Φ n sc e (frz (namesE 5 e) ρ) with
      | some d => some (.ret d, frz (namesE 5 e) ρ)
      | none => none) := id rfl
theorem x_try {b h hs p} : aexec Φ ap (n + 1) sc (.Try b (h :: hs) [] [] p) ρ = aexecs Φ ap n sc b ρ := id rfl
end
structure StS (h₀ : Heap) (Avc : List Addr) (env : Env) (Av : List Addr) (α : Str → Addr) (ρ : REnv) (h : Heap) : Prop where
  st : StE h₀ env Av α ρ h
  sub : ∀ a ∈ Avc, a ∈ Av
  ownc : ∀ x xs, ρ x = some (.own xs) → α x ∉ Avc
inductive FlRep (Av : List Addr) (h : Heap) : Flow → AFlow → Prop
  | next : FlRep Av h .next .next
  | brk : FlRep Av h .brk .brk
  | ret {v d} : Rep Av h v d → FlRep Av h (.ret v) (.ret d)
inductive ExPost (h₀ : Heap) (Avc : List Addr) (env : Env) (s : Shared) (Av : List Addr) (α : Str → Addr) (ρ : REnv) (fl : AFlow) (ρ' : REnv) (f : Flow) (s' : Shared) : Prop
  | mk (Av' : List Addr) (α' : Str → Addr) (h' : Heap) (tk : Nat) (e : s' = { s with heap := h', toks := tk }) (st : StS h₀ Avc env Av' α' ρ' h') (fr : FlRep Av' h' f fl)
    (kept : ∀ b o, s.heap.get? b = some o → (∀ x, ¬ StoreAt env x b) → (∀ x xs, ρ x = some (.own xs) → α x ≠ b) → h'.get? b = some o)
    (own : ∀ x xs, ρ' x = some (.own xs) → s.heap.get? (α' x) = none ∨ ∃ y ys, ρ y = some (.own ys) ∧ α' x = α y)
    (alive : ∀ b o, s.heap.get? b = some o → ∃ o', h'.get? b = some o') (avn : ∀ a ∈ Av', a ∈ Av ∨ s.heap.get? a = none)
noncomputable def ExOK (prog : Program) (w : World) (h₀ : Heap) (r : Nat) (sc : Scope) (st : Stmt) (ρ : REnv) (fl : AFlow) (ρ' : REnv) : Prop :=
  ∀ env s Avc Av α A, env.scope = sc → AOK r A → StS h₀ Avc env Av α ρ s.heap → wpAny (model prog w) A (exec st env) (ExPost h₀ Avc env s Av α ρ fl ρ') NoE s
noncomputable def ExsOK (prog : Program) (w : World) (h₀ : Heap) (r : Nat) (sc : Scope) (sts : List Stmt) (ρ : REnv) (fl : AFlow) (ρ' : REnv) : Prop :=
  ∀ env s Avc Av α A, env.scope = sc → AOK r A → StS h₀ Avc env Av α ρ s.heap → wpAny (model prog w) A (execs sts env) (ExPost h₀ Avc env s Av α ρ fl ρ') NoE s
section
variable {h₀ : Heap} {Avc Av : List Addr} {env : Env} {α : Str → Addr} {ρ : REnv} {h h' : Heap}
theorem StS.keeps (hk : ∀ a o, h.get? a = some o → h'.get? a = some o) (x : StS h₀ Avc env Av α ρ h) : StS h₀ Avc env Av α ρ h' := ⟨x.st.keeps hk, x.sub, x.ownc⟩
/-- from here on a list is no longer grown -/
theorem StS.frz1 (x : StS h₀ Avc env Av α ρ h) (y : Str) : ∃ Av', StS h₀ Avc env Av' α (frz1 y ρ) h ∧ (∀ a ∈ Av', a ∈ Av) := by
  by_cases hown : ∃ ys, ρ y = some (.own ys)
  · obtain ⟨ys, hy⟩ := hown
    rw [frz1_of_own hy]
    obtain ⟨items, n, a1, a2, a2', a3, a4⟩ := x.st.own y ys hy
    refine ⟨Av.filter (fun a => a ≠ α y), ⟨⟨x.st.ok, x.st.base, fun a ha => x.st.av a (List.mem_filter.mp ha).1, x.st.wr, fun z d e => ?_, fun z zs e => ?_, fun z u zs us e1 e2 e3 => ?_⟩, fun a ha => ?_, fun z zs e => ?_⟩, fun a ha => (List.mem_filter.mp ha).1⟩
    · have less : ∀ {v d}, Rep Av h v d → Rep (Av.filter (fun a => a ≠ α y)) h v d := fun rr => rr.move (fun _ _ _ e _ => e) (fun a o ha _ _ hm => ha (List.mem_filter.mp hm).1)
      have lessa : ∀ {v d}, RepAll Av h v d → RepAll (Av.filter (fun a => a ≠ α y)) h v d := fun rr => rr.move (fun _ _ _ e _ => e) (fun a o ha _ _ hm => ha (List.mem_filter.mp hm).1)
      unfold REnv.set at e
      split at e
      · rename_i e'; cases e; subst e'
        exact ⟨_, a1, .list (fun hm => by have := (List.mem_filter.mp hm).2; simp at this) a3 (lessa a4)⟩
      · obtain ⟨v, hv, rv⟩ := x.st.val z d e
        exact ⟨v, hv, less rv⟩
    · unfold REnv.set at e
      split at e
      · cases e
      · rename_i hz
        obtain ⟨it2, n2, b1, b2, b2', b3, b4⟩ := x.st.own z zs e
        refine ⟨it2, n2, b1, List.mem_filter.mpr ⟨b2, ?_⟩, b2', b3, b4.move (fun _ _ _ e _ => e) (fun a o ha _ _ hm => ha (List.mem_filter.mp hm).1)⟩
        have : α z ≠ α y := fun q => hz (x.st.inj z y zs ys e hy q)
        simpa using this
    · unfold REnv.set at e1 e2
      split at e1
      · cases e1
      · split at e2
        · cases e2
        · exact x.st.inj z u zs us e1 e2 e3
    · refine List.mem_filter.mpr ⟨x.sub a ha, ?_⟩
      have : a ≠ α y := fun q => x.ownc y ys hy (q ▸ ha)
      simpa using this
    · unfold REnv.set at e
      split at e
      · cases e
      · exact x.ownc z zs e
  · rw [frz1_of_not fun ys e => hown ⟨ys, e⟩]
    exact ⟨Av, x, fun _ q => q⟩
theorem frz1_own {y x : Str} {xs} (h : frz1 y ρ x = some (.own xs)) : ρ x = some (.own xs) := by
  by_cases hown : ∃ ys, ρ y = some (.own ys)
  · obtain ⟨ys, hy⟩ := hown
    rw [frz1_of_own hy] at h
    unfold REnv.set at h
    split at h
    · cases h
    · exact h
  · rw [frz1_of_not fun ys e => hown ⟨ys, e⟩] at h
    exact h
theorem frz_own {x : Str} {xs} : ∀ {ys : List Str} {ρ : REnv}, frz ys ρ x = some (.own xs) → ρ x = some (.own xs)
  | [], _, h => h
  | _ :: r, _, h => frz1_own (frz_own (ys := r) h)
theorem frz_other {x : Str} : ∀ {ys : List Str} {ρ : REnv}, ys.contains x = false → frz ys ρ x = ρ x
  | [], _, _ => rfl
  | y :: r, ρ, h => by
    simp only [List.contains_cons, Bool.or_eq_false_iff, beq_eq_false_iff_ne] at h
    rw [frz, frz_other (ys := r) h.2]
    unfold frz1
    rw [if_neg h.1]
theorem StS.frz : ∀ {ys : List Str} {Av : List Addr} {ρ : REnv}, StS h₀ Avc env Av α ρ h → ∃ Av', StS h₀ Avc env Av' α (frz ys ρ) h ∧ (∀ a ∈ Av', a ∈ Av)
  | [], Av, ρ, x => ⟨Av, x, fun _ q => q⟩
  | y :: r, Av, ρ, x => by
    obtain ⟨Av', x', h1⟩ := x.frz1 y
    obtain ⟨Av2, x2, h2⟩ := StS.frz (ys := r) x'
    exact ⟨Av2, x2, fun a ha => h1 a (h2 a ha)⟩
end
section
variable {prog : Program} {w : World} {h₀ : Heap} {r : Nat} {sc : Scope} {ρ : REnv} {mg mb : Str → Option Value} {Φ : Funs}
theorem ExPost.trans {Avc env s Av α ρ ρ1 ρ2 fl s₂ f Av1 α1 h1 tk1}
    (hk : ∀ b o, s.heap.get? b = some o → (∀ x, ¬ StoreAt env x b) → (∀ x xs, ρ x = some (.own xs) → α x ≠ b) → h1.get? b = some o)
    (ho : ∀ x xs, ρ1 x = some (.own xs) → s.heap.get? (α1 x) = none ∨ ∃ y ys, ρ y = some (.own ys) ∧ α1 x = α y)
    (hal : ∀ b o, s.heap.get? b = some o → ∃ o', h1.get? b = some o') (hav : ∀ a ∈ Av1, a ∈ Av ∨ s.heap.get? a = none)
    (h : ExPost h₀ Avc env { s with heap := h1, toks := tk1 } Av1 α1 ρ1 fl ρ2 f s₂) : ExPost h₀ Avc env s Av α ρ fl ρ2 f s₂ := by
  obtain ⟨Av', α', h', tk, rfl, st', fr, kept, own, alive, avn⟩ := h
  have back : ∀ a, h1.get? a = none → s.heap.get? a = none := fun a e => by
    cases hq : s.heap.get? a with
    | none => rfl
    | some o =>
      obtain ⟨o', ho'⟩ := hal _ _ hq
      rw [e] at ho'; cases ho'
  refine ⟨Av', α', h', tk, rfl, st', fr, fun b o e hs hn => ?_, fun x xs e => ?_, fun b o e => ?_, fun a ha => ?_⟩
  · refine kept b o (hk b o e hs hn) hs fun x xs ex eb => ?_
    rcases ho x xs ex with q | ⟨y, ys, hy, q⟩
    · rw [eb, e] at q; cases q
    · exact hn y ys hy (q ▸ eb)
  · rcases own x xs e with q | ⟨y, ys, hy, q⟩
    · exact .inl (back _ q)
    · rcases ho y ys hy with q2 | ⟨z, zs, hz, q2⟩
      · exact .inl (q ▸ q2)
      · exact .inr ⟨z, zs, hz, q.trans q2⟩
  · obtain ⟨o', ho'⟩ := hal b o e
    exact alive b o' ho'
  · rcases avn a ha with q | q
    · exact hav a q
    · exact .inr (back _ q)
/-- what a keeping step leaves -/
theorem ExPost.of_keeps {Avc env s s₁ α ρ ρ2 fl s₂ f Av} (k : Keeps s s₁) (h : ExPost h₀ Avc env s₁ Av α ρ fl ρ2 f s₂) : ExPost h₀ Avc env s Av α ρ fl ρ2 f s₂ := by
  obtain ⟨h1, tk1, rfl, k⟩ := k
  exact ExPost.trans (fun b o e _ _ => k b o e) (fun x xs e => .inr ⟨x, xs, e, rfl⟩) (fun b o e => ⟨o, k b o e⟩) (fun a ha => .inl ha) h
/-- a name is stored -/
theorem ex_store {Avc Av env s α A x v d} {Q : Unit → Shared → Prop} {E : Value → Shared → Prop} (hs : env.scope = sc) (hst : StS h₀ Avc env Av α ρ s.heap) (hk : kindOk sc x = true) (rv : Rep Av s.heap v d)
    (hQ : ∀ h' tk, StS h₀ Avc env Av α (ρ.set x (.val d)) h' → (∀ b o, s.heap.get? b = some o → (∀ x, ¬ StoreAt env x b) → h'.get? b = some o) → (∀ b o, s.heap.get? b = some o → SeqObj o → h'.get? b = some o) →
      (∀ b o, s.heap.get? b = some o → ∃ o', h'.get? b = some o') → Q () { s with heap := h', toks := tk }) : wpAny (model prog w) A (storeName env x v) Q E s := by
  subst hs
  have hk' : env.kindOf x = some .local ∨ env.kindOf x = some .cell := by
    unfold kindOk at hk
    simp only [Bool.or_eq_true, beq_iff_eq] at hk
    exact hk
  refine store_ok hst.st.ok hk' fun h' tk W hW hns hkp ok' hx hy => ?_
  refine hQ h' tk ⟨hst.st.store hW hns hkp ok' hx hy rv, hst.sub, fun y xs e => ?_⟩ (fun b o e hs => hkp b o (fun e' => hs x (e' ▸ hW)) e) (fun b o e hso => hkp b o (fun e' => hns o (e' ▸ e) hso) e) (fun b o e => ?_)
  · unfold REnv.set at e
    split at e
    · cases e
    · exact hst.ownc y xs e
  · by_cases e' : b = W
    · subst e'; exact hW.exists ok'
    · exact ⟨o, hkp b o e' e⟩
theorem own_set {x : Str} {d : PyData} {α : Str → Addr} {s : Shared} : ∀ y xs, (ρ.set x (.val d)) y = some (.own xs) → s.heap.get? (α y) = none ∨ ∃ z zs, ρ z = some (.own zs) ∧ α y = α z := fun y xs e => by
  unfold REnv.set at e
  split at e
  · cases e
  · exact .inr ⟨y, xs, e, rfl⟩
noncomputable def noComp (e : Expr) : Bool := !(e.ctorIdx == 8 || e.ctorIdx == 9 || e.ctorIdx == 10)
theorem swaps_plain {v : Expr} {t : Expr} {line : Nat} {env : Env} (h : noComp v = true) : swapsWith v (some t) line env = pure false := by
  cases v <;> first | rfl | exact absurd h Bool.false_ne_true
theorem ex_assign {x : Str} {px pos : Pos} {v : Expr} {d : PyData} (hk : kindOk sc x = true) (hn : noComp v = true) (hv : EvOK prog w h₀ r sc ρ v d) : ExOK prog w h₀ r sc (.Assign [.Name x px] v pos) ρ .next (ρ.set x (.val d)) :=
  fun env s Avc Av α A hs ha hst => by
  refine wpAny_Assign_Name (wpAny_mono (hv env s Av α A hs ha hst.st) (fun u s₁ h₁ => ?_) noE) (swaps_plain hn)
  refine ex_store hs (hst.keeps (keeps_get h₁.1)) hk h₁.2 fun h' tk st' kept _ alive => ?_
  exact ExPost.of_keeps h₁.1 ⟨Av, α, h', tk, rfl, st', .next, fun b o e hs' _ => kept b o e hs', own_set, alive, fun a ha => .inl ha⟩
end
section
variable {prog : Program} {w : World} {h₀ : Heap} {r : Nat} {sc : Scope} {ρ : REnv} {mg mb : Str → Option Value} {Φ : Funs}
theorem swaps_comp {elt : Expr} {gens : List Comprehension} {scope : Scope} {p px : Pos} {x : Str} {line : Nat} {env : Env} : ∃ b, swapsWith (.ListComp elt gens scope p) (some (.Name x px)) line env = pure b := ⟨_, rfl⟩
theorem ex_assign_comp {x : Str} {px pos : Pos} {elt : Expr} {gens : List Comprehension} {scope : Scope} {cpos : Pos} {ds : List PyData} (hk : kindOk sc x = true) (hl : ds.length ≤ LIM) (hc : CompData prog w h₀ r sc ρ elt gens scope cpos ds) :
    ExOK prog w h₀ r sc (.Assign [.Name x px] (.ListComp elt gens scope cpos) pos) ρ .next (ρ.set x (.val (.list ds))) := by
  obtain ⟨t, i, ifs, rest, items, rfl, h2, h3, h4, h5⟩ := hc
  intro env s Avc Av α A hs ha hst
  obtain ⟨b, hb⟩ := swaps_comp (elt := elt) (gens := ⟨t, i, ifs, 0⟩ :: rest) (scope := scope) (p := cpos) (px := px) (x := x) (line := pos.line) (env := env)
  cases b with
  | false =>
    refine wpAny_Assign_Name (wpAny_mono (ev_listcomp h2 h3 h4 h5 hl env s Av α A hs ha hst.st) (fun u s₁ h₁ => ?_) noE) hb
    refine ex_store hs (hst.keeps (keeps_get h₁.1)) hk h₁.2 fun h' tk st' kept _ alive => ?_
    exact ExPost.of_keeps h₁.1 ⟨Av, α, h', tk, rfl, st', .next, fun b o e hs' _ => kept b o e hs', own_set, alive, fun a ha => .inl ha⟩
  | true =>
    rw [exec_Assign_Name_used _ _ _ _ hb]
    refine wpAny_bind (wpAny_standAt (wpAny_bind ?_))
    show wpAny _ A (do let _ ← comprehension (.ListComp elt (⟨t, i, ifs, 0⟩ :: rest) scope cpos) scope env _ (newList []) false (eval i env) (some (assign (.Name x px) env))) _ _ s
    refine wpAny_bind (wpAny_mono (wpAny_comprehension_free (use := some (assign (.Name x px) env)) (Q := fun _ s' => ExPost h₀ Avc env s Av α ρ .next (ρ.set x (.val (.list ds))) .next s') (g := ⟨t, i, ifs, 0⟩) rfl (fun x => folded_plain h4.1) (hclos_of (hs ▸ h2) hst.st) (scopeOk_kind h2) (hnames_of h2) ?_)
      (fun _ s' hq => wpAny_pure (wpAny_pure hq)) fun _ _ e => e)
    refine comp_core h2 h3 h4 h5 hl hs ha hst.st (RR := fun acc C => compPost (model prog w) A NoE (some (assign (.Name x px) env)) _ acc C) ?_
    intro D C h' tk accI nn hC hD hDC hns hkp hDav hDget hacc
    show wpAny _ A (assign (.Name x px) env (.ref D)) _ _ _
    obtain ⟨m, hm⟩ := hns
    refine wpAny_assign_Name (ex_store (s := { s with heap := h', toks := tk }) hs (hst.keeps hkp) hk (.list hDav hDget hacc) fun h2' tk2 st2 kept2 kseq2 alive2 => ?_)
    have hCkept : ∃ m, h2'.Ns C m := by
      obtain ⟨o, es, ep, ho, rest'⟩ := hm
      refine ⟨m, o, es, ep, kept2 C o ho (fun y hy => ?_), rest'⟩
      obtain ⟨o', ho'⟩ := hy.exists hst.st.ok
      rw [hC] at ho'; cases ho'
    obtain ⟨m2, hm2⟩ := hCkept
    refine ⟨m2, hm2, fun h3' hs3 => ?_⟩
    -- after the block's variables are let go
    have hClocals : env.locals ≠ C := fun e => by
      obtain ⟨m', o, _, _, ho, _⟩ := hst.st.ok.loc
      rw [e, hC] at ho; cases ho
    have k3 : ∀ b o, b ≠ C → h2'.get? b = some o → h3'.get? b = some o := fun b o hb e => hs3.extBut b o hb e
    have st3 : StS h₀ Avc env Av α (ρ.set x (.val (.list ds))) h3' := by
      refine ⟨?_, st2.sub, st2.ownc⟩
      have := st2.st.avoid [C] (fun b hb => by
        rcases List.mem_singleton.mp hb with rfl
        obtain ⟨o, es, ep, ho, hd, _⟩ := hm2
        exact ⟨o, ho, fun ⟨xs, n, e⟩ => by rw [hd] at e; cases e⟩)
      refine this.drop (fun b o hb e => k3 b o (fun e' => hb (by simp [e'])) e) (fun a ha' hm' => ?_) (fun b hb => ?_) (by simpa using hClocals) (fun y c hy hc hm' => ?_) (fun y xs e hm' => ?_)
      · rcases List.mem_singleton.mp hm' with rfl
        obtain ⟨o, ho⟩ := hst.st.av a ha'
        rw [hC] at ho; cases ho
      · rcases List.mem_singleton.mp hb with rfl
        cases e : h₀.get? b with
        | none => rfl
        | some o => have := hst.st.base _ _ e; rw [hC] at this; cases this
      · rcases List.mem_singleton.mp hm' with rfl
        obtain ⟨c', v', hc', o, ho, _⟩ := hst.st.ok.cell y hy
        rw [hc] at hc'; cases hc'
        rw [hC] at ho; cases ho
      · rcases List.mem_singleton.mp hm' with e'
        unfold REnv.set at e
        split at e
        · cases e
        · obtain ⟨items', n', _, _, _, g3, _⟩ := hst.st.own y xs e
          rw [e', hC] at g3; cases g3
    refine ⟨Av, α, h3', tk2, rfl, st3, .next, fun b o e hs' _ => ?_, own_set, fun b o e => ?_, fun a ha => .inl ha⟩
    · exact k3 b o (by rintro rfl; rw [hC] at e; cases e) (kept2 b o (hkp b o e) hs')
    · obtain ⟨o', ho'⟩ := alive2 b o (hkp b o e)
      exact ⟨o', k3 b o' (by rintro rfl; rw [hC] at e; cases e) ho'⟩
theorem ex_assign_own {x : Str} {px pos p : Pos} (hk : kindOk sc x = true) : ExOK prog w h₀ r sc (.Assign [.Name x px] (.List [] p) pos) ρ .next (ρ.set x (.own [])) := fun env s Avc Av α A hs ha hst => by
  refine wpAny_Assign_Name (List_ (Calls.spliced_nil (wpAny_newObj_type ?_))) rfl
  subst hs
  have hk' : env.kindOf x = some .local ∨ env.kindOf x = some .cell := by
    unfold kindOk at hk
    simp only [Bool.or_eq_true, beq_iff_eq] at hk
    exact hk
  have stD : StE h₀ env (s.heap.objs.size :: Av) α ρ (s.heap.push (listObj #[] 0)) := hst.st.fresh rfl
  have kp : ∀ b o, s.heap.get? b = some o → (s.heap.push (listObj #[] 0)).get? b = some o := fun b o e => Heap.get?_push_of_some _ e
  have hDnone : s.heap.get? s.heap.objs.size = none := get_none_size _ (Nat.le_refl _)
  have hDget : (s.heap.push (listObj #[] 0)).get? s.heap.objs.size = some (listObj #[] 0) := Heap.get?_push_size _ rfl
  have hD0 : h₀.get? s.heap.objs.size = none := by
    cases e : h₀.get? s.heap.objs.size with
    | none => rfl
    | some o => exact absurd (Heap.lt_size (hst.st.base _ _ e)) (Nat.lt_irrefl _)
  refine store_ok (s := { s with heap := s.heap.push (listObj #[] 0) }) stD.ok hk' fun h' tk W hW hns hkp ok' hx hy => ?_
  have sk : ∀ b o, (s.heap.push (listObj #[] 0)).get? b = some o → SeqObj o → h'.get? b = some o := fun b o e hso => hkp b o (fun e' => hns o (e' ▸ e) hso) e
  refine ⟨s.heap.objs.size :: Av, (fun y => if y = x then s.heap.objs.size else α y), h', tk, rfl, ⟨⟨ok', ?_, ?_, hst.st.wr, ?_, ?_, ?_⟩, ?_, ?_⟩, .next, ?_, ?_, ?_, ?_⟩
  · intro b o e
    refine hkp b o (fun e' => ?_) (stD.base b o e)
    have := hst.st.wr x W hW
    rw [← e', e] at this; cases this
  · intro a ha'
    obtain ⟨o, ho⟩ := stD.av a ha'
    by_cases e : a = W
    · subst e; exact hW.exists ok'
    · exact ⟨o, hkp a o e ho⟩
  · intro y d e
    unfold REnv.set at e
    split at e
    · cases e
    · rename_i hyx
      obtain ⟨v, hv, rv⟩ := stD.val y d e
      exact ⟨v, hy y v hyx hv, rv.move (fun a o _ e hso => sk a o e hso) (fun _ _ x _ _ => x)⟩
  · intro y xs e
    unfold REnv.set at e
    split at e
    · rename_i hyx; subst hyx; cases e
      refine ⟨#[], 0, by simpa using hx, by simp, by simpa using hD0, by simpa using sk _ _ hDget ⟨_, _, rfl⟩, by simpa using RepAll.nil⟩
    · rename_i hyx
      obtain ⟨items, n, a1, a2, a2', a3, a4⟩ := stD.own y xs e
      refine ⟨items, n, by simpa [hyx] using hy y _ hyx a1, by simpa [hyx] using a2, by simpa [hyx] using a2', by simpa [hyx] using sk _ _ a3 ⟨_, _, rfl⟩, a4.move (fun a o _ e hso => sk a o e hso) (fun _ _ x _ _ => x)⟩
  · intro y z ys zs ey ez e
    unfold REnv.set at ey ez
    split at ey
    · rename_i hyx
      split at ez
      · rename_i hzx; rw [hyx, hzx]
      · rename_i hzx
        simp only [hyx, hzx, if_true, if_false] at e
        obtain ⟨items, n, _, _, _, a3, _⟩ := hst.st.own z zs ez
        rw [← e, hDnone] at a3; cases a3
    · rename_i hyx
      split at ez
      · rename_i hzx
        simp only [hyx, hzx, if_true, if_false] at e
        obtain ⟨items, n, _, _, _, a3, _⟩ := hst.st.own y ys ey
        rw [e, hDnone] at a3; cases a3
      · rename_i hzx
        simp only [hyx, hzx, if_false] at e
        exact hst.st.inj y z ys zs ey ez e
  · exact fun a ha' => List.mem_cons_of_mem _ (hst.sub a ha')
  · intro y ys e
    unfold REnv.set at e
    split at e
    · rename_i hyx
      simp only [hyx, if_true]
      intro hm
      obtain ⟨o, ho⟩ := hst.st.av _ (hst.sub _ hm)
      rw [hDnone] at ho; cases ho
    · rename_i hyx
      simp only [hyx, if_false]
      exact hst.ownc y ys e
  · exact fun b o e hs' _ => hkp b o (fun e' => hs' x (e' ▸ hW)) (kp b o e)
  · intro y ys e
    unfold REnv.set at e
    split at e
    · rename_i hyx; exact .inl (by simpa [hyx] using hDnone)
    · rename_i hyx; exact .inr ⟨y, ys, e, by simp [hyx]⟩
  · intro b o e
    by_cases e' : b = W
    · subst e'; exact hW.exists ok'
    · exact ⟨o, hkp b o e' (kp b o e)⟩
  · intro a ha'
    rcases List.mem_cons.mp ha' with rfl | ha'
    · exact .inr hDnone
    · exact .inl ha'
theorem StS.own_change {Avc env Av α h h'} {x : Str} {xs xs' : List PyData} {items' : Array Value} {n' : Nat} (st : StS h₀ Avc env Av α ρ h) (hx : ρ x = some (.own xs)) (hk : ∀ b o, b ≠ α x → h.get? b = some o → h'.get? b = some o)
    (hget : h'.get? (α x) = some (listObj items' n')) (hitems : RepAll Av h' items'.toList xs') : StS h₀ Avc env Av α (ρ.set x (.own xs')) h' := by
  obtain ⟨items, n, a1, a2, a2', a3, a4⟩ := st.st.own x xs hx
  have hl : env.locals ≠ α x := fun e => by
    obtain ⟨m, hm⟩ := st.st.ok.loc
    exact ns_not_seq (e ▸ hm) a3 ⟨_, _, rfl⟩
  have hc : ∀ y c, (env.kindOf y = some .cell ∨ env.kindOf y = some .free) → env.cells.lookup y = some c → c ≠ α x := fun y c hy hc e => by
    obtain ⟨c', v', hc', hv'⟩ := st.st.ok.cell y hy
    rw [hc] at hc'; cases hc'
    exact cell_not_seq (e ▸ hv') a3 ⟨_, _, rfl⟩
  -- all but x as before
  have ρ0 : StE h₀ env Av α (fun y => if y = x then none else ρ y) h := by
    refine ⟨st.st.ok, st.st.base, st.st.av, st.st.wr, fun y d e => ?_, fun y ys e => ?_, fun y z ys zs e1 e2 => ?_⟩
    · split at e
      · cases e
      · exact st.st.val y d e
    · split at e
      · cases e
      · exact st.st.own y ys e
    ·
      split at e1
      · cases e1
      · split at e2
        · cases e2
        · exact st.st.inj y z ys zs e1 e2
  have ρ1 := ρ0.change [α x] (fun b o hb e => hk b o (fun e' => hb (by simp [e'])) e) (by intro b hb; simp at hb; subst hb; exact a2) (by intro b hb; simp at hb; subst hb; exact ⟨_, hget⟩) (by intro b hb; simp at hb; subst hb; exact a2')
    (by simpa using hl) (fun y c hy hcc => by simpa using hc y c hy hcc) (fun y ys e => by
      split at e
      · cases e
      · rename_i hyx
        have : α y ≠ α x := fun q => hyx (st.st.inj y x ys xs e hx q)
        simpa using this)
  have hld : Loads env h' x (.ref (α x)) := by
    cases a1 with
    | loc a b c => exact .loc a (b.at' fun o e => hk _ o hl e) c
    | cell a b c => exact .cell a b (let ⟨o, ho, hd⟩ := c; ⟨o, hk _ o (hc x _ (.inl a) b) ho, hd⟩)
    | free a b c => exact .free a b (let ⟨o, ho, hd⟩ := c; ⟨o, hk _ o (hc x _ (.inr a) b) ho, hd⟩)
  refine ⟨⟨ρ1.ok, ρ1.base, ρ1.av, ρ1.wr, fun y d e => ?_, fun y ys e => ?_, fun y z ys zs e1 e2 e3 => ?_⟩, st.sub, fun y ys e => ?_⟩
  · unfold REnv.set at e
    split at e
    · cases e
    · rename_i hyx; exact ρ1.val y d (by simp [hyx, e])
  · unfold REnv.set at e
    split at e
    · rename_i hyx; subst hyx; cases e
      exact ⟨items', n', hld, a2, a2', hget, hitems⟩
    · rename_i hyx; exact ρ1.own y ys (by simp [hyx, e])
  · have o1 : ∃ us, ρ y = some (.own us) := by
      unfold REnv.set at e1; split at e1
      · rename_i q; subst q; exact ⟨xs, hx⟩
      · exact ⟨ys, e1⟩
    have o2 : ∃ us, ρ z = some (.own us) := by
      unfold REnv.set at e2; split at e2
      · rename_i q; subst q; exact ⟨xs, hx⟩
      · exact ⟨zs, e2⟩
    obtain ⟨us, o1⟩ := o1
    obtain ⟨vs, o2⟩ := o2
    exact st.st.inj y z us vs o1 o2 e3
  · unfold REnv.set at e; split at e
    · rename_i q; subst q; exact st.ownc y xs hx
    · exact st.ownc y ys e
theorem ex_append {x : Str} {px apos pos epos : Pos} {e : Expr} {d : PyData} {xs : List PyData} {ρ1 : REnv} (hp : (apos.endLine == pos.line) = true) (hns : notStar e = true) (hd : x ≠ "__debug__") (hcd : x ≠ "__classdict__")
    (hρ : ∃ ys, ρ1 = frz ys ρ ∧ ys.contains x = false) (he : EvOK prog w h₀ r sc ρ1 e d) (hx : ρ x = some (.own xs)) (hl : xs.length < LIM) :
    ExOK prog w h₀ r sc (.Expr (.Call (.Attribute (.Name x px) "append" apos) [e] [] pos) epos) ρ .next (ρ1.set x (.own (xs ++ [d]))) := fun env s Avc Av₀ α A hs ha hst₀ => by
  obtain ⟨ys, rfl, hys⟩ := hρ
  obtain ⟨Av, hst, hsubA⟩ := hst₀.frz (ys := ys)
  have hx1 : frz ys ρ x = some (.own xs) := by rw [frz_other hys]; exact hx
  refine wpAny_Expr ?_ (by show (env.scope.kind == .module && _) = false; rw [hst.st.ok.fn]; rfl) rfl
  show wpAny _ A (do
    let ov ← attributeBase (.Name x px) "append" env (eval (.Name x px) env)
    standAt apos.atName
    methodCall (.Name x px) "append" apos pos env ov (1 + 0) (backTo pos (starEach [e] env)) (backToKw pos (keywordEach [] env))) _ _ s
  rw [attributeBase_plain rfl, backTo_plain (es := [e]) (by simp [hns])]
  obtain ⟨items, n, a1, a2, a2', a3, a4⟩ := hst.st.own x xs hx1
  refine wpAny_bind (wpAny_Name (load_ok hst.st.ok.fn a1 (beq_eq_false_iff_ne.mpr hcd) (wpAny_bind (wpAny_standAt ?_))) (beq_eq_false_iff_ne.mpr hd))
  have hform : methodCallForm (1 + 0) ([e].map fun e => (false, eval e env)) (backToKw pos (keywordEach [] env)) = true := rfl
  unfold methodCall
  rw [hform]
  unfold calleeOf methodCallPos
  simp only [if_true, hp, Bool.not_true, Bool.false_or]
  refine wpAny_bind (wpAny_holding ?_)
  have gm : wpAny (model prog w) A (getMethod (.ref (α x)) "append" (do return (← importBound (.Name x px) env).getD true)) (fun fx s' => fx = (.builtin "list.append", [.ref (α x)]) ∧ s' = s) NoE s :=
    Calls.getMethod_list_append a3 rfl rfl ⟨rfl, rfl⟩
  refine wpAny_mono gm (fun fx s₂ h₂ => ?_) fun _ _ q => q
  obtain ⟨rfl, rfl⟩ := h₂
  refine wpAny_bind (wpAny_pure ?_)
  refine Calls.callWith_builtin any_plain (evalArgs_list (wpAny_mono ((es_cons hns he es_nil).2 env s₂ Av α A hs ha hst.st) (fun vs s₃ h₃ => ?_) noE))
  obtain ⟨⟨h3, tk3, rfl, k3⟩, rs⟩ := h₃
  cases rs with
  | cons r1 r2 =>
  cases r2
  rename_i v
  have hsz : items.size ≤ sizeLine := by have := a4.length; simp at this; exact lim_le (by omega)
  refine wpAny_list_append_plain (hsz := hsz) ⟨n, k3 _ _ a3⟩ fun h4 hl4 hs4 => ?_
  obtain ⟨n4, hl4⟩ := hl4
  have st3 := hst.keeps k3
  have mv : ∀ a o, a ∉ Av → h3.get? a = some o → SeqObj o → h4.get? a = some o := fun a o ha' e _ => hs4.extBut a o (fun e' => ha' (e' ▸ a2)) e
  refine ⟨Av, α, h4, tk3, rfl, ?_, .next, fun b o e' hs' hn => ?_, fun y ys' e' => ?_, fun b o e' => ?_, fun a ha' => .inl (hsubA a ha')⟩
  · refine st3.own_change hx1 (fun b o hb e' => hs4.extBut b o hb e') hl4 ?_
    simpa using ((a4.keeps k3).move mv (fun _ _ q _ _ => q)).append (.cons (r1.move mv (fun _ _ q _ _ => q)) .nil)
  · exact hs4.extBut b o (fun q => hn x xs hx q.symm) (k3 b o e')
  · unfold REnv.set at e'
    split at e'
    · rename_i q; subst q; exact .inr ⟨y, xs, hx, rfl⟩
    · exact .inr ⟨y, ys', frz_own e', rfl⟩
  · by_cases q : b = α x
    · subst q; exact ⟨_, hl4⟩
    · exact ⟨o, hs4.extBut b o q (k3 b o e')⟩
end
section
variable {prog : Program} {w : World} {h₀ : Heap} {r : Nat} {sc : Scope} {ρ : REnv} {mg mb : Str → Option Value} {Φ : Funs}
theorem exs_nil : ExsOK prog w h₀ r sc [] ρ .next ρ := fun env s _ Av α _ _ _ hst =>
  wpAny_execs_nil ⟨Av, α, s.heap, s.toks, rfl, hst, .next, fun b _ e _ _ => e, fun x xs e => .inr ⟨x, xs, e, rfl⟩, fun b o e => ⟨o, e⟩, fun a ha => .inl ha⟩
theorem exs_cons {st : Stmt} {sts : List Stmt} {ρ1 ρ2 : REnv} {fl : AFlow} (h1 : ExOK prog w h₀ r sc st ρ .next ρ1) (h2 : ExsOK prog w h₀ r sc sts ρ1 fl ρ2) : ExsOK prog w h₀ r sc (st :: sts) ρ fl ρ2 := fun env s Avc Av α A hs ha hst => by
  refine wpAny_execs_cons (wpAny_mono (h1 env s Avc Av α A hs ha hst) (fun f s₁ q => ?_) fun _ _ x => x)
  obtain ⟨Av1, α1, h1', tk1, rfl, st1, fr, kept, own, alive, avn⟩ := q
  cases fr
  exact wpAny_mono (h2 env _ Avc Av1 α1 A hs ha st1) (fun f2 s₂ q2 => ExPost.trans kept own alive avn q2) fun _ _ x => x
theorem exs_stop {st : Stmt} {sts : List Stmt} {ρ1 : REnv} {fl : AFlow} (h1 : ExOK prog w h₀ r sc st ρ fl ρ1) (hf : fl ≠ .next) : ExsOK prog w h₀ r sc (st :: sts) ρ fl ρ1 := fun env s Avc Av α A hs ha hst => by
  refine wpAny_execs_cons (wpAny_mono (h1 env s Avc Av α A hs ha hst) (fun f s₁ q => ?_) fun _ _ x => x)
  have q' := q
  obtain ⟨Av1, α1, h1', tk1, rfl, st1, fr, kept, own, alive, avn⟩ := q
  cases fr with
  | next => exact absurd rfl hf
  | brk => exact q'
  | ret _ => exact q'
theorem ex_if {t : Expr} {b o : List Stmt} {pos : Pos} {k : Bool} {fl : AFlow} {ρ1 : REnv} (ht : TrOK prog w h₀ r sc ρ t k) (hb : ExsOK prog w h₀ r sc (if k then b else o) ρ fl ρ1) : ExOK prog w h₀ r sc (.If t b o pos) ρ fl ρ1 := fun env s Avc Av α A hs ha hst => by
  refine wpAny_If (wpAny_mono (ht env s Av α A hs ha hst.st) (fun k' s₁ h₁ => ?_) noE)
  obtain ⟨rfl, hk⟩ := h₁
  cases k' with
  | true => exact wpAny_mono (hb env s₁ Avc Av α A hs ha (hst.keeps (keeps_get hk))) (fun _ _ q => ExPost.of_keeps hk q) fun _ _ x => x
  | false => exact wpAny_mono (hb env s₁ Avc Av α A hs ha (hst.keeps (keeps_get hk))) (fun _ _ q => ExPost.of_keeps hk q) fun _ _ x => x
theorem ex_break {pos : Pos} : ExOK prog w h₀ r sc (.Break pos) ρ .brk ρ := fun env s Avc Av α A hs ha hst => by
  show wpAny _ A (do standAt pos; pure Flow.brk) _ _ s
  exact wpAny_bind (wpAny_standAt (wpAny_pure ⟨Av, α, s.heap, s.toks, rfl, hst, .brk, fun b o e _ _ => e, fun x xs e => .inr ⟨x, xs, e, rfl⟩, fun b o e => ⟨o, e⟩, fun a ha => .inl ha⟩))
theorem ex_return {e : Expr} {pos : Pos} {ys : List Str} {d : PyData} (he : EvOK prog w h₀ r sc (frz ys ρ) e d) : ExOK prog w h₀ r sc (.Return (some e) pos) ρ (.ret d) (frz ys ρ) := fun env s Avc Av₀ α A hs ha hst₀ => by
  obtain ⟨Av, hst, hsub⟩ := hst₀.frz (ys := ys)
  refine wpAny_Return_some (wpAny_mono (he env s Av α A hs ha hst.st) (fun v s₁ h₁ => ?_) noE)
  obtain ⟨⟨h1, tk1, rfl, k1⟩, rv⟩ := h₁
  exact ⟨Av, α, h1, tk1, rfl, hst.keeps k1, .ret rv, fun b o e _ _ => k1 b o e, fun x xs e => .inr ⟨x, xs, frz_own e, rfl⟩, fun b o e => ⟨o, k1 b o e⟩, fun a ha => .inl (hsub a ha)⟩
theorem ex_try {b : List Stmt} {hd : ExceptHandler} {hs' : List ExceptHandler} {pos : Pos} {fl : AFlow} {ρ1 : REnv} (hb : ExsOK prog w h₀ r sc b ρ fl ρ1) : ExOK prog w h₀ r sc (.Try b (hd :: hs') [] [] pos) ρ fl ρ1 := fun env s Avc Av α A hs ha hst => by
  refine wpAny_Try_except (wpAny_mono (hb env s Avc Av α A hs ha hst) (fun f s₁ q => ?_) noE)
  cases f with
  | next => exact wpAny_execs_nil q
  | _ => exact q
noncomputable def ExAt (prog : Program) (w : World) (h₀ : Heap) (A : Around) (env : Env) (st : Stmt) (ρ : REnv) (fl : AFlow) (ρ' : REnv) : Prop :=
  ∀ s Avc Av α, StS h₀ Avc env Av α ρ s.heap → wpAny (model prog w) A (exec st env) (ExPost h₀ Avc env s Av α ρ fl ρ') NoE s
noncomputable def ExsAt (prog : Program) (w : World) (h₀ : Heap) (A : Around) (env : Env) (sts : List Stmt) (ρ : REnv) (fl : AFlow) (ρ' : REnv) : Prop :=
  ∀ s Avc Av α, StS h₀ Avc env Av α ρ s.heap → wpAny (model prog w) A (execs sts env) (ExPost h₀ Avc env s Av α ρ fl ρ') NoE s
theorem exs_at_cons {A : Around} {env : Env} {st : Stmt} {sts : List Stmt} {ρ1 ρ2 : REnv} {fl : AFlow} (h1 : ExAt prog w h₀ A env st ρ .next ρ1) (h2 : ExsAt prog w h₀ A env sts ρ1 fl ρ2) : ExsAt prog w h₀ A env (st :: sts) ρ fl ρ2 := fun s Avc Av α hst => by
  refine wpAny_execs_cons (wpAny_mono (h1 s Avc Av α hst) (fun f s₁ q => ?_) fun _ _ x => x)
  obtain ⟨Av1, α1, h1', tk1, rfl, st1, fr, kept, own, alive, avn⟩ := q
  cases fr
  exact wpAny_mono (h2 _ Avc Av1 α1 st1) (fun f2 s₂ q2 => ExPost.trans kept own alive avn q2) fun _ _ x => x
theorem exs_at_nil {A : Around} {env : Env} : ExsAt prog w h₀ A env [] ρ .next ρ := fun s _ Av α hst =>
  wpAny_execs_nil ⟨Av, α, s.heap, s.toks, rfl, hst, .next, fun b _ e _ _ => e, fun x xs e => .inr ⟨x, xs, e, rfl⟩, fun b o e => ⟨o, e⟩, fun a ha => .inl ha⟩
theorem aloop_cons {f : PyData → REnv → Option (AFlow × REnv)} {items : List PyData} {j : Nat} {d : PyData} {ρ : REnv} (h : items[j]? = some d) : aloop f (items.drop j) ρ = match f d ρ with
    | some (.next, ρ') => aloop f (items.drop (j + 1)) ρ'
    | some (.brk, ρ') => some (.next, ρ')
    | some (.ret v, ρ') => some (.ret v, ρ')
    | none => none := by
  have hlt : j < items.length := (List.getElem?_eq_some_iff.mp h).1
  have e : items[j] = d := (List.getElem?_eq_some_iff.mp h).2
  rw [List.drop_eq_getElem_cons hlt, e, aloop]
  all_goals (cases f d ρ with
    | none => rfl
    | some p => obtain ⟨fl, ρ'⟩ := p; cases fl <;> rfl)
inductive FInv (h₀ : Heap) (Avc : List Addr) (env : Env) (α : Str → Addr) (ρ0 ρ' : REnv) (fl : AFlow) (Av wr : List Addr) (f : PyData → REnv → Option (AFlow × REnv)) (items : List PyData) (St : Nat → Heap → Prop) (s : Shared) (h2 : Heap) (m : Nat) (s' : Shared) : Prop
  | mk (j : Nat) (h' : Heap) (tk : Nat) (Avj : List Addr) (αj : Str → Addr) (ρj : REnv) (e : s' = { s with heap := h', toks := tk }) (hj : j ≤ items.length) (hm : m = items.length + 1 - j) (hst : St j h') (st : StS h₀ (wr ++ Avc) env Avj αj ρj h') (hl : aloop f (items.drop j) ρj = some (fl, ρ'))
    (kept : ∀ b o, h2.get? b = some o → (∀ x, ¬ StoreAt env x b) → (∀ x xs, ρ0 x = some (.own xs) → α x ≠ b) → b ∉ wr → h'.get? b = some o)
    (own : ∀ x xs, ρj x = some (.own xs) → h2.get? (αj x) = none ∨ ∃ y ys', ρ0 y = some (.own ys') ∧ αj x = α y)
    (alive : ∀ b o, h2.get? b = some o → b ∉ wr → ∃ o', h'.get? b = some o') (avn : ∀ a ∈ Avj, a ∈ wr ++ Av ∨ h2.get? a = none)
theorem ex_for_at {A : Around} {env : Env} (hs : env.scope = sc) (ha : AOK r A) {t it : Expr} {b : List Stmt} {pos : Pos} {ys : List Str} {items : List PyData} {f : PyData → REnv → Option (AFlow × REnv)} {fl : AFlow} {ρ' : REnv} (hi : IterOK prog w h₀ r sc (frz ys ρ) t it items) (hloop : aloop f items (frz ys ρ) = some (fl, ρ'))
    (hbody : ∀ d ρa fl ρb, f d ρa = some (fl, ρb) → ∃ ρ1, atgt sc t d ρa = some ρ1 ∧ ExsAt prog w h₀ A env b ρ1 fl ρb) : ExAt prog w h₀ A env (.For t it b [] pos) ρ fl ρ' := fun s Avc Av₀ α hst₀ => by
  obtain ⟨Av, hst, hsubA⟩ := hst₀.frz (ys := ys)
  refine wpAny_For (wpAny_mono (hi.2 env s Av α A hs ha hst.st) (fun x s₁ h₁ => wpAny_mono h₁ (fun itv s₂ h₂ => ?_) noE) noE) (fun x => folded_plain hi.1)
  obtain ⟨⟨h2, tk2, rfl, k2⟩, wr, hwrn, hit⟩ := h₂
  obtain ⟨I, fp, St, rfl, W, hst0, hfp, hwr, halive⟩ := hit
  have st2 := hst.keeps k2
  dsimp only at hst0 hfp hwr
  have hwex : ∀ b ∈ wr, s.heap.get? b = none ∧ ∃ o, h2.get? b = some o := fun b hb => ⟨hwrn b hb, (hwr b hb).2⟩
  have hwAv : ∀ b ∈ wr, b ∉ Av := fun b hm => (hfp b (W.sub b hm)).1
  have fpl : env.locals ∉ fp := fun hm => by
    obtain ⟨_, o, ho, hp⟩ := hfp _ hm
    obtain ⟨m, o', es, ep, ho', hd', _⟩ := st2.st.ok.loc
    rw [ho] at ho'; cases ho'; exact hp.1 _ _ hd'
  have fpc : ∀ y c, (env.kindOf y = some .cell ∨ env.kindOf y = some .free) → env.cells.lookup y = some c → c ∉ fp := fun y c hy hc hm => by
    obtain ⟨_, o, ho, hp⟩ := hfp _ hm
    obtain ⟨c', v', hc', o', ho', hd'⟩ := st2.st.ok.cell y hy
    rw [hc] at hc'; cases hc'
    rw [ho] at ho'; cases ho'; exact hp.2 _ hd'
  have fps : ∀ y W', StoreAt env y W' → W' ∉ fp := fun y W' hsa hm => by
    rcases hsa with ⟨_, rfl⟩ | ⟨h1, h2⟩
    · exact fpl hm
    · exact fpc y W' (.inl h1) h2 hm
  have stw : StS h₀ (wr ++ Avc) env (wr ++ Av) α (frz ys ρ) h2 := ⟨hst.st.avoidNew k2 wr hwex, fun a ha' => by
      rcases List.mem_append.mp ha' with q | q
      · exact List.mem_append.mpr (.inl q)
      · exact List.mem_append.mpr (.inr (hst.sub a q)), fun x xs e hm => by
      rcases List.mem_append.mp hm with q | q
      · exact hwAv _ q (let ⟨_, _, _, g, _⟩ := st2.st.own x xs e; g)
      · exact hst.ownc x xs e q⟩
  -- the end: the loop's own addresses are forgotten
  have fin : ∀ (h' : Heap) (tk : Nat) (Avj : List Addr) (αj : Str → Addr) (ρj : REnv) (fl' : AFlow) (fv : Flow) (hk0 : Heap), StS h₀ (wr ++ Avc) env Avj αj ρj hk0 → FlRep Avj hk0 fv fl' → (∀ b o, b ∉ wr → hk0.get? b = some o → h'.get? b = some o) →
      (∀ b o, h2.get? b = some o → (∀ x, ¬ StoreAt env x b) → (∀ x xs, frz ys ρ x = some (.own xs) → α x ≠ b) → b ∉ wr → hk0.get? b = some o) →
      (∀ x xs, ρj x = some (.own xs) → h2.get? (αj x) = none ∨ ∃ y ys', frz ys ρ y = some (.own ys') ∧ αj x = α y) →
      (∀ b o, h2.get? b = some o → b ∉ wr → ∃ o', hk0.get? b = some o') → (∀ a ∈ Avj, a ∈ wr ++ Av ∨ h2.get? a = none) →
      ExPost h₀ Avc env s Av₀ α ρ fl' ρj fv { s with heap := h', toks := tk } := by
    intro h' tk Avj αj ρj fl' fv hk0 sj frj kp kept own alive avn
    have hold : ∀ b o, s.heap.get? b = some o → b ∉ wr := fun b o e hm => by rw [hwrn b hm] at e; cases e
    have ownw : ∀ x xs, ρj x = some (.own xs) → αj x ∉ wr := fun x xs e hm => sj.ownc x xs e (List.mem_append.mpr (.inl hm))
    have stf : StE h₀ env (Avj.filter (fun a => a ∉ wr)) αj ρj h' := by
      have s1 : StE h₀ env (wr ++ Avj.filter (fun a => a ∉ wr)) αj ρj hk0 := by
        have hmem : ∀ a, a ∈ wr ++ Avj.filter (fun a => a ∉ wr) → a ∈ Avj := fun a ha' => by
          rcases List.mem_append.mp ha' with q | q
          · exact sj.sub a (List.mem_append.mpr (.inl q))
          · exact (List.mem_filter.mp q).1
        have hmem' : ∀ a, a ∈ Avj → a ∈ wr ++ Avj.filter (fun a => a ∉ wr) := fun a ha' => by
          by_cases q : a ∈ wr
          · exact List.mem_append.mpr (.inl q)
          · exact List.mem_append.mpr (.inr (List.mem_filter.mpr ⟨ha', by simpa using q⟩))
        refine ⟨sj.st.ok, sj.st.base, fun a ha' => sj.st.av a (hmem a ha'), sj.st.wr, fun y d e => ?_, fun y xs e => ?_, sj.st.inj⟩
        · obtain ⟨v, hv, rv⟩ := sj.st.val y d e
          exact ⟨v, hv, rv.move (fun _ _ _ e _ => e) (fun a o ha' _ _ hm => ha' (hmem a hm))⟩
        · obtain ⟨items', n', g1, g2, g2', g3, g4⟩ := sj.st.own y xs e
          exact ⟨items', n', g1, hmem' _ g2, g2', g3, g4.move (fun _ _ _ e _ => e) (fun a o ha' _ _ hm => ha' (hmem a hm))⟩
      exact s1.drop kp (fun a ha' hm => by have := (List.mem_filter.mp ha').2; simp at this; exact this hm) (fun b hb => (hwr b hb).1) (fun hm => fpl (W.sub _ hm)) (fun y c hy hc hm => fpc y c hy hc (W.sub _ hm)) ownw
    refine ⟨Avj.filter (fun a => a ∉ wr), αj, h', tk, rfl, ⟨stf, fun a ha' => List.mem_filter.mpr ⟨sj.sub a (List.mem_append.mpr (.inr ha')), ?_⟩, fun x xs e hm => sj.ownc x xs e (List.mem_append.mpr (.inr hm))⟩, ?_, fun b o e hs' hn => ?_, fun x xs e => ?_, fun b o e => ?_, fun a ha' => ?_⟩
    · have : a ∉ wr := fun hm => hwAv a hm (hst.sub a ha')
      simpa using this
    · cases frj with
      | next => exact .next
      | brk => exact .brk
      | ret rv => exact .ret (rv.move (fun a o ha' e _ => kp a o (fun hm => ha' (sj.sub a (List.mem_append.mpr (.inl hm)))) e) (fun a o ha' _ _ hm => ha' (List.mem_filter.mp hm).1))
    · exact kp b o (hold b o e) (kept b o (k2 b o e) hs' (fun x xs ex => hn x xs (frz_own ex)) (hold b o e))
    · rcases own x xs e with q | ⟨y, ys', hy, q⟩
      · left
        cases hq : s.heap.get? (αj x) with
        | none => rfl
        | some o => have := k2 _ _ hq; rw [q] at this; cases this
      · exact .inr ⟨y, ys', frz_own hy, q⟩
    · obtain ⟨o', ho'⟩ := alive b o (k2 b o e) (hold b o e)
      exact ⟨o', kp b o' (hold b o e) ho'⟩
    · have ha2 := List.mem_filter.mp ha'
      rcases avn a ha2.1 with q | q
      · rcases List.mem_append.mp q with q | q
        · have := ha2.2; simp at this; exact absurd q this
        · exact .inl (hsubA a q)
      · right
        cases hq : s.heap.get? a with
        | none => rfl
        | some o => have := k2 _ _ hq; rw [q] at this; cases this
  refine codeAny_forLoop_any (FInv h₀ Avc env α (frz ys ρ) ρ' fl Av wr f items St s h2) ?_ (items.length + 1)
    ⟨0, h2, tk2, wr ++ Av, α, frz ys ρ, rfl, Nat.zero_le _, rfl, hst0, stw, by simpa using hloop, fun b o e _ _ _ => e, fun x xs e => .inr ⟨x, xs, e, rfl⟩, fun b o e _ => ⟨o, e⟩, fun a ha' => .inl ha'⟩
  rintro m _ ⟨j, H, tk, Avj, αj, ρj, rfl, hj, rfl, hstj, sj, hlp, kept, own, alive, avn⟩
  have ownfp : ∀ x xs, ρj x = some (.own xs) → αj x ∉ fp := fun x xs e hm => by
    rcases own x xs e with q | ⟨y, ys', hy, q⟩
    · obtain ⟨_, o, ho, _⟩ := hfp _ hm
      rw [q] at ho; cases ho
    · have := (hfp _ hm).1
      rw [q] at this
      exact this (let ⟨_, _, _, g, _⟩ := st2.st.own y ys' hy; g)
  by_cases hlt : j < items.length
  · refine W.turn2 (s := { s with heap := H, toks := tk }) (fun v s1 q => q) (List.getElem?_eq_getElem hlt) hstj fun v h1 tk1 hyv hst1 hk1 => ?_
    have hd : items[j]? = some items[j] := List.getElem?_eq_getElem hlt
    generalize items[j] = d at hd hyv
    rw [aloop_cons hd] at hlp
    have s1 : StS h₀ (wr ++ Avc) env Avj αj ρj h1 := ⟨sj.st.change wr hk1 (fun b hb => sj.sub b (List.mem_append.mpr (.inl hb))) (fun b hb => halive _ _ hst1 b (W.sub b hb)) (fun b hb => (hwr b hb).1) (fun hm => fpl (W.sub _ hm)) (fun y c hy hc hm => fpc y c hy hc (W.sub _ hm))
      (fun x xs e hm => ownfp x xs e (W.sub _ hm)), sj.sub, sj.ownc⟩
    have rd1 : Rep Avj h1 v d := hyv Avj (fun v d rd => rd.move (fun a o ha' e hso => by
        have hw : a ∉ wr := fun hm => ha' (List.mem_append.mpr (.inl hm))
        exact hk1 a o hw (kept a o e (fun y hsa => hsa.notSeq st2.st.ok o e hso) (fun x xs ex e' => ha' (List.mem_append.mpr (.inr (e' ▸ (let ⟨_, _, _, g, _⟩ := st2.st.own x xs ex; g))))) hw))
      (fun a o ha' e hso hm => by
        rcases avn a hm with q | q
        · exact ha' q
        · rw [e] at q; cases q)) sj.st.av
    cases hfd : f d ρj with
    | none => rw [hfd] at hlp; cases hlp
    | some res =>
    obtain ⟨fl1, ρ1⟩ := res
    obtain ⟨ρt, htg, hb⟩ := hbody d ρj fl1 ρ1 hfd
    have hats := atgt_some htg
    refine asg_ok (s := { s with heap := h1, toks := tk1 }) ha.1 s1.st (by rw [hs]; exact htg) rd1 fun h3 tk3 st3' kept3' kseq3 alive3 => ?_
    have st3 : StS h₀ (wr ++ Avc) env Avj αj ρt h3 := ⟨st3', s1.sub, fun x xs e => s1.ownc x xs (hats.2 x xs e)⟩
    have kept3 : ∀ b o, h1.get? b = some o → (∀ x, ¬ StoreAt env x b) → h3.get? b = some o := fun b o e hs' => kept3' b o (fun x _ => hs' x) e
    refine wpAny_mono (hb { s with heap := h3, toks := tk3 } (wr ++ Avc) Avj αj st3) (fun fv s4 q => ?_) noE
    obtain ⟨Av4, α4, h4, tk4, rfl, st4, fr4, kept4, own4, alive4, avn4⟩ := q
    dsimp only at kept4 own4 alive4 avn4
    have ownset : ∀ y ys', ρt y = some (.own ys') → ρj y = some (.own ys') := hats.2
    have ownne : ∀ b o, h2.get? b = some o → (∀ x xs, frz ys ρ x = some (.own xs) → α x ≠ b) → ∀ y ys', ρt y = some (.own ys') → αj y ≠ b := fun b o e hn y ys' ey eb => by
      rcases own y ys' (ownset y ys' ey) with q | ⟨z, zs, hz, q⟩
      · rw [eb, e] at q; cases q
      · exact hn z zs hz (q ▸ eb)
    have al3 : ∀ b o, h2.get? b = some o → ∃ o', h3.get? b = some o' := fun b o e => by
      by_cases hw : b ∈ wr
      · obtain ⟨o1, ho1⟩ := halive _ _ hst1 b (W.sub b hw)
        exact alive3 b o1 ho1
      · obtain ⟨o1, ho1⟩ := alive b o e hw
        exact alive3 b o1 (hk1 b o1 hw ho1)
    have back : ∀ a, h3.get? a = none → h2.get? a = none := fun a e => by
      cases hq : h2.get? a with
      | none => rfl
      | some o =>
        obtain ⟨o', ho'⟩ := al3 _ _ hq
        rw [e] at ho'; cases ho'
    have kept24 : ∀ b o, h2.get? b = some o → (∀ x, ¬ StoreAt env x b) → (∀ x xs, frz ys ρ x = some (.own xs) → α x ≠ b) → b ∉ wr → h4.get? b = some o := fun b o e hs' hn hw =>
      kept4 b o (kept3 b o (hk1 b o hw (kept b o e hs' hn hw)) hs') hs' (ownne b o e hn)
    have own24 : ∀ x xs, ρ1 x = some (.own xs) → h2.get? (α4 x) = none ∨ ∃ y ys', frz ys ρ y = some (.own ys') ∧ α4 x = α y := fun y ys' e => by
      rcases own4 y ys' e with q | ⟨z, zs, hz, q⟩
      · exact .inl (back _ q)
      · rcases own z zs (ownset z zs hz) with q2 | ⟨u, us, hu, q2⟩
        · exact .inl (q ▸ q2)
        · exact .inr ⟨u, us, hu, q.trans q2⟩
    have alive24 : ∀ b o, h2.get? b = some o → b ∉ wr → ∃ o', h4.get? b = some o' := fun b o e hw => by
      obtain ⟨o', ho'⟩ := al3 b o e
      exact alive4 b o' ho'
    have avn24 : ∀ a ∈ Av4, a ∈ wr ++ Av ∨ h2.get? a = none := fun a ha' => by
      rcases avn4 a ha' with q | q
      · exact avn a q
      · exact .inr (back _ q)
    have hst4 : St (j + 1) h4 := W.frame _ _ _ hst1 fun b hb o e => kept4 b o (kept3 b o e (fun y hsa => fps y b hsa hb)) (fun y hsa => fps y b hsa hb) (fun y ys' ey eb => ownfp y ys' (ownset y ys' ey) (eb ▸ hb))
    rw [hfd] at hlp
    cases fr4 with
    | next => exact ⟨items.length + 1 - (j + 1), by omega, j + 1, h4, tk4, Av4, α4, ρ1, rfl, hlt, rfl, hst4, st4, hlp, kept24, own24, alive24, avn24⟩
    | brk =>
      simp only [Option.some.injEq, Prod.mk.injEq] at hlp
      obtain ⟨rfl, rfl⟩ := hlp
      exact fin h4 tk4 Av4 α4 ρ1 .next .next h4 st4 .next (fun b o _ e => e) kept24 own24 alive24 avn24
    | ret rv =>
      simp only [Option.some.injEq, Prod.mk.injEq] at hlp
      obtain ⟨rfl, rfl⟩ := hlp
      exact fin h4 tk4 Av4 α4 ρ1 _ _ h4 st4 (.ret rv) (fun b o _ e => e) kept24 own24 alive24 avn24
  · have hjn : j = items.length := by omega
    subst hjn
    rw [List.drop_length] at hlp
    simp only [aloop, Option.some.injEq, Prod.mk.injEq] at hlp
    obtain ⟨rfl, rfl⟩ := hlp
    refine W.done _ _ _ hstj fun h1 tk1 hk1 => wpAny_execs_nil ?_
    exact fin h1 tk1 Avj αj ρj .next .next H sj .next hk1 kept own alive avn
theorem ex_for {t it : Expr} {b : List Stmt} {pos : Pos} {ys : List Str} {items : List PyData} {f : PyData → REnv → Option (AFlow × REnv)} {fl : AFlow} {ρ' : REnv} (hi : IterOK prog w h₀ r sc (frz ys ρ) t it items) (hloop : aloop f items (frz ys ρ) = some (fl, ρ'))
    (hbody : ∀ d ρa fl ρb, f d ρa = some (fl, ρb) → ∃ ρ1, atgt sc t d ρa = some ρ1 ∧ ExsOK prog w h₀ r sc b ρ1 fl ρb) : ExOK prog w h₀ r sc (.For t it b [] pos) ρ fl ρ' := fun env s Avc Av₀ α A hs ha hst₀ =>
  ex_for_at hs ha hi hloop (fun d ρa fl ρb h => let ⟨ρ1, h1, h2⟩ := hbody d ρa fl ρb h; ⟨ρ1, h1, fun s Avc Av α st => h2 env s Avc Av α A hs ha st⟩) s Avc Av₀ α hst₀
end
section
variable {prog : Program} {w : World} {A : Around} {E : Value → Shared → Prop} {s : Shared}
theorem draw_list {it t : Addr} {items : Array Value} (hne : t ≠ it) : ∀ (n i : Nat) (s : Shared) (Q : List Value → Shared → Prop), s.heap.IsListIter it t i → s.heap.IsList t items → i + n ≤ items.size →
    (∀ h', h'.IsListIter it t (i + n) → Heap.SameBut it s.heap h' → Q ((items.toList.drop i).take n) { s with heap := h' }) → wpAny (model prog w) A (draw (.ref it) n) Q E s
  | 0, i, s, Q, hit, _, _, hQ => by
    show wpAny _ _ (pure []) Q E s
    exact wpAny_pure (by simpa using hQ s.heap hit (Heap.SameBut.refl ..))
  | n + 1, i, s, Q, hit, ht, hle, hQ => by
    have hlt : i < items.size := by omega
    show wpAny _ _ (pyNext (.ref it) >>= _) Q E s
    refine wpAny_bind (wpAny_pyNext_list_item hit ht (x := items[i]) (by simp [hlt]) fun h₁ hit₁ hs₁ => ?_)
    refine wpAny_bind (wpAny_holding (draw_list hne n (i + 1) _ _ hit₁ (ht.extBut hs₁.extBut hne) (by omega) fun h₂ hit₂ hs₂ => wpAny_pure ?_))
    have hd : items.toList.drop i = items[i] :: items.toList.drop (i + 1) := by simp [List.drop_eq_getElem_cons, hlt]
    have := hQ h₂ (by rw [show i + (n + 1) = i + 1 + n by omega]; exact hit₂) (hs₁.trans hs₂)
    rw [hd, List.take_succ_cons] at this
    exact this
theorem unpackItems_list {t : Addr} {items : Array Value} {Q : List Value → Shared → Prop} (hh : A.handled = none) (ht : s.heap.IsList t items)
    (hQ : ∀ h', Heap.ExtBut s.heap.objs.size s.heap h' → Q items.toList { s with heap := h' }) : wpAny (model prog w) A (unpackItems (.ref t) items.size none) Q E s := by
  have hlt : t ≠ s.heap.objs.size := by obtain ⟨o, ho, _⟩ := ht; exact Nat.ne_of_lt (Heap.lt_size ho)
  unfold unpackItems
  refine wpAny_bind ?_
  · unfold notIterableAtAll
    refine wpAny_bind (wpAny_specialOf ht.typeIs slot_list_iter.lookup ?_)
    refine wpAny_pure ?_
    simp only [Bool.false_eq_true, if_false]
    refine wpAny_bind (wpAny_holding (wpAny_pyIter_list ht ?_))
    refine wpAny_bind (wpAny_holding (draw_list hlt items.size 0 _ _ ⟨_, Heap.get?_push_size _ rfl, rfl, rfl⟩ (ht.push _) (by omega) fun h₁ hit₁ hs₁ => ?_))
    have hall : List.take items.size (List.drop 0 items.toList) = items.toList := by
      rw [List.drop_zero]; exact List.take_of_length_le (by simp)
    rw [hall]
    rw [if_neg (by simp)]
    have ht₁ : h₁.IsList t items := (ht.push _).extBut hs₁.extBut hlt
    refine wpAny_bind (wpAny_holding (wpAny_pyNext_list_end hh hit₁ ht₁ (by simp) fun h₂ he₂ => ?_))
    simp only [Option.isSome_none, Bool.false_eq_true, if_false]
    refine wpAny_pure (hQ h₂ fun b o hb e => he₂ b o hb (hs₁.extBut b o hb (Heap.get?_push_of_some _ e)))
end
section
variable {prog : Program} {w : World} {h₀ : Heap} {r : Nat} {sc : Scope} {ρ : REnv} {mg mb : Str → Option Value} {Φ : Funs}
theorem ex_unpack {x y z : Str} {px py pz tp pos : Pos} {k : Nat} {a b : PyData} (hx : kindOk sc x = true) (hy : kindOk sc y = true) (hxy : x ≠ y) (hz : aname ρ z = some (.tuple [a, b]) ∨ aname ρ z = some (.list [a, b])) :
    ExOK prog w h₀ r sc (.Assign [.Tuple [.Name x px, .Name y py] k tp] (.Name z pz) pos) ρ .next ((ρ.set x (.val a)).set y (.val b)) := fun env s Avc Av α A hs ha hst => by
  rw [arm_exec_Assign]
  refine wpAny_bind (wpAny_standAt ?_)
  show wpAny _ A ((pure false : Sem Bool) >>= _) _ _ s
  refine wpAny_bind (wpAny_pure ?_)
  simp only [Bool.false_eq_true, if_false]
  have body : ∀ v (s₁ : Shared), Keeps s s₁ → (∀ (Q : List Value → Shared → Prop), (∀ va vb h', (∀ b o, s₁.heap.get? b = some o → h'.get? b = some o) → Rep Av h' va a → Rep Av h' vb b → Q [va, vb] { s₁ with heap := h' }) → wpAny (model prog w) A (unpackItems v 2 none) Q NoE s₁) →
      wpAny (model prog w) A (do assignStores env v (← swappedStores [.Tuple [.Name x px, .Name y py] k tp] (.Name z pz) env) ((assignEach [.Tuple [.Name x px, .Name y py] k tp] env).map (·.2))) (ExPost h₀ Avc env s Av α ρ .next ((ρ.set x (.val a)).set y (.val b))) NoE s₁ := by
    intro v s₁ k₁ hun
    show wpAny _ A ((pure none : Sem (Option (List Str))) >>= _) _ _ s₁
    refine wpAny_bind (wpAny_pure ?_)
    show wpAny _ A (assign (.Tuple [.Name x px, .Name y py] k tp) env v >>= fun _ => pure Flow.next) _ _ s₁
    refine wpAny_bind ?_
    rw [arm_assign_Tuple]
    refine wpAny_bind (wpAny_standAt ?_)
    unfold unpack
    show wpAny _ A (holding [v] (unpackItems v 2 none) >>= fun xs => assignInOrder [assign (.Name x px) env, assign (.Name y py) env] xs) _ _ s₁
    refine wpAny_bind (wpAny_holding (hun _ fun va vb h' hk ra rb => ?_))
    show wpAny _ A (holding [vb] (assign (.Name x px) env va) >>= fun _ => (holding [] (assign (.Name y py) env vb) >>= fun _ => pure ())) _ _ _
    have kk : Keeps s { s₁ with heap := h' } := keeps_trans k₁ ⟨h', s₁.toks, rfl, hk⟩
    have st1 := hst.keeps (keeps_get kk)
    refine wpAny_bind (wpAny_holding (wpAny_assign_Name (ex_store (s := { s₁ with heap := h' }) hs st1 hx ra fun h2 tk2 st2 kept2 kseq2 alive2 => ?_)))
    have rb2 : Rep Av h2 vb b := rb.move (fun a o _ e hso => kseq2 a o e hso) (fun _ _ q _ _ => q)
    refine wpAny_bind (wpAny_holding (wpAny_assign_Name (ex_store (s := { s₁ with heap := h2, toks := tk2 }) hs st2 hy rb2 fun h3 tk3 st3 kept3 kseq3 alive3 => wpAny_pure (wpAny_pure ?_))))
    refine ExPost.of_keeps kk ⟨Av, α, h3, tk3, rfl, st3, .next, fun c o e hs' _ => kept3 c o (kept2 c o e hs') hs', fun u us e => ?_, fun c o e => ?_, fun c hc => .inl hc⟩
    · unfold REnv.set at e
      split at e
      · cases e
      · split at e
        · cases e
        · exact .inr ⟨u, us, e, rfl⟩
    · obtain ⟨o1, ho1⟩ := alive2 c o e
      exact alive3 c o1 ho1
  have hz' : ∃ d, aname ρ z = some d ∧ (d = .tuple [a, b] ∨ d = .list [a, b]) := by
    rcases hz with q | q
    · exact ⟨_, q, .inl rfl⟩
    · exact ⟨_, q, .inr rfl⟩
  obtain ⟨d, hd, hd'⟩ := hz'
  refine wpAny_bind (wpAny_mono (ev_name hd env s Av α A hs ha hst.st) (fun v s₁ h₁ => body v s₁ h₁.1 fun Q hQ => ?_) noE)
  rcases hd' with rfl | rfl
  · cases h₁.2 with
    | @tuple l items n _ a1 a2 a3 =>
    have hsz : items.size = 2 := by have := a3.length; simpa using this
    have hex : ∀ h', Heap.ExtBut s₁.heap.objs.size s₁.heap h' → ∀ b o, s₁.heap.get? b = some o → h'.get? b = some o := fun h' he b o e => he b o (Nat.ne_of_lt (Heap.lt_size e)) e
    have := wpAny_unpackItems_tuple (prog := prog) (w := w) (A := A) (E := NoE) (s := s₁) (t := l) (items := items) (Q := Q) ha.1 ⟨_, a2, rfl, _, rfl⟩ (fun h' he => ?_)
    · rwa [hsz] at this
    · generalize hl : items.toList = vs at a3
      cases a3 with
      | cons r1 r2 =>
      cases r2 with
      | cons r2 r3 =>
      cases r3
      exact hQ _ _ h' (hex h' he) (r1.keeps (hex h' he)) (r2.keeps (hex h' he))
  · cases h₁.2 with
    | @list l items n _ a1 a2 a3 =>
    have hsz : items.size = 2 := by have := a3.length; simpa using this
    have hex : ∀ h', Heap.ExtBut s₁.heap.objs.size s₁.heap h' → ∀ b o, s₁.heap.get? b = some o → h'.get? b = some o := fun h' he b o e => he b o (Nat.ne_of_lt (Heap.lt_size e)) e
    have := unpackItems_list (prog := prog) (w := w) (A := A) (E := NoE) (s := s₁) (t := l) (items := items) (Q := Q) ha.1 ⟨_, a2, rfl, _, rfl⟩ (fun h' he => ?_)
    · rwa [hsz] at this
    · generalize hl : items.toList = vs at a3
      cases a3 with
      | cons r1 r2 =>
      cases r2 with
      | cons r2 r3 =>
      cases r3
      exact hQ _ _ h' (hex h' he) (r1.keeps (hex h' he)) (r2.keeps (hex h' he))
structure SndS (prog : Program) (w : World) (h₀ : Heap) (r : Nat) (Φ : Funs) (ap : List Str) (n : Nat) : Prop where
  ex : ∀ sc st ρ fl ρ', aexec Φ ap n sc st ρ = some (fl, ρ') → ExOK prog w h₀ r sc st ρ fl ρ'
  exs : ∀ sc sts ρ fl ρ', aexecs Φ ap n sc sts ρ = some (fl, ρ') → ExsOK prog w h₀ r sc sts ρ fl ρ'
theorem sndS_zero {ap} : SndS prog w h₀ r Φ ap 0 := ⟨fun _ _ _ _ _ h => none_no h, fun _ _ _ _ _ h => none_no h⟩
theorem noComp_or (v : Expr) : noComp v = true ∨ (∃ elt gens scope p, v = .ListComp elt gens scope p) ∨ (∀ (Φ : Funs) n sc ρ, aeval Φ n sc v ρ = none) := by
  cases v <;> first
    | exact .inl rfl
    | exact .inr (.inl ⟨_, _, _, _, rfl⟩)
    | exact .inr (.inr fun Φ n sc ρ => by cases n <;> exact id rfl)
theorem isEmptyList_eq {v : Expr} (h : isEmptyList v = true) : ∃ p, v = .List [] p := by
  cases v with
  | List es p => cases es with
    | nil => exact ⟨p, rfl⟩
    | cons _ _ => exact absurd h Bool.false_ne_true
  | _ => exact absurd h Bool.false_ne_true
section
variable (B : BaseOK h₀ mg mb) (F : FunOK prog w h₀ mg r Φ) {ap : List Str} {n : Nat} (ih : SndS prog w h₀ r Φ ap n)
include B F in
theorem sx_name {x : Str} {q p : Pos} {v : Expr} {fl : AFlow} {ρ' : REnv} (h : aexec Φ ap (n + 1) sc (.Assign [.Name x q] v p) ρ = some (fl, ρ')) : ExOK prog w h₀ r sc (.Assign [.Name x q] v p) ρ fl ρ' := by
  obtain ⟨hk, h⟩ := if_some (x_assign.symm.trans h)
  by_cases hc : isEmptyList v = true ∧ ap.contains x = true
  · rw [if_pos hc] at h
    cases h
    obtain ⟨p', rfl⟩ := isEmptyList_eq hc.1
    exact ex_assign_own hk
  · rw [if_neg hc] at h
    obtain ⟨d, hd⟩ | hd := opt_or (aeval Φ n sc v ρ)
    rotate_left
    · rw [hd] at h; exact none_no h
    rw [hd] at h
    cases h
    rcases noComp_or v with q | ⟨elt, gens, scope, p, rfl⟩ | q
    · exact ex_assign hk q ((snd_all B F n).ev _ _ _ _ hd)
    · cases n with
      | zero => exact none_no hd
      | succ n =>
        replace hd := v_comp.symm.trans hd
        obtain ⟨ds, h1⟩ | h1 := opt_or (acomp Φ n sc elt gens scope ρ)
        rotate_left
        · rw [h1] at hd; exact none_no hd
        rw [h1] at hd
        obtain ⟨hl, hd⟩ := if_some hd
        cases hd
        exact ex_assign_comp hk hl ((snd_all B F n).comp _ _ _ _ _ _ _ h1)
    · rw [q] at hd; exact none_no hd
theorem pair_some {a : Option PyData} {sc : Scope} {ρ ρ' : REnv} {x y : Str} {fl : AFlow} (h : (match a with
        | some (.tuple [a, b]) => some (AFlow.next, (ρ.set x (.val a)).set y (.val b))
        | some (.list [a, b]) => some (AFlow.next, (ρ.set x (.val a)).set y (.val b))
        | _ => none) = some (fl, ρ')) : ∃ b c, (a = some (.tuple [b, c]) ∨ a = some (.list [b, c])) ∧ fl = .next ∧ ρ' = (ρ.set x (.val b)).set y (.val c) := by
  cases a with
  | none => exact none_no h
  | some v => cases v with
    | tuple xs => cases xs with
      | nil => exact none_no h
      | cons b xs => cases xs with
        | nil => exact none_no h
        | cons c xs => cases xs with
          | nil => cases h; exact ⟨b, c, .inl rfl, rfl, rfl⟩
          | cons _ _ => exact none_no h
    | list xs => cases xs with
      | nil => exact none_no h
      | cons b xs => cases xs with
        | nil => exact none_no h
        | cons c xs => cases xs with
          | nil => cases h; exact ⟨b, c, .inr rfl, rfl, rfl⟩
          | cons _ _ => exact none_no h
    | _ => exact none_no h
theorem sx_tup {es : List Expr} {k : Nat} {tp p : Pos} {v : Expr} {fl : AFlow} {ρ' : REnv} (h : aexec Φ ap (n + 1) sc (.Assign [.Tuple es k tp] v p) ρ = some (fl, ρ')) : ExOK prog w h₀ r sc (.Assign [.Tuple es k tp] v p) ρ fl ρ' := by
  cases es with
  | nil => exact none_no h
  | cons e1 es => cases e1 with
    | Name x px => cases es with
      | nil => exact none_no h
      | cons e2 es => cases e2 with
        | Name y py => cases es with
          | nil => cases v with
            | Name z pz =>
              obtain ⟨hc, h⟩ := if_some (x_unpack.symm.trans h)
              obtain ⟨b, c, hz, rfl, rfl⟩ := pair_some (sc := sc) h
              exact ex_unpack hc.1 hc.2.1 hc.2.2 hz
            | _ => exact none_no h
          | cons _ _ => exact none_no h
        | _ => exact none_no h
    | _ => exact none_no h
include B F in
theorem sx_assign {ts : List Expr} {p : Pos} {v : Expr} {fl : AFlow} {ρ' : REnv} (h : aexec Φ ap (n + 1) sc (.Assign ts v p) ρ = some (fl, ρ')) : ExOK prog w h₀ r sc (.Assign ts v p) ρ fl ρ' := by
  cases ts with
  | nil => exact none_no h
  | cons t ts => cases t with
    | Name x q => cases ts with
      | nil => exact sx_name B F h
      | cons _ _ => exact none_no h
    | Tuple es k tp => cases ts with
      | nil => exact sx_tup h
      | cons _ _ => cases es with
        | nil => exact none_no h
        | cons e1 es => cases e1 with
          | Name x px => cases es with
            | nil => exact none_no h
            | cons e2 es => cases e2 with
              | Name y py => cases es <;> exact none_no h
              | _ => exact none_no h
          | _ => exact none_no h
    | _ => exact none_no h
include B F in
theorem sx_expr {v : Expr} {p : Pos} {fl : AFlow} {ρ' : REnv} (h : aexec Φ ap (n + 1) sc (.Expr v p) ρ = some (fl, ρ')) : ExOK prog w h₀ r sc (.Expr v p) ρ fl ρ' := by
  cases v with
  | Call f args ks pos => cases f with
    | Attribute o m apos => cases o with
      | Name x q => cases args with
        | nil => exact none_no h
        | cons e args => cases args with
          | cons _ _ => exact none_no h
          | nil => cases ks with
            | cons _ _ => exact none_no h
            | nil =>
              obtain ⟨hc, h'⟩ := if_some (x_append.symm.trans h)
              clear h
              obtain ⟨rfl, hp, hns, h1, h2, h3⟩ := hc
              obtain ⟨d, hd⟩ | hd := opt_or (aeval Φ n sc e (frz (namesE 1 e) ρ))
              rotate_left
              · rw [hd] at h'; exact none_no h'
              cases hx : ρ x with
              | none => rw [hd, hx] at h'; exact none_no h'
              | some u => cases u with
                | val _ => rw [hd, hx] at h'; exact none_no h'
                | own xs =>
                  rw [hd, hx] at h'
                  obtain ⟨hl, h'⟩ := if_some h'
                  cases h'
                  exact ex_append hp hns h1 h2 ⟨_, rfl, h3⟩ ((snd_all B F n).ev _ _ _ _ hd) hx hl
      | _ => exact none_no h
    | _ => exact none_no h
  | _ => exact none_no h
include B F ih in
theorem sx_for {t it : Expr} {b o : List Stmt} {p : Pos} {fl : AFlow} {ρ' : REnv} (h : aexec Φ ap (n + 1) sc (.For t it b o p) ρ = some (fl, ρ')) : ExOK prog w h₀ r sc (.For t it b o p) ρ fl ρ' := by
  cases t with
  | Name x xp => cases o with
    | cons _ _ => exact none_no h
    | nil =>
      replace h := x_for.symm.trans h
      obtain ⟨items, hi⟩ | hi := opt_or (aiter Φ n sc it (frz (namesE 1 it) ρ))
      rotate_left
      · rw [hi] at h; exact none_no h
      rw [hi] at h
      refine ex_for ((snd_all B F n).iter _ _ _ _ hi _ _) h ?_
      intro d ρa fl ρb hf
      by_cases hk : sc.names.lookup x = some .local ∨ sc.names.lookup x = some .cell
      · have e : abind sc (.Name x xp) d ρa = some (ρa.set x (.val d)) := if_pos hk
        rw [e] at hf
        exact ⟨_, atgt_name (by simpa [kindOk] using hk), ih.exs _ _ _ _ _ hf⟩
      · have e : abind sc (.Name x xp) d ρa = none := if_neg hk
        rw [e] at hf; exact none_no hf
  | _ => exact none_no h
include B F ih in
theorem sx_if {t : Expr} {b o : List Stmt} {p : Pos} {fl : AFlow} {ρ' : REnv} (h : aexec Φ ap (n + 1) sc (.If t b o p) ρ = some (fl, ρ')) : ExOK prog w h₀ r sc (.If t b o p) ρ fl ρ' := by
  replace h := x_if.symm.trans h
  obtain ⟨k, ht⟩ | ht := opt_or (atrue Φ n sc t ρ)
  rotate_left
  · rw [ht] at h; exact none_no h
  rw [ht] at h
  cases k with
  | true => exact ex_if ((snd_all B F n).tr _ _ _ _ ht) (ih.exs _ _ _ _ _ h)
  | false => exact ex_if ((snd_all B F n).tr _ _ _ _ ht) (ih.exs _ _ _ _ _ h)
include B F in
theorem sx_ret {e : Option Expr} {p : Pos} {fl : AFlow} {ρ' : REnv} (h : aexec Φ ap (n + 1) sc (.Return e p) ρ = some (fl, ρ')) : ExOK prog w h₀ r sc (.Return e p) ρ fl ρ' := by
  cases e with
  | none => exact none_no h
  | some e =>
    replace h := x_ret.symm.trans h
    obtain ⟨d, hd⟩ | hd := opt_or (aeval Φ n sc e (frz (namesE 5 e) ρ))
    rotate_left
    · rw [hd] at h; exact none_no h
    rw [hd] at h
    cases h
    exact ex_return ((snd_all B F n).ev _ _ _ _ hd)
include ih in
theorem sx_try {b o f : List Stmt} {hs : List ExceptHandler} {p : Pos} {fl : AFlow} {ρ' : REnv} (h : aexec Φ ap (n + 1) sc (.Try b hs o f p) ρ = some (fl, ρ')) : ExOK prog w h₀ r sc (.Try b hs o f p) ρ fl ρ' := by
  cases hs with
  | nil => exact none_no h
  | cons h1 hs => cases o with
    | cons _ _ => exact none_no h
    | nil => cases f with
      | cons _ _ => exact none_no h
      | nil => exact ex_try (ih.exs _ _ _ _ _ h)
include B F ih in
theorem sx_all {st : Stmt} {fl : AFlow} {ρ' : REnv} (h : aexec Φ ap (n + 1) sc st ρ = some (fl, ρ')) : ExOK prog w h₀ r sc st ρ fl ρ' := by
  cases st with
  | Assign ts v p => exact sx_assign B F h
  | Expr v p => exact sx_expr B F h
  | If t b o p => exact sx_if B F ih h
  | For t it b o p => exact sx_for B F ih h
  | Break p => cases (x_break.symm.trans h); exact ex_break
  | Return e p => exact sx_ret B F h
  | Try b hs o f p => exact sx_try ih h
  | _ => exact none_no h
include B F ih in
theorem sndS_step : SndS prog w h₀ r Φ ap (n + 1) where
  ex := fun _ _ _ _ _ h => sx_all B F ih h
  exs := by
    intro sc sts ρ fl ρ' h
    cases sts with
    | nil => cases (x_nil.symm.trans h); exact exs_nil
    | cons st rr =>
      replace h := x_cons.symm.trans h
      obtain ⟨⟨f1, ρ1⟩, h1⟩ | h1 := opt_or (aexec Φ ap n sc st ρ)
      rotate_left
      · rw [h1] at h; exact none_no h
      rw [h1] at h
      cases f1 with
      | next => exact exs_cons (ih.ex _ _ _ _ _ h1) (ih.exs _ _ _ _ _ h)
      | brk => cases h; exact exs_stop (ih.ex _ _ _ _ _ h1) (fun q => nomatch q)
      | ret d => cases h; exact exs_stop (ih.ex _ _ _ _ _ h1) (fun q => nomatch q)
end
theorem sndS_all (B : BaseOK h₀ mg mb) (F : FunOK prog w h₀ mg r Φ) (ap : List Str) : ∀ n, SndS prog w h₀ r Φ ap n
  | 0 => sndS_zero
  | n + 1 => sndS_step B F (sndS_all B F ap n)
/-- statements ahead of others -/
theorem exs_at_pre (B : BaseOK h₀ mg mb) (F : FunOK prog w h₀ mg r Φ) {A : Around} {env : Env} (hs : env.scope = sc) (ha : AOK r A) {ap : List Str} {ρ1 ρ2 : REnv} {fl : AFlow} {post : List Stmt} (h2 : ExsAt prog w h₀ A env post ρ1 fl ρ2) :
    ∀ {n : Nat} {pre : List Stmt} {ρ : REnv}, aexecs Φ ap n sc pre ρ = some (.next, ρ1) → ExsAt prog w h₀ A env (pre ++ post) ρ fl ρ2
  | 0, _, _, h => none_no h
  | n + 1, [], ρ, h => by
    cases (x_nil.symm.trans h); exact h2
  | n + 1, st :: pre, ρ, h => by
    replace h := x_cons.symm.trans h
    obtain ⟨⟨f1, ρ'⟩, h1⟩ | h1 := opt_or (aexec Φ ap n sc st ρ)
    rotate_left
    · rw [h1] at h; exact none_no h
    rw [h1] at h
    cases f1 with
    | next => exact exs_at_cons (fun s Avc Av α st => ((sndS_all B F ap n).ex _ _ _ _ _ h1) env s Avc Av α A hs ha st) (exs_at_pre B F hs ha h2 h)
    | brk => cases h
    | ret d => cases h
end
noncomputable def argRho (names : List Str) (ds : List PyData) : REnv := fun x => ((names.zip ds).lookup x).map .val
theorem bindL_none {kindOf : Str → Option NameKind} {x : Str} : ∀ (binds : List (Str × Value)) (m : Str → Option Value), (∀ p ∈ binds, p.1 ≠ x) → bindL kindOf binds m x = m x
  | [], m, _ => rfl
  | (n, v) :: r, m, h => by
    have hn : n ≠ x := h (n, v) List.mem_cons_self
    rw [bindL, bindL_none r _ fun p hp => h p (List.mem_cons_of_mem _ hp)]
    split
    · simp [Ne.symm hn]
    · rfl
theorem bindC_none {kindOf : Str → Option NameKind} {x : Str} : ∀ (binds : List (Str × Value)) (m : Str → Option Value), (∀ p ∈ binds, p.1 ≠ x) → bindC kindOf binds m x = m x
  | [], m, _ => rfl
  | (n, v) :: r, m, h => by
    have hn : n ≠ x := h (n, v) List.mem_cons_self
    rw [bindC, bindC_none r _ fun p hp => h p (List.mem_cons_of_mem _ hp)]
    split
    · rfl
    · simp [Ne.symm hn]
theorem bindL_some {kindOf : Str → Option NameKind} {x : Str} {v : Value} (hk : kindOf x = some .local) : ∀ (binds : List (Str × Value)) (m : Str → Option Value), (binds.map (·.1)).Nodup → (x, v) ∈ binds → bindL kindOf binds m x = some v
  | [], m, _, h => by simp at h
  | (n, u) :: r, m, hn, h => by
    have hn' : n ∉ r.map (·.1) ∧ (r.map (·.1)).Nodup := by simpa using hn
    rcases List.mem_cons.mp h with e | h
    · cases e
      rw [bindL, bindL_none r _ (fun p hp e => hn'.1 (List.mem_map.mpr ⟨p, hp, e⟩)), if_pos hk]
      simp
    · rw [bindL]
      exact bindL_some hk r _ hn'.2 h
theorem bindC_some {kindOf : Str → Option NameKind} {x : Str} {v : Value} (hk : kindOf x ≠ some .local) : ∀ (binds : List (Str × Value)) (m : Str → Option Value), (binds.map (·.1)).Nodup → (x, v) ∈ binds → bindC kindOf binds m x = some v
  | [], m, _, h => by simp at h
  | (n, u) :: r, m, hn, h => by
    have hn' : n ∉ r.map (·.1) ∧ (r.map (·.1)).Nodup := by simpa using hn
    rcases List.mem_cons.mp h with e | h
    · cases e
      rw [bindC, bindC_none r _ (fun p hp e => hn'.1 (List.mem_map.mpr ⟨p, hp, e⟩)), if_neg hk]
      simp
    · rw [bindC]
      exact bindC_some hk r _ hn'.2 h
theorem zip_lookup {α β : Type} {R : α → β → Prop} {names : List Str} {vs : List α} {ds : List β} {x : Str} {d : β} (hl : vs.length = ds.length) (h : (names.zip ds).lookup x = some d) (hR : ∀ (i : Nat) v d, vs[i]? = some v → ds[i]? = some d → R v d) : ∃ v, (x, v) ∈ names.zip vs ∧ R v d := by
  induction names generalizing vs ds with
  | nil => exact none_no h
  | cons n ns ih => cases ds with
    | nil => exact none_no h
    | cons d' ds => cases vs with
      | nil => exact absurd hl.symm (Nat.succ_ne_zero _)
      | cons v vs =>
        rw [List.zip_cons_cons, lookup_cons_eq] at h
        by_cases e : x = n
        · rw [if_pos e] at h; subst e; cases h
          exact ⟨v, List.mem_cons_self, hR 0 v d rfl rfl⟩
        · rw [if_neg e] at h
          obtain ⟨u, hu, ru⟩ := ih (Nat.succ.inj hl) h (fun i v d h1 h2 => hR (i + 1) v d h1 h2)
          exact ⟨u, List.mem_cons_of_mem _ hu, ru⟩
/-- what is known of a def of the text -/
structure DefAt (h₀ : Heap) (a : Addr) (fd : FuncData) (body : List Stmt) (names : List Str) : Prop where
  obj : ∃ o, h₀.get? a = some o ∧ o.data = .func fd
  lim : h₀.NoLimit
  code : h₀.CodeRec fd.code fd.qualname
  body : fd.body = .stmts body
  clo : fd.closure = []
  glob : fd.globals = mainGlobals
  blt : fd.builtins = builtinsNs
  bind : ∀ vals, vals.length = names.length → bindArgs fd ⟨vals, []⟩ = pure (names.zip vals)
  nodup : names.Nodup
  kind : fd.scope.kind = .function
  co : fd.scope.isCoroutine = false
  gen : fd.scope.isGenerator = false
  nokey : ∀ p ∈ fd.scope.names, p.2 ≠ .free
  par : ∀ x ∈ names, fd.scope.names.lookup x = some .local ∨ fd.scope.names.lookup x = some .cell
section
variable {prog : Program} {w : World} {h₀ : Heap} {r : Nat} {mg mb : Str → Option Value} {Φ : Funs}
theorem call_exs {a : Addr} {fd : FuncData} {body : List Stmt} {names : List Str} (D : DefAt h₀ a fd body names) {ds : List PyData} {d : PyData} {ρ' : REnv}
    (hlen : ds.length = names.length) (hex : ExsOK prog w h₀ r fd.scope body (argRho names ds) (.ret d) ρ') : CallOK prog w h₀ (r + 1) a ds d := by
  intro A s Av vs ha hbase hav rvs
  obtain ⟨o, ho, hdat⟩ := D.obj
  have hvl : vs.length = names.length := by rw [rvs.length, hlen]
  have hpush : (s.heap.push { cls := .type "frame", data := .dict #[] }).objs.size = s.heap.objs.size + 1 := Heap.size_push ..
  obtain ⟨c1, c2, c3, c4⟩ := cellsFrom_spec (s.heap.objs.size + 1) fd.scope.names (s.heap.push { cls := .type "frame", data := .dict #[] }) [] (by rw [hpush]; exact Nat.le_refl _) (fun x c e => by simp at e) (fun x y c _ e => by simp at e)
  rw [hpush] at c1 c2 c3 c4
  have hmem : ∀ x k, fd.scope.names.lookup x = some k → (x, k) ∈ fd.scope.names := fun x k e => mem_of_lookup e
  refine wpAny_call (codeAny_call_cells (by have := ha.2.1; unfold recursionLimit; omega) (hbase a o ho) hdat (D.lim.keeps hbase) (D.code.keeps hbase) D.body (D.bind vs hvl) D.clo (fun p hp => ?_) (fun s₁ x => ?_) D.co D.gen D.kind)
  · have hx : p.1 ∈ names := (List.of_mem_zip hp).1
    rcases D.par p.1 hx with q | q
    · exact .inl q
    · obtain ⟨c, hc, _⟩ := c2 p.1 (hmem _ _ q)
      exact .inr ⟨q, by rw [hc]; rfl⟩
  · obtain ⟨⟨⟨h1, tk1, e1⟩, hns, hkeep, hfr⟩, hcell, hap, habove⟩ := x
    subst e1
    have hL : (callEnvC fd s.heap.objs.size a).locals = s.heap.objs.size := rfl
    have hcells : (callEnvC fd s.heap.objs.size a).cells = cellsFrom (s.heap.objs.size + 1) fd.scope.names [] := rfl
    have fresh0 : ∀ c, s.heap.objs.size ≤ c → h₀.get? c = none := fun c hc => by
      cases e : h₀.get? c with
      | none => rfl
      | some o => exact absurd (Heap.lt_size (hbase _ _ e)) (Nat.not_lt.mpr hc)
    have hst : StS h₀ Av (callEnvC fd s.heap.objs.size a) Av (fun _ => 0) (argRho names ds) h1 := by
      refine ⟨⟨⟨D.kind, D.glob, D.blt, ⟨_, hns⟩, fun y hy => ?_, fun y z c ey ez => ?_⟩, fun b o e => hkeep b o (hbase b o e), hav.keeps hkeep, fun y W hW => ?_, fun y dd e => ?_, fun y xs e => ?_, fun y z xs ys e => ?_⟩, fun _ q => q, fun y xs e => ?_⟩
      · rcases hy with hy | hy
        · obtain ⟨c, hc, _⟩ := c2 y (hmem _ _ hy)
          exact ⟨c, _, hc, hcell y c hc⟩
        · exact absurd rfl (D.nokey _ (hmem _ _ hy))
      · exact name_of_addr hap (mem_of_lookup ey) (mem_of_lookup ez)
      · rcases hW with ⟨_, rfl⟩ | ⟨_, hc⟩
        · exact fresh0 _ (Nat.le_refl _)
        · exact fresh0 _ (Nat.le_of_lt (habove y W (mem_of_lookup hc)))
      · unfold argRho at e
        obtain ⟨dd', hdd, e2⟩ := Option.map_eq_some_iff.mp e
        cases e2
        obtain ⟨v, hv, rv⟩ := zip_lookup (R := fun v d => Rep Av s.heap v d) rvs.length hdd (fun i v d h1 h2 => by
          obtain ⟨d', hd', rd⟩ := rvs.get h1
          rw [h2] at hd'; cases hd'; exact rd)
        have hx : y ∈ names := (List.of_mem_zip hv).1
        have hnd : ((names.zip vs).map (·.1)).Nodup := by
          rw [List.map_fst_zip (by omega)]; exact D.nodup
        refine ⟨v, ?_, rv.keeps hkeep⟩
        rcases D.par y hx with q | q
        · exact .loc q hns (bindL_some q _ _ hnd hv)
        · obtain ⟨c, hc, _⟩ := c2 y (hmem _ _ q)
          have hk : (callEnvC fd s.heap.objs.size a).kindOf y = some .cell := q
          have hne : (callEnvC fd s.heap.objs.size a).kindOf y ≠ some .local := by rw [hk]; intro e; cases e
          have hh := hcell y c hc
          rw [bindC_some hne _ _ hnd hv] at hh
          exact .cell hk hc hh
      · unfold argRho at e
        obtain ⟨dd', hdd, e2⟩ := Option.map_eq_some_iff.mp e
        cases e2
      · unfold argRho at e
        obtain ⟨dd', hdd, e2⟩ := Option.map_eq_some_iff.mp e
        cases e2
      · unfold argRho at e
        obtain ⟨dd', hdd, e2⟩ := Option.map_eq_some_iff.mp e
        cases e2
    have ha' : AOK r (A.deeper (callEnvC fd s.heap.objs.size a)) := by
      obtain ⟨q1, q2, q3⟩ := ha
      refine ⟨q1, ?_, ?_⟩
      · show A.depth + 1 + r < 900; omega
      · show A.units + 3 + 4 * r + 20 < cLine; omega
    refine wpAny_mono (hex (callEnvC fd s.heap.objs.size a) { s with heap := h1, toks := tk1 } Av Av (fun _ => 0) _ rfl ha' hst) (fun f s₂ q => ?_) noE
    obtain ⟨Av', α', h', tk', rfl, st', fr, kept, own, alive, avn⟩ := q
    cases fr with
    | ret rv =>
    refine ⟨⟨h', tk', rfl, fun b o e => kept b o (hkeep b o e) (fun y hW => ?_) (fun y xs e => ?_)⟩, rv.move (fun _ _ _ e _ => e) (fun b o hb _ _ hm => hb (st'.sub b hm))⟩
    · have hlt := Heap.lt_size e
      rcases hW with ⟨_, rfl⟩ | ⟨_, hc⟩
      · exact Nat.lt_irrefl _ hlt
      · exact absurd (habove y b (mem_of_lookup hc)) (Nat.not_lt.mpr (Nat.le_of_lt hlt))
    · unfold argRho at e
      obtain ⟨dd', hdd, e2⟩ := Option.map_eq_some_iff.mp e
      cases e2
theorem call_ok (B : BaseOK h₀ mg mb) (F : FunOK prog w h₀ mg r Φ) {a : Addr} {fd : FuncData} {body : List Stmt} {names : List Str} (D : DefAt h₀ a fd body names) {ds : List PyData} {d : PyData} {ap : List Str} {n : Nat} {ρ' : REnv}
    (hlen : ds.length = names.length) (hex : aexecs Φ ap n fd.scope body (argRho names ds) = some (.ret d, ρ')) : CallOK prog w h₀ (r + 1) a ds d :=
  call_exs D hlen ((sndS_all B F ap n).exs _ _ _ _ _ hex)
end
section
open PySem.Sre
noncomputable abbrev reCode : Array Nat := #[14, 8, 1, 2, 4294967295, 1, 1, 46, 0, 16, 46, 24, 9, 1, 4294967295, 13, 4, 8, 0, 0, 1, 6, 5, 1]
noncomputable def stepN : Nat → M → M
  | 0, m => m
  | n + 1, m => stepN n m.step
theorem step_done {m : M} (h : m.outcome.isSome = true) : m.step = m := by unfold M.step; rw [if_pos h]
theorem stepN_done {m : M} (h : m.outcome.isSome = true) : ∀ n, stepN n m = m
  | 0 => rfl
  | n + 1 => by rw [stepN, step_done h, stepN_done h n]
theorem stepN_add : ∀ (a b : Nat) (m : M), stepN (a + b) m = stepN b (stepN a m)
  | 0, b, m => by rw [Nat.zero_add]; rfl
  | a + 1, b, m => by rw [show a + 1 + b = (a + b) + 1 by omega, stepN, stepN_add a b]; rfl
theorem runFor_eq : ∀ (n : Nat) (m : M), M.runFor n m = stepN n m
  | 0, m => rfl
  | n + 1, m => by
    rw [M.runFor]
    split
    · rename_i h; rw [stepN_done h]
    · rw [runFor_eq n]; rfl
noncomputable def Runs (m m' : M) (n : Nat) : Prop := stepN n m = m'
theorem Runs.trans {a b c : M} {n k : Nat} (h : Runs a b n) (h' : Runs b c k) : Runs a c (n + k) := by unfold Runs at *; rw [stepN_add, h, h']
/-- the machine at the start `p` -/
noncomputable abbrev atS (text : Array Nat) (p : Nat) (o : Bool) (seen : Sre.Seen) : M :=
  { code := reCode, text, lim := text.size, start := p, lastStart := text.size, pc := 9, pos := p, handed := p, outermost := o, marks := #[], frames := [{ wait := .nextStart, pc := 9, pos := p, outermost := o }], weight := 1, seen }
theorem forSearch_short {text : Array Nat} (h : text.size < 2) : (stepN 1 (forSearch reCode text 0 0 text.size false)).outcome = some .failed := by
  unfold forSearch
  rw [if_pos (by simp [header, ops]; exact h)]
  rfl
theorem forSearch_start {text : Array Nat} (h : 2 ≤ text.size) : ∃ seen, forSearch reCode text 0 0 text.size false = atS text 0 true seen := by
  unfold forSearch
  rw [if_neg (by simp [header, ops]; exact h)]
  exact ⟨_, rfl⟩
section
variable {text : Array Nat} {p : Nat} {o : Bool} {seen : Sre.Seen}
/-- behind the last start -/
theorem at_end (h : text.size ≤ p) : (stepN 3 (atS text p o seen)).outcome = some .failed := by
  have e1 : (atS text p o seen).step = { atS text p o (seen.add 16) with answer := some false } := by
    show (if p ≥ text.size then _ else _) = _
    rw [if_pos h]; rfl
  have e2 : ({ atS text p o (seen.add 16) with answer := some false } : M).step = { atS text p o (seen.add 16) with answer := some false, frames := [], weight := 0 } := by
    show (if p < text.size then _ else _) = _
    rw [if_neg (by omega)]; rfl
  rw [stepN, e1, stepN, e2]; rfl
theorem says_no {s2 : Sre.Seen} {pos' : Nat} (hp : p < text.size) {m : M} (hm : m = { atS text p o s2 with answer := some false, pc := m.pc, pos := m.pos, seen := s2 }) : m.step = atS text (p + 1) false s2 := by
  rw [hm]
  show (if p < text.size then _ else _) = _
  rw [if_pos hp]; rfl
/-- no dot here -/
theorem at_other (hp : p < text.size) (h : text.getD p 0 ≠ 46) : ∃ s2, stepN 2 (atS text p o seen) = atS text (p + 1) false s2 := by
  have e1 : (atS text p o seen).step = { atS text p o (seen.add 16) with answer := some false } := by
    show (if p ≥ text.size then _ else match (Except.ok (text.getD p 0 == 46, seen.add 16) : Except String (Bool × Sre.Seen)) with
      | .error why => _ | .ok (false, seen) => _ | .ok (true, seen) => _) = _
    rw [if_neg (by omega), beq_eq_false_iff_ne.mpr h]; rfl
  refine ⟨seen.add 16, ?_⟩
  rw [stepN, e1, stepN]
  exact says_no (pos' := 0) hp rfl
theorem at_dot1 (hp : p < text.size) (h : text.getD p 0 = 46) : (atS text p o seen).step = { atS text p o (seen.add 16) with pc := 11, pos := p + 1 } := by
  show (if p ≥ text.size then _ else match (Except.ok (text.getD p 0 == 46, seen.add 16) : Except String (Bool × Sre.Seen)) with
      | .error why => _ | .ok (false, seen) => _ | .ok (true, seen) => _) = _
  rw [if_neg (by omega), beq_iff_eq.mpr h]; rfl
theorem accepts_digit (c : Nat) : ∃ s2, accepts reCode 15 c seen = .ok (Sre.isDigit c, s2) := by
  have e : accepts reCode 15 c seen = (do if ← category 0 c then pure (true, ((seen.add 8).add 55)) else inSet reCode c 23 19 true ((seen.add 8).add 55)) := rfl
  rw [e]
  have e2 : category 0 c = .ok (Sre.isDigit c != false) := rfl
  rw [e2]
  cases hd : Sre.isDigit c
  · exact ⟨_, rfl⟩
  · exact ⟨_, rfl⟩
theorem run_none {q n : Nat} (h : Sre.isDigit (text.getD q 0) = false) : ∃ s2, run reCode text 15 n q 0 seen = .ok (0, s2) := by
  cases n with
  | zero => exact ⟨_, rfl⟩
  | succ n =>
    obtain ⟨s2, e⟩ := accepts_digit (seen := seen) (text.getD q 0)
    rw [Sre.run, e, h]; exact ⟨s2, rfl⟩
theorem run_one {q n : Nat} (hn : 1 ≤ n) (h : Sre.isDigit (text.getD q 0) = true) (h2 : n = 1 ∨ Sre.isDigit (text.getD (q + 1) 0) = false) : ∃ s2, run reCode text 15 n q 0 seen = .ok (1, s2) := by
  obtain ⟨k, rfl⟩ : ∃ k, n = k + 1 := ⟨n - 1, by omega⟩
  obtain ⟨s2, e⟩ := accepts_digit (seen := seen) (text.getD q 0)
  rw [Sre.run, e, h]
  show ∃ s3, run reCode text 15 k (q + 1) 1 s2 = _
  rcases h2 with h2 | h2
  · cases k with
    | zero => exact ⟨_, rfl⟩
    | succ k => omega
  · cases k with
    | zero => exact ⟨_, rfl⟩
    | succ k =>
      obtain ⟨s3, e⟩ := accepts_digit (seen := s2) (text.getD (q + 1) 0)
      rw [Sre.run, e, h2]; exact ⟨s3, rfl⟩
noncomputable abbrev atR (text : Array Nat) (p : Nat) (o : Bool) (seen : Sre.Seen) : M := { atS text p o seen with pc := 11, pos := p + 1 }
theorem rep_eq : (atR text p o seen).step = (if (1 : Int) > (text.size : Int) - ((p + 1 : Nat) : Int) then { atR text p o (seen.add 24) with answer := some false } else
    match run reCode text 15 (min 4294967295 ((text.size : Int) - ((p + 1 : Nat) : Int)).toNat) (p + 1) 0 ((seen.add 24).add 13) with
    | .error why => { atR text p o (seen.add 24) with outcome := some (.stuck why) }
    | .ok (n, s2) => if n < 1 then { atR text p o s2 with answer := some false } else ({ atR text p o s2 with pos := p + 1 + n } : M).afterRun .giveBack n {}) := rfl
theorem at_dot_no (hp : p < text.size) (h : text.getD p 0 = 46) (h1 : Sre.isDigit (text.getD (p + 1) 0) = false) : ∃ s2, stepN 3 (atS text p o seen) = atS text (p + 1) false s2 := by
  rw [stepN, at_dot1 hp h, stepN]
  have e := rep_eq (text := text) (p := p) (o := o) (seen := seen.add 16)
  obtain ⟨s2, er⟩ := run_none (seen := ((seen.add 16).add 24).add 13) (n := min 4294967295 ((text.size : Int) - ((p + 1 : Nat) : Int)).toNat) h1
  rw [er] at e
  simp only [if_pos (show 0 < 1 by omega)] at e
  split at e
  · rw [show M.step _ = _ from e, stepN]
    exact ⟨_, says_no (pos' := 0) hp rfl⟩
  · rw [show M.step _ = _ from e, stepN]
    exact ⟨_, says_no (pos' := 0) hp rfl⟩
noncomputable abbrev atT (text : Array Nat) (p : Nat) (o : Bool) (seen : Sre.Seen) : M :=
  { atS text p o seen with pc := 21, pos := p + 2, handed := p + 2, frames := [{ wait := .giveBack, pc := 11, pos := p + 2, outermost := o, count := 1 }, { wait := .nextStart, pc := 9, pos := p, outermost := o }], weight := 2 }
theorem rep_one (hp : p + 1 < text.size) (h : text.getD p 0 = 46) (h1 : Sre.isDigit (text.getD (p + 1) 0) = true) (h2 : p + 2 = text.size ∨ Sre.isDigit (text.getD (p + 2) 0) = false) :
    ∃ s2, stepN 2 (atS text p o seen) = atT text p o s2 := by
  rw [stepN, at_dot1 (by omega) h, stepN]
  have e := rep_eq (text := text) (p := p) (o := o) (seen := seen.add 16)
  obtain ⟨s2, er⟩ := run_one (text := text) (q := p + 1) (seen := ((seen.add 16).add 24).add 13) (n := min 4294967295 ((text.size : Int) - ((p + 1 : Nat) : Int)).toNat) (by omega) h1 (by
    rcases h2 with h2 | h2
    · left; omega
    · right; exact h2)
  rw [er, if_neg (by omega)] at e
  simp only [if_neg (show ¬ 1 < 1 by omega)] at e
  rw [show M.step _ = _ from e]
  exact ⟨s2, rfl⟩
theorem at_seven_no (hp : p + 2 < text.size) (h : text.getD p 0 = 46) (h1 : Sre.isDigit (text.getD (p + 1) 0) = true) (h2 : Sre.isDigit (text.getD (p + 2) 0) = false) (h3 : text.getD (p + 2) 0 ≠ 10) :
    ∃ s2, stepN 5 (atS text p o seen) = atS text (p + 1) false s2 := by
  obtain ⟨s2, e⟩ := rep_one (o := o) (seen := seen) (by omega) h h1 (.inr h2)
  rw [show 5 = 2 + 3 from rfl, stepN_add, e]
  have e1 : (atT text p o s2).step = { atT text p o ((s2.add 6).add 48) with answer := some false } := by
    show (if (p + 2 == text.size || (p + 2 + 1 == text.size && text.getD (p + 2) 0 == 10)) = true then _ else _) = _
    rw [if_neg (by simp only [Bool.or_eq_true, Bool.and_eq_true, beq_iff_eq, not_or, not_and]; exact ⟨by omega, fun _ => h3⟩)]; rfl
  rw [stepN, e1, stepN]
  have e2 : ({ atT text p o ((s2.add 6).add 48) with answer := some false } : M).step = { atS text p o ((s2.add 6).add 48) with answer := some false, pc := 11, pos := p + 2, handed := p + 2 } := rfl
  rw [e2, stepN]
  refine ⟨(s2.add 6).add 48, ?_⟩
  show (if p < text.size then _ else _) = _
  rw [if_pos (by omega)]; rfl
theorem at_seven_yes (hp : p + 2 = text.size) (h : text.getD p 0 = 46) (h1 : Sre.isDigit (text.getD (p + 1) 0) = true) : (stepN 7 (atS text p o seen)).outcome = some .matched := by
  obtain ⟨s2, e⟩ := rep_one (o := o) (seen := seen) (by omega) h h1 (.inl hp)
  rw [show 7 = 2 + 5 from rfl, stepN_add, e]
  have e1 : (atT text p o s2).step = { atT text p o ((s2.add 6).add 48) with pc := 23 } := by
    show (if (p + 2 == text.size || (p + 2 + 1 == text.size && text.getD (p + 2) 0 == 10)) = true then _ else _) = _
    rw [if_pos (by simp [hp])]; rfl
  rw [stepN, e1, stepN]
  have e2 : ({ atT text p o ((s2.add 6).add 48) with pc := 23 } : M).step = { atT text p o (((s2.add 6).add 48).add 1) with pc := 23, answer := some true } := by
    show (if (o && _) = true then _ else _) = _
    rw [if_neg (by simp)]; rfl
  rw [e2]
  rfl
noncomputable def Miss (text : Array Nat) (p : Nat) : Prop := text.getD p 0 = 46 → Sre.isDigit (text.getD (p + 1) 0) = true → p + 2 < text.size ∧ Sre.isDigit (text.getD (p + 2) 0) = false ∧ text.getD (p + 2) 0 ≠ 10
theorem miss_step (hp : p < text.size) (h : Miss text p) : ∃ s2 n, n ≤ 5 ∧ stepN n (atS text p o seen) = atS text (p + 1) false s2 := by
  by_cases hd : text.getD p 0 = 46
  · cases h1 : Sre.isDigit (text.getD (p + 1) 0)
    · obtain ⟨s2, e⟩ := at_dot_no (o := o) (seen := seen) hp hd h1; exact ⟨s2, 3, by omega, e⟩
    · obtain ⟨a, b, c⟩ := h hd h1
      obtain ⟨s2, e⟩ := at_seven_no (o := o) (seen := seen) a hd h1 b c; exact ⟨s2, 5, by omega, e⟩
  · obtain ⟨s2, e⟩ := at_other (o := o) (seen := seen) hp hd; exact ⟨s2, 2, by omega, e⟩
end
theorem miss_all {text : Array Nat} {k : Nat} (hk : k ≤ text.size) (h : ∀ p, p < k → Miss text p) : ∀ {o seen}, ∃ s2 n o', n ≤ 5 * k ∧ stepN n (atS text 0 o seen) = atS text k o' s2 := by
  induction k with
  | zero => intro o seen; exact ⟨seen, 0, o, by omega, rfl⟩
  | succ k ih =>
    intro o seen
    obtain ⟨s2, n, o', hn, e⟩ := ih (by omega) (fun p hp => h p (by omega)) (o := o) (seen := seen)
    obtain ⟨s3, n', hn', e'⟩ := miss_step (o := o') (seen := s2) (show k < text.size by omega) (h k (by omega))
    exact ⟨s3, n + n', false, by omega, by rw [stepN_add, e, e']⟩
theorem search_none {text : Array Nat} (h : ∀ p, p < text.size → Miss text p) : ∃ n, n ≤ 5 * text.size + 3 ∧ (stepN n (forSearch reCode text 0 0 text.size false)).outcome = some .failed := by
  by_cases hs : text.size < 2
  · exact ⟨1, by omega, forSearch_short hs⟩
  · obtain ⟨seen, e⟩ := forSearch_start (text := text) (by omega)
    obtain ⟨s2, n, o', hn, e'⟩ := miss_all (Nat.le_refl _) h (o := true) (seen := seen)
    exact ⟨n + 3, by omega, by rw [e, stepN_add, e']; exact at_end (Nat.le_refl _)⟩
theorem search_some {text : Array Nat} {k : Nat} (hk : k + 2 = text.size) (h : ∀ p, p < k → Miss text p) (h0 : text.getD k 0 = 46) (h1 : Sre.isDigit (text.getD (k + 1) 0) = true) :
    ∃ n, n ≤ 5 * text.size + 7 ∧ (stepN n (forSearch reCode text 0 0 text.size false)).outcome = some .matched := by
  obtain ⟨seen, e⟩ := forSearch_start (text := text) (by omega)
  obtain ⟨s2, n, o', hn, e'⟩ := miss_all (by omega) h (o := true) (seen := seen)
  exact ⟨n + 7, by omega, by rw [e, stepN_add, e']; exact at_seven_yes hk h0 h1⟩
end
section
open PySem.Builtin.Re
theorem plainAttrs_pat : PlainAttrs "re.Pattern" :=
  ⟨⟨"object.__getattribute__", by rw [typeLookup_type, builtinLookup_eq_fast]; kernel_rfl, by decide +kernel⟩, by rw [typeLookup_type, builtinLookup_eq_fast]; kernel_rfl⟩
theorem slot_search : Slot "re.Pattern" "search" "re.Pattern.search" :=
  .of (owner := "re.Pattern") (n := "search") (by rw [typeLookup_type, builtinLookup_eq_fast]; kernel_rfl) (by decide +kernel) (by decide +kernel) (by decide +kernel)
    (by first | exact .inl (by decide +kernel) | exact .inr (by decide +kernel)) (by rw [isSubtype_type]; kernel_rfl)
theorem type_search : typeOf (.builtin "re.Pattern.search") = pure (.type "method_descriptor") := by show builtinType _ = _; rw [builtinType_eq_fast]; kernel_rfl
theorem entry_search : entryFor table "re.Pattern.search" = some Builtin.«re.Pattern.search» := entryFor_of_tree (by kernel_rfl)
theorem args_search (a b : Value) : argsOk "re.Pattern.search" ⟨[a, b], []⟩ := by
  unfold argsOk; kernel_rfl
theorem noBool_match : typeLookup (.type "re.Match") "__bool__" = pure none := by rw [typeLookup_type, builtinLookup_eq_fast]; kernel_rfl
theorem noLen_match : typeLookup (.type "re.Match") "__len__" = pure none := by rw [typeLookup_type, builtinLookup_eq_fast]; kernel_rfl
section
variable {prog : Program} {w : World} {A : Around} {E : Value → Shared → Prop} {s : Shared}
theorem drive_ok {Q : Sre.M → Shared → Prop} : ∀ (t : Nat) (m : Sre.M) (n : Nat), (stepN n m).outcome.isSome = true → n ≤ 4 * t → 1 ≤ t → Q (stepN n m) s → wpAny (model prog w) A (reDrive t m) Q E s
  | 0, m, n, _, _, h1, _ => by omega
  | t + 1, m, n, hd, hn, _, hq => by
    show wpAny _ A (if (m.runFor reTurnSteps).outcome.isSome = true then pure (m.runFor reTurnSteps) else do rule "sre.turn"; reDrive t (m.runFor reTurnSteps)) Q E s
    rw [show reTurnSteps = 4 from rfl, runFor_eq]
    split
    · rename_i h4
      have : stepN 4 m = stepN n m := by
        rcases Nat.le_total n 4 with h | h
        · obtain ⟨k, hk⟩ := Nat.exists_eq_add_of_le h
          rw [hk, stepN_add, stepN_done hd]
        · obtain ⟨k, rfl⟩ := Nat.exists_eq_add_of_le h
          rw [stepN_add, stepN_done h4]
      rw [this]; exact wpAny_pure hq
    · rename_i h4
      have h : 4 < n := by
        rcases Nat.lt_or_ge 4 n with h | h
        · exact h
        · obtain ⟨k, hk⟩ := Nat.exists_eq_add_of_le h
          rw [hk, stepN_add, stepN_done hd] at h4
          exact absurd hd h4
      obtain ⟨k, rfl⟩ := Nat.exists_eq_add_of_le (Nat.le_of_lt h)
      rw [stepN_add] at hd hq
      exact wpAny_bind (wpAny_rule (drive_ok t _ k hd (by omega) (by omega) hq))
theorem toEnd_ok {m : Sre.M} {n : Nat} {Q : Option Sre.M → Shared → Prop} (hn : n ≤ 100000000)
    (h : ((stepN n m).outcome = some .failed ∧ Q none s) ∨ ((stepN n m).outcome = some .matched ∧ Q (some (stepN n m)) s)) : wpAny (model prog w) A (reRunToEnd m) Q E s := by
  unfold reRunToEnd
  have hd : (stepN n m).outcome.isSome = true := by rcases h with h | h <;> rw [h.1] <;> rfl
  refine wpAny_bind (drive_ok _ _ n hd (Nat.le_trans hn (by decide)) (by decide) ?_)
  refine wpAny_bind (wpAny_forIn_list _ (fun _ _ s' => s' = s) _ (fun x rest b s₁ hI => ?_) (fun b s₁ hI => ?_) _ _ rfl)
  · subst hI
    split
    · exact wpAny_bind (wpAny_rule (wpAny_pure rfl))
    · exact wpAny_pure rfl
  · subst hI
    rcases h with ⟨h, hq⟩ | ⟨h, hq⟩
    · rw [h]; exact wpAny_pure hq
    · rw [h]; exact wpAny_pure hq
theorem truthy_match {a : Addr} {o : Obj} {Q : Bool → Shared → Prop} (ho : s.heap.get? a = some o) (hc : o.cls = .type "re.Match") (h : Q true s) : wpAny (model prog w) A (truthy (.ref a)) Q E s := by
  have hT : s.TypeIs (.ref a) "re.Match" := ⟨o, ho, hc⟩
  unfold truthy
  refine wpAny_bind (wpAny_callSpecial?_none (name := Str.ofString "__bool__") hT noBool_match ?_)
  refine wpAny_bind (wpAny_specialOf (name := Str.ofString "__len__") hT noLen_match ?_)
  exact wpAny_pure h
structure PatAt (h : Heap) (a : Addr) (o : Obj) (vs : Array Value) (c : Addr) (oc : Obj) (items : Array Value) (k : Nat) : Prop where
  obj : h.get? a = some o
  cls : o.cls = .type "re.Pattern"
  dict : o.dict = none
  data : o.data = .fields vs
  code : vs.getD 5 .none = .ref c
  cobj : h.get? c = some oc
  cdata : oc.data = .seq items k
  words : (items.map reRawOf).map (·.toNat) = reCode
  want : reRawNat (vs.getD 6 .none) = 0
  groups : reRawNat (vs.getD 2 .none) = 0
theorem PatAt.keeps {h h' : Heap} {a o vs c oc items k} (hk : ∀ a o, h.get? a = some o → h'.get? a = some o) (x : PatAt h a o vs c oc items k) : PatAt h' a o vs c oc items k :=
  ⟨hk _ _ x.obj, x.cls, x.dict, x.data, x.code, hk _ _ x.cobj, x.cdata, x.words, x.want, x.groups⟩
theorem target_ok {a o vs c oc items k} {x : Str} {t : Tok} {Q : ReTarget → Shared → Prop} (P : PatAt s.heap a o vs c oc items k)
    (h : Q { pattern := .ref a, string := .str x t, code := reCode, text := x.cps, kind := 0, groups := 0, pos := 0, lim := x.cps.size } s) (hl : x.cps.size ≤ LIM) :
    wpAny (model prog w) A (reTarget "re.Pattern.search" "search" ⟨[.ref a, .str x t], []⟩) Q E s := by
  unfold reTarget
  show wpAny _ A (reNamed "re.Pattern.search" "search" ["string", "pos", "endpos"] 1 [.str x t] [] >>= _) Q E s
  have e : reNamed "re.Pattern.search" "search" ["string", "pos", "endpos"] 1 [.str x t] [] = pure [some (.str x t), none, none] := rfl
  rw [e]
  refine wpAny_bind (wpAny_pure ?_)
  refine wpAny_bind (wpAny_pure ?_)
  refine wpAny_bind (wpAny_pure ?_)
  refine wpAny_bind (wpAny_fieldsOf P.obj P.data ?_)
  have e2 : reTextOf (.str x t) = pure (x.cps, 0) := rfl
  rw [e2]
  refine wpAny_bind (wpAny_pure ?_)
  simp only [P.want]
  refine wpAny_bind (wpAny_pure ?_)
  rw [P.code]
  unfold reRawItems
  refine wpAny_bind (wpAny_bind (wpAny_seqItems P.cobj P.cdata (wpAny_pure ?_)))
  refine wpAny_pure ?_
  simp only [Option.getD_some, P.words, P.groups]
  have e3 : min (Int.toNat 0) x.cps.size = 0 := by simp
  have e4 : min (Int.toNat (2 ^ 63 - 1)) x.cps.size = x.cps.size := by
    refine Nat.min_eq_right (Nat.le_trans hl (by decide))
  rw [e3, e4]
  exact h
theorem search_call {a o vs c oc items k n} {x : Str} {t : Tok} {b : Bool} {Q : Value → Shared → Prop} (P : PatAt s.heap a o vs c oc items k) (hl : x.cps.size ≤ LIM)
    (hn : n ≤ 100000000) (ho : (stepN n (Sre.forSearch reCode x.cps 0 0 x.cps.size false)).outcome = some (if b then .matched else .failed))
    (hQ : ∀ v s', Keeps s s' → ((b = false ∧ v = .none) ∨ (b = true ∧ ∃ m o', v = .ref m ∧ s'.heap.get? m = some o' ∧ o'.cls = .type "re.Match")) → Q v s') :
    wpAny (model prog w) A (call (.builtin "re.Pattern.search") [.ref a, .str x t]) Q E s := by
  refine wpAny_call (codeAny_call_builtin slot_search.plain entry_search (slot_search.check _ _ _ _ _ _ _ _ ⟨o, P.obj, P.cls⟩ (args_search _ _) ?_))
  unfold Builtin.«re.Pattern.search»
  refine wpAny_bind (target_ok P ?_ hl)
  unfold reAnswer
  refine wpAny_bind (toEnd_ok hn ?_)
  cases b with
  | false => exact .inl ⟨ho, wpAny_pure (hQ _ _ (keeps_refl _) (.inl ⟨rfl, rfl⟩))⟩
  | true =>
    refine .inr ⟨ho, ?_⟩
    unfold reNewMatch
    simp only [List.range_zero, List.any_nil, Bool.false_eq_true, if_false, List.flatMap_nil]
    refine wpAny_bind (wpAny_bind (wpAny_newTuple ?_ (by show 2 ≤ sizeLine; decide)))
    refine wpAny_newObj_type ?_
    exact wpAny_pure (hQ _ _ (keeps_trans keeps_push keeps_push) (.inr ⟨rfl, _, _, rfl, Heap.get?_push_size _ rfl, rfl⟩))
end
end
section
variable {prog : Program} {w : World} {h₀ : Heap} {r : Nat} {sc : Scope} {ρ : REnv} {mg mb : Str → Option Value} {Φ : Funs}
theorem gm_pat {M : Model} {A : Around} {E : Value → Shared → Prop} {s : Shared} {a : Addr} {o : Obj} {pl : Sem Bool} {Q : Value × List Value → Shared → Prop} (ho : s.heap.get? a = some o) (hc : o.cls = .type "re.Pattern") (hd : o.dict = none)
    (h : Q (.builtin "re.Pattern.search", [.ref a]) s) : wpAny M A (getMethod (.ref a) (Str.ofString "search") pl) Q E s :=
  @getMethod_builtin M A E s (.ref a) "re.Pattern" (Str.ofString "search") "re.Pattern.search" pl Q ⟨o, ho, hc⟩ plainAttrs_pat slot_search type_search (fun b e => by cases e; exact ⟨o, ho, hd⟩) h
/-- what a search in the text tells -/
noncomputable def Finds (x : Str) (b : Bool) : Prop := x.cps.size ≤ LIM ∧ ∃ n, n ≤ 100000000 ∧ (stepN n (Sre.forSearch reCode x.cps 0 0 x.cps.size false)).outcome = some (if b then .matched else .failed)
theorem tr_search (B : BaseOK h₀ mg mb) {a o vs c oc items k} (hm : mg "IPV4_RE" = some (.ref a)) (P : PatAt h₀ a o vs c oc items k) (hk : sc.names.lookup ("IPV4_RE" : Str) = some .globalImplicit) {e : Expr} {x : Str} {p apos pos : Pos} {b : Bool}
    (he : EvOK prog w h₀ r sc ρ e (.str x)) (hns : notStar e = true) (hp : (apos.endLine == pos.line) = true) (hf : Finds x b) :
    TrOK prog w h₀ r sc ρ (.Call (.Attribute (.Name "IPV4_RE" p) "search" apos) [e] [] pos) b := fun env s Av α A hs ha st => by
  show wpAny _ A (do let v ← eval (.Call (.Attribute (.Name "IPV4_RE" p) "search" apos) [e] [] pos) env; standAt pos; holding [v] (truthy v)) _ _ s
  have hargs : EsOK prog w h₀ r sc ρ [e] [.str x] := es_cons hns he es_nil
  refine wpAny_bind (wpAny_mono (Q := fun v s' => Keeps s s' ∧ ((b = false ∧ v = .none) ∨ (b = true ∧ ∃ m o', v = .ref m ∧ s'.heap.get? m = some o' ∧ o'.cls = .type "re.Match"))) (E := NoE) ?_ (fun v s₁ h₁ => wpAny_bind (wpAny_standAt (wpAny_holding ?_))) noE)
  · show wpAny _ A (do
      let ov ← attributeBase (.Name "IPV4_RE" p) "search" env (eval (.Name "IPV4_RE" p) env)
      standAt apos.atName
      methodCall (.Name "IPV4_RE" p) "search" apos pos env ov ([e].length + 0) (backTo pos (starEach [e] env)) (backToKw pos (keywordEach [] env))) _ _ s
    rw [attributeBase_plain rfl]
    subst hs
    refine wpAny_bind (load_glob B st hk (by decide) hm (wpAny_bind (wpAny_standAt ?_)))
    rw [backTo_plain hargs.1]
    have hform : methodCallForm ([e].length + 0) ([e].map fun e => (false, eval e env)) (backToKw pos (keywordEach [] env)) = true := rfl
    unfold methodCall
    rw [hform]
    unfold calleeOf methodCallPos
    simp only [if_true, hp, Bool.not_true, Bool.false_or]
    refine wpAny_bind (wpAny_holding ?_)
    have P1 := P.keeps st.base
    refine gm_pat P1.obj P1.cls P1.dict ?_
    refine wpAny_bind (wpAny_pure ?_)
    refine Calls.callWith_builtin any_plain (evalArgs_list (wpAny_mono (hargs.2 env s Av α A rfl ha st) (fun vs s₃ h₃ => ?_) noE))
    obtain ⟨k3, rv⟩ := h₃
    cases rv with
    | cons r1 r2 =>
      cases r2
      cases r1
      obtain ⟨hl, n, hn, ho⟩ := hf
      exact search_call (P1.keeps (keeps_get k3)) hl hn ho fun v s' k4 q => ⟨keeps_trans k3 k4, q⟩
  · obtain ⟨k1, q⟩ := h₁
    rcases q with ⟨rfl, rfl⟩ | ⟨rfl, m, o', rfl, ho', hc'⟩
    · exact truthy_none ⟨rfl, k1⟩
    · exact truthy_match ho' hc' ⟨rfl, k1⟩
end
noncomputable def P0 : Params := { strHash := fun _ => 0, shareClass := fun a => a, mergeTok := id, idOf := fun _ => 0, idOfShared := fun _ _ => 0, followText := fun _ => false, idOfImm := fun _ => 0 }
noncomputable def fnIn (K : Frag) (a : Addr) : FuncData := match K.lookup a with
  | some ⟨_, _, .func fd, _⟩ => fd
  | _ => { name := "", qualname := "", params := ⟨[], [], none, [], [], none, []⟩, body := .stmts [], scope := { kind := .function, names := [], isGenerator := false, isCoroutine := false }, globals := 0, closure := [], defaults := .none, kwdefaults := .none }
noncomputable def stmtsOf (fd : FuncData) : List Stmt := match fd.body with
  | .stmts b => b
  | _ => []
noncomputable def fn (a : Addr) : FuncData := fnIn (hd.heap_39 P0) a
section
variable {ρ : REnv} {sc : Scope} {n : Nat}
theorem ne_name {x p} : namesE (n + 1) (.Name x p) = [x] := rfl
theorem ne_call {f as ks p} : namesE (n + 1) (.Call f as ks p) = as.flatMap (namesE n) := rfl
theorem ne_sub {v i p} : namesE (n + 1) (.Subscript v i p) = namesE n v := rfl
theorem ne_const {c k p} : namesE (n + 1) (.Constant c k p) = [] := rfl
theorem ne_bin {l o r p} : namesE (n + 1) (.BinOp l o r p) = [] := rfl
theorem ne_list {es p} : namesE (n + 1) (.List es p) = [] := rfl
theorem ne_zero {e} : namesE 0 e = [] := rfl
theorem ac_none : aconst .none = some .none := rfl
theorem ac_bool {b} : aconst (.bool b) = some (.bool b) := rfl
theorem ac_int {i} : aconst (.int i) = some (.int i) := rfl
theorem ac_str {x} : aconst (.str x) = some (.str x) := rfl
theorem ab_name {x p d} : abind sc (.Name x p) d ρ = if sc.names.lookup x = some .local ∨ sc.names.lookup x = some .cell then some (ρ.set x (.val d)) else none := rfl
variable {x y : PyData} {s t : Str} {i j : Int} {p q : Bool} {xs ys : List PyData}
theorem acmp_Eq : acmp .Eq x y = aEq x y := rfl
theorem acmp_NotEq : acmp .NotEq x y = (aEq x y).map not := rfl
theorem acmp_Lt : acmp .Lt (.str s) (.str t) = some (decide (s.cps.toList < t.cps.toList)) := rfl
theorem acmp_Gt : acmp .Gt (.str s) (.str t) = some (decide (t.cps.toList < s.cps.toList)) := rfl
theorem acmp_GtI : acmp .Gt (.int i) (.int j) = some (decide (j < i)) := rfl
theorem acmp_GtE : acmp .GtE (.int i) (.int j) = some (decide (j ≤ i)) := rfl
theorem acmp_In : acmp .In x (.list ys) = aIn x ys := rfl
theorem acmp_NotIn : acmp .NotIn x (.list ys) = (aIn x ys).map not := rfl
theorem acmp_Is : acmp .Is x y = aIs x y := rfl
theorem aEq_str : aEq (.str s) (.str t) = some (s == t) := rfl
theorem aEq_int : aEq (.int i) (.int j) = some (i == j) := rfl
theorem aIs_nn : aIs .none .none = some true := rfl
theorem aIs_sn : aIs (.str s) .none = some false := rfl
theorem abin_str : abin .Add (.str s) (.str t) = if s.length + t.length ≤ LIM then some (.str (s ++ t)) else none := rfl
theorem abin_list : abin .Add (.list xs) (.list ys) = if xs.length + ys.length ≤ LIM then some (.list (xs ++ ys)) else none := rfl
theorem abin_sub : abin .Sub (.bool p) (.bool q) = some (.int (b2i p - b2i q)) := rfl
theorem am_upper : amethod .upper (.str s) [] = if (Txt.upper s).length ≤ LIM then some (.str (Txt.upper s)) else none := rfl
theorem am_find : amethod .find (.str s) [.str t] = some (.int (Txt.find s t)) := rfl
theorem am_join : amethod .join (.str s) [.list xs] = if s.length ≤ 16 then (strsOf xs).bind fun ys => if (ys.map (·.length)).sum + ys.length ≤ LIM then some (.str (Txt.join s ys)) else none else none := rfl
theorem ab_len : abuiltin .len [.list xs] = if xs.length ≤ LIM then some (.int xs.length) else none := rfl
theorem ab_sorted : abuiltin .sorted [.list xs] = (strsOf xs).bind fun ys => if ys.length < 64 then some (.list ((sortS ys).map .str)) else none := rfl
theorem ab_lens : abuiltin .len [.str s] = if s.length ≤ LIM then some (.int s.length) else none := rfl
theorem as_upto : aslice (.list xs) none (some i) none = if 0 ≤ i ∧ xs.length ≤ LIM then some (.list (xs.take i.toNat)) else none := rfl
theorem as_from : aslice (.list xs) (some i) none none = if 0 ≤ i ∧ xs.length ≤ LIM then some (.list (xs.drop i.toNat)) else none := rfl
theorem as_rev : aslice (.list xs) none none (some i) = if i = -1 ∧ xs.length ≤ LIM then some (.list xs.reverse) else none := rfl
theorem as_supto : aslice (.str s) none (some i) none = if 0 ≤ i ∧ s.length ≤ LIM then some (.str ⟨(s.cps.toList.take i.toNat).toArray⟩) else none := rfl
theorem as_sfrom : aslice (.str s) (some i) none none = if 0 ≤ i ∧ s.length ≤ LIM then some (.str ⟨(s.cps.toList.drop i.toNat).toArray⟩) else none := rfl
end
noncomputable def str1 : List PyData → Option Str
  | [.str x] => some x
  | _ => none
noncomputable def str2 : List PyData → Option (Str × Str)
  | [.str x, .str y] => some (x, y)
  | _ => none
noncomputable def lst1 : List PyData → Option (List PyData)
  | [.list xs] => some xs
  | _ => none
theorem str1_some {ds : List PyData} {x : Str} (h : str1 ds = some x) : ds = [.str x] := by
  cases ds with
  | nil => exact none_no h
  | cons a ds => cases a with
    | str y => cases ds with
      | nil => cases h; rfl
      | cons _ _ => exact none_no h
    | _ => exact none_no h
theorem str2_some {ds : List PyData} {x : Str × Str} (h : str2 ds = some x) : ds = [.str x.1, .str x.2] := by
  cases ds with
  | nil => exact none_no h
  | cons a ds => cases a with
    | str y => cases ds with
      | nil => exact none_no h
      | cons b ds => cases b with
        | str z => cases ds with
          | nil => cases h; rfl
          | cons _ _ => exact none_no h
        | _ => exact none_no h
    | _ => exact none_no h
theorem lst1_some {ds : List PyData} {x : List PyData} (h : lst1 ds = some x) : ds = [.list x] := by
  cases ds with
  | nil => exact none_no h
  | cons a ds => cases a with
    | list y => cases ds with
      | nil => cases h; rfl
      | cons _ _ => exact none_no h
    | _ => exact none_no h
noncomputable def two1 : List PyData → Option (PyData × PyData)
  | [a, b] => some (a, b)
  | _ => none
theorem two1_some {ds : List PyData} {x : PyData × PyData} (h : two1 ds = some x) : ds = [x.1, x.2] := by
  cases ds with
  | nil => exact none_no h
  | cons a ds => cases ds with
    | nil => exact none_no h
    | cons b ds => cases ds with
      | nil => cases h; rfl
      | cons _ _ => exact none_no h
noncomputable def seq1 : List PyData → Option (List PyData)
  | [.tuple xs] => some xs
  | [.list xs] => some xs
  | _ => none
theorem seq1_some {ds : List PyData} {x : List PyData} (h : seq1 ds = some x) : ds = [.tuple x] ∨ ds = [.list x] := by
  cases ds with
  | nil => exact none_no h
  | cons a ds => cases a with
    | list y => cases ds with
      | nil => cases h; exact .inr rfl
      | cons _ _ => exact none_no h
    | tuple y => cases ds with
      | nil => cases h; exact .inl rfl
      | cons _ _ => exact none_no h
    | _ => exact none_no h
theorem set_same {ρ : REnv} {x : Str} {v : LV} : (ρ.set x v) x = some v := by simp [REnv.set]
theorem set_other {ρ : REnv} {a b : Str} {v : LV} (h : b ≠ a) : (ρ.set a v) b = ρ b := by
  unfold REnv.set; rw [if_neg h]
noncomputable def Gives (fl : AFlow) (r : Option (AFlow × REnv)) : Prop := ∃ ρ', r = some (fl, ρ')
theorem run_next {Φ : Funs} {ap : List Str} {n : Nat} {sc : Scope} {st : Stmt} {r : List Stmt} {ρ : REnv} {P : Option (AFlow × REnv) → Prop} (h : ∃ ρ1, aexec Φ ap n sc st ρ = some (.next, ρ1) ∧ P (aexecs Φ ap n sc r ρ1)) :
    P (aexecs Φ ap (n + 1) sc (st :: r) ρ) := by
  obtain ⟨ρ1, h1, h2⟩ := h
  rw [x_cons, h1]; exact h2
theorem run_assign {Φ : Funs} {ap : List Str} {n : Nat} {sc : Scope} {x : Str} {q p : Pos} {v : Expr} {r : List Stmt} {ρ : REnv} {d : PyData} {P : Option (AFlow × REnv) → Prop} (hv : aeval Φ n sc v ρ = some d)
    (hk : kindOk sc x = true) (ha : (isEmptyList v && ap.contains x) = false) (h : P (aexecs Φ ap (n + 1) sc r (ρ.set x (.val d)))) : P (aexecs Φ ap (n + 2) sc (.Assign [.Name x q] v p :: r) ρ) := by
  refine run_next ⟨_, ?_, h⟩
  rw [x_assign, if_pos hk, if_neg, hv]
  intro ⟨h1, h2⟩
  rw [h1, h2] at ha; cases ha
theorem x_block {Φ : Funs} {ap : List Str} {n : Nat} {sc : Scope} {t : Expr} {bd r : List Stmt} {pos : Pos} {ρ : REnv} {b : Bool} {v1 v2 : PyData} (ht : atrue Φ n sc t ρ = some b) (hb : aexecs Φ ap n sc bd ρ = some (.ret v1, ρ)) (hr : aexecs Φ ap (n + 1) sc r ρ = some (.ret v2, ρ)) :
    aexecs Φ ap (n + 2) sc (.If t bd [] pos :: r) ρ = some (.ret (if b = true then v1 else v2), ρ) := by
  rw [x_cons, x_if, ht]
  cases b with
  | true => rw [if_pos rfl]; simp only [hb]
  | false =>
    rw [if_neg Bool.false_ne_true]
    cases n with
    | zero => exact none_no ht
    | succ n => simp only [x_nil]; exact hr
theorem x_retc {Φ : Funs} {ap : List Str} {n : Nat} {sc : Scope} {c : Bool} {k : Nat} {p q : Pos} {r : List Stmt} {ρ : REnv} : aexecs Φ ap (n + 3) sc (.Return (some (.Constant (.bool c) k p)) q :: r) ρ = some (.ret (.bool c), ρ) := id rfl
theorem x_block_ret {Φ : Funs} {ap : List Str} {n : Nat} {sc : Scope} {t : Expr} {bd r : List Stmt} {pos : Pos} {ρ ρ' : REnv} {v1 : PyData} (ht : atrue Φ n sc t ρ = some true) (hb : aexecs Φ ap n sc bd ρ = some (.ret v1, ρ')) :
    aexecs Φ ap (n + 2) sc (.If t bd [] pos :: r) ρ = some (.ret v1, ρ') := by
  rw [x_cons, x_if, ht]; simp only [hb]
structure Ctx (w : World) (h₀ : Heap) (mg mb : Str → Option Value) : Prop where
  K : (hd.heap_39 w.params).In h₀
  g : h₀.Ns mainGlobals mg
  b : h₀.Ns builtinsNs mb
  lim : h₀.NoLimit
  bi : ∀ x : Str, x ≠ "__name__" → mb x = bootBuiltins x
section
variable {w : World} {h₀ : Heap} {mg mb : Str → Option Value}
theorem Ctx.base (C : Ctx w h₀ mg mb) : BaseOK h₀ mg mb where
  g := C.g
  b := C.b
  len := ⟨ns_none_of C.K C.g (by with_unfolding_all rfl), (C.bi _ (by decide)).trans (by with_unfolding_all rfl)⟩
  sorted := ⟨ns_none_of C.K C.g (by with_unfolding_all rfl), (C.bi _ (by decide)).trans (by with_unfolding_all rfl)⟩
  range := ⟨ns_none_of C.K C.g (by with_unfolding_all rfl), (C.bi _ (by decide)).trans (by with_unfolding_all rfl)⟩
theorem Ctx.zip (C : Ctx w h₀ mg mb) : mg "zip" = none ∧ mb "zip" = some (.type "zip") := ⟨ns_none_of C.K C.g (by with_unfolding_all rfl), (C.bi _ (by decide)).trans (by with_unfolding_all rfl)⟩
/-- what is checked of a def -/
noncomputable def fdOk (a : Addr) (names : List Str) : Bool :=
  (fn a).closure == [] && (fn a).globals == mainGlobals && (fn a).builtins == builtinsNs && (fn a).scope.kind == .function && !(fn a).scope.isCoroutine && !(fn a).scope.isGenerator &&
  (fn a).scope.names.all (fun p => p.2 != .free) && names.all (fun x => (fn a).scope.names.lookup x == some .local || (fn a).scope.names.lookup x == some .cell)
theorem Ctx.defAt (C : Ctx w h₀ mg mb) {a : Addr} {names : List Str} {c : Value} {d : Option Addr} {sl : Array (Option Value)} (h1 : (hd.heap_39 w.params).lookup a = some ⟨c, d, .func (fn a), sl⟩)
    (h2 : codeIn (hd.heap_39 w.params) (fn a).code (fn a).qualname = true) (h3 : fdOk a names = true) (h4 : (fn a).body = .stmts (stmtsOf (fn a)))
    (h5 : ∀ vals, vals.length = names.length → bindArgs (fn a) ⟨vals, []⟩ = pure (names.zip vals)) (h6 : names.Nodup) : DefAt h₀ a (fn a) (stmtsOf (fn a)) names := by
  unfold fdOk at h3
  simp only [Bool.and_eq_true, beq_iff_eq, Bool.not_eq_true', List.all_eq_true, bne_iff_ne, Bool.or_eq_true] at h3
  obtain ⟨⟨⟨⟨⟨⟨⟨a1, a2⟩, a3⟩, a4⟩, a5⟩, a6⟩, a7⟩, a8⟩ := h3
  exact ⟨⟨_, C.K _ _ h1, rfl⟩, C.lim, codeRec_of C.K h2, h4, a1, a2, a3, h5, h6, a4, a5, a6, a7, a8⟩
theorem bind1 {fd : FuncData} {x : Str} (h : ∀ v, bindArgs fd ⟨[v], []⟩ = pure [(x, v)]) : ∀ vals, vals.length = [x].length → bindArgs fd ⟨vals, []⟩ = pure ([x].zip vals)
  := fun vals hl => by
  obtain ⟨v, rfl⟩ := List.length_eq_one_iff.mp hl
  exact h v
theorem bind2 {fd : FuncData} {x y : Str} (h : ∀ v u, bindArgs fd ⟨[v, u], []⟩ = pure [(x, v), (y, u)]) : ∀ vals, vals.length = [x, y].length → bindArgs fd ⟨vals, []⟩ = pure ([x, y].zip vals)
  := fun vals hl => by
  cases vals with
  | nil => exact absurd hl.symm (Nat.succ_ne_zero _)
  | cons v r =>
    obtain ⟨u, rfl⟩ := List.length_eq_one_iff.mp (Nat.succ.inj hl)
    exact h v u
theorem Ctx.d43 (C : Ctx w h₀ mg mb) : DefAt h₀ 43 (fn 43) (stmtsOf (fn 43)) ["text"] :=
  C.defAt (by with_unfolding_all rfl) (by with_unfolding_all rfl) (by with_unfolding_all decide) (by with_unfolding_all rfl) (bind1 (by intros; with_unfolding_all rfl)) (by decide)
theorem Ctx.d50 (C : Ctx w h₀ mg mb) : DefAt h₀ 50 (fn 50) (stmtsOf (fn 50)) ["text"] :=
  C.defAt (by with_unfolding_all rfl) (by with_unfolding_all rfl) (by with_unfolding_all decide) (by with_unfolding_all rfl) (bind1 (by intros; with_unfolding_all rfl)) (by decide)
theorem Ctx.d57 (C : Ctx w h₀ mg mb) : DefAt h₀ 57 (fn 57) (stmtsOf (fn 57)) ["A", "B"] :=
  C.defAt (by with_unfolding_all rfl) (by with_unfolding_all rfl) (by with_unfolding_all decide) (by with_unfolding_all rfl) (bind2 (by intros; with_unfolding_all rfl)) (by decide)
theorem Ctx.d64 (C : Ctx w h₀ mg mb) : DefAt h₀ 64 (fn 64) (stmtsOf (fn 64)) ["h"] :=
  C.defAt (by with_unfolding_all rfl) (by with_unfolding_all rfl) (by with_unfolding_all decide) (by with_unfolding_all rfl) (bind1 (by intros; with_unfolding_all rfl)) (by decide)
theorem Ctx.d71 (C : Ctx w h₀ mg mb) : DefAt h₀ 71 (fn 71) (stmtsOf (fn 71)) ["a", "b"] :=
  C.defAt (by with_unfolding_all rfl) (by with_unfolding_all rfl) (by with_unfolding_all decide) (by with_unfolding_all rfl) (bind2 (by intros; with_unfolding_all rfl)) (by decide)
theorem Ctx.d78 (C : Ctx w h₀ mg mb) : DefAt h₀ 78 (fn 78) (stmtsOf (fn 78)) ["localetuple"] :=
  C.defAt (by with_unfolding_all rfl) (by with_unfolding_all rfl) (by with_unfolding_all decide) (by with_unfolding_all rfl) (bind1 (by intros; with_unfolding_all rfl)) (by decide)
theorem Ctx.d85 (C : Ctx w h₀ mg mb) : DefAt h₀ 85 (fn 85) (stmtsOf (fn 85)) ["cells"] :=
  C.defAt (by with_unfolding_all rfl) (by with_unfolding_all rfl) (by with_unfolding_all decide) (by with_unfolding_all rfl) (bind1 (by intros; with_unfolding_all rfl)) (by decide)
theorem Ctx.d92 (C : Ctx w h₀ mg mb) : DefAt h₀ 92 (fn 92) (stmtsOf (fn 92)) ["labels"] :=
  C.defAt (by with_unfolding_all rfl) (by with_unfolding_all rfl) (by with_unfolding_all decide) (by with_unfolding_all rfl) (bind1 (by intros; with_unfolding_all rfl)) (by decide)
theorem Ctx.d99 (C : Ctx w h₀ mg mb) : DefAt h₀ 99 (fn 99) (stmtsOf (fn 99)) ["pieces"] :=
  C.defAt (by with_unfolding_all rfl) (by with_unfolding_all rfl) (by with_unfolding_all decide) (by with_unfolding_all rfl) (bind1 (by intros; with_unfolding_all rfl)) (by decide)
theorem Ctx.d104 (C : Ctx w h₀ mg mb) : DefAt h₀ 104 (fn 104) (stmtsOf (fn 104)) ["sets"] :=
  C.defAt (by with_unfolding_all rfl) (by with_unfolding_all rfl) (by with_unfolding_all decide) (by with_unfolding_all rfl) (bind1 (by intros; with_unfolding_all rfl)) (by decide)
theorem Ctx.d109 (C : Ctx w h₀ mg mb) : DefAt h₀ 109 (fn 109) (stmtsOf (fn 109)) ["hosts"] :=
  C.defAt (by with_unfolding_all rfl) (by with_unfolding_all rfl) (by with_unfolding_all decide) (by with_unfolding_all rfl) (bind1 (by intros; with_unfolding_all rfl)) (by decide)
theorem Ctx.d114 (C : Ctx w h₀ mg mb) : DefAt h₀ 114 (fn 114) (stmtsOf (fn 114)) ["sets"] :=
  C.defAt (by with_unfolding_all rfl) (by with_unfolding_all rfl) (by with_unfolding_all decide) (by with_unfolding_all rfl) (bind1 (by intros; with_unfolding_all rfl)) (by decide)
theorem Ctx.d119 (C : Ctx w h₀ mg mb) : DefAt h₀ 119 (fn 119) (stmtsOf (fn 119)) ["sets"] :=
  C.defAt (by with_unfolding_all rfl) (by with_unfolding_all rfl) (by with_unfolding_all decide) (by with_unfolding_all rfl) (bind1 (by intros; with_unfolding_all rfl)) (by decide)
theorem Ctx.d124 (C : Ctx w h₀ mg mb) : DefAt h₀ 124 (fn 124) (stmtsOf (fn 124)) ["row"] :=
  C.defAt (by with_unfolding_all rfl) (by with_unfolding_all rfl) (by with_unfolding_all decide) (by with_unfolding_all rfl) (bind1 (by intros; with_unfolding_all rfl)) (by decide)
theorem Ctx.d129 (C : Ctx w h₀ mg mb) : DefAt h₀ 129 (fn 129) (stmtsOf (fn 129)) ["script"] :=
  C.defAt (by with_unfolding_all rfl) (by with_unfolding_all rfl) (by with_unfolding_all decide) (by with_unfolding_all rfl) (bind1 (by intros; with_unfolding_all rfl)) (by decide)
theorem Ctx.m43 (C : Ctx w h₀ mg mb) : mg "is_HDN" = some (.ref 43) := mg_of C.K C.g (by with_unfolding_all rfl)
theorem Ctx.m50 (C : Ctx w h₀ mg mb) : mg "liberal_is_HDN" = some (.ref 50) := mg_of C.K C.g (by with_unfolding_all rfl)
theorem Ctx.m57 (C : Ctx w h₀ mg mb) : mg "user_domain_match" = some (.ref 57) := mg_of C.K C.g (by with_unfolding_all rfl)
theorem Ctx.m64 (C : Ctx w h₀ mg mb) : mg "reach" = some (.ref 64) := mg_of C.K C.g (by with_unfolding_all rfl)
theorem Ctx.m71 (C : Ctx w h₀ mg mb) : mg "_strcoll" = some (.ref 71) := mg_of C.K C.g (by with_unfolding_all rfl)
theorem Ctx.m78 (C : Ctx w h₀ mg mb) : mg "_build_localename" = some (.ref 78) := mg_of C.K C.g (by with_unfolding_all rfl)
theorem Ctx.m85 (C : Ctx w h₀ mg mb) : mg "_law_rows" = some (.ref 85) := mg_of C.K C.g (by with_unfolding_all rfl)
theorem Ctx.m92 (C : Ctx w h₀ mg mb) : mg "_law_named" = some (.ref 92) := mg_of C.K C.g (by with_unfolding_all rfl)
theorem Ctx.m99 (C : Ctx w h₀ mg mb) : mg "_law_joined" = some (.ref 99) := mg_of C.K C.g (by with_unfolding_all rfl)
theorem Ctx.m104 (C : Ctx w h₀ mg mb) : mg "_law_ordered" = some (.ref 104) := mg_of C.K C.g (by with_unfolding_all rfl)
theorem Ctx.m109 (C : Ctx w h₀ mg mb) : mg "_law_sets" = some (.ref 109) := mg_of C.K C.g (by with_unfolding_all rfl)
theorem Ctx.m114 (C : Ctx w h₀ mg mb) : mg "_law_directory" = some (.ref 114) := mg_of C.K C.g (by with_unfolding_all rfl)
theorem Ctx.m119 (C : Ctx w h₀ mg mb) : mg "_law_cross" = some (.ref 119) := mg_of C.K C.g (by with_unfolding_all rfl)
theorem Ctx.m124 (C : Ctx w h₀ mg mb) : mg "_law_due" = some (.ref 124) := mg_of C.K C.g (by with_unfolding_all rfl)
theorem Ctx.m129 (C : Ctx w h₀ mg mb) : mg "law" = some (.ref 129) := mg_of C.K C.g (by with_unfolding_all rfl)
end
noncomputable def noRho : REnv := fun _ => none
theorem argRho_1 {a : Str} {x : PyData} : argRho [a] [x] = noRho.set a (.val x) := by
  funext y
  unfold argRho REnv.set noRho
  rw [List.zip_cons_cons, lookup_cons_eq]
  split <;> simp
theorem argRho_2 {a b : Str} {x z : PyData} : argRho [a, b] [x, z] = (noRho.set b (.val z)).set a (.val x) := by
  funext y
  unfold argRho REnv.set noRho
  rw [List.zip_cons_cons, lookup_cons_eq, List.zip_cons_cons, lookup_cons_eq]
  split
  · simp
  · split <;> simp
theorem frz1_same {ρ : REnv} {x : Str} {d : PyData} : frz1 x (ρ.set x (.val d)) = ρ.set x (.val d) := frz1_of_not fun ys e => by rw [set_same] at e; cases e
theorem frz1_other {ρ : REnv} {x y : Str} {v : LV} (h : y ≠ x) : frz1 y (ρ.set x v) = (frz1 y ρ).set x v := by
  funext z
  unfold frz1 REnv.set
  by_cases h1 : z = y
  · subst h1; simp [h]
  · simp [h1]
theorem frz1_val {ρ : REnv} {y : Str} {d : PyData} (h : ρ y = some (.val d)) : frz1 y ρ = ρ := frz1_of_not fun ys e => by rw [h] at e; cases e
noncomputable abbrev Fun1 := List PyData → Option PyData
noncomputable def Funs.add (Φ : Funs) (n : Str) (F : Fun1) : Funs := fun f ds => if f = n then F ds else Φ f ds
noncomputable def noFuns : Funs := fun _ _ => none
section
variable {prog : Program} {w : World} {h₀ : Heap} {r r' : Nat} {mg mb : Str → Option Value} {Φ : Funs}
theorem CallOK.mono {a : Addr} {ds : List PyData} {d : PyData} (h : CallOK prog w h₀ r a ds d) (hr : r ≤ r') : CallOK prog w h₀ r' a ds d :=
  fun A s Av vs ha => h A s Av vs ⟨ha.1, by have := ha.2.1; omega, by have := ha.2.2; omega⟩
theorem FunOK.mono (h : FunOK prog w h₀ mg r Φ) (hr : r ≤ r') : FunOK prog w h₀ mg r' Φ := fun f ds d e => by
  obtain ⟨a, fd, o, h1, h2, h3, h4⟩ := h f ds d e
  exact ⟨a, fd, o, h1, h2, h3, h4.mono hr⟩
theorem funOK_no : FunOK prog w h₀ mg r noFuns := fun f ds d e => by cases e
theorem FunOK.add (h : FunOK prog w h₀ mg r Φ) {n : Str} {F : Fun1} {a : Addr} {fd : FuncData} {body : List Stmt} {names : List Str} (hm : mg n = some (.ref a)) (D : DefAt h₀ a fd body names)
    (hF : ∀ ds d, F ds = some d → CallOK prog w h₀ r a ds d) : FunOK prog w h₀ mg r (Φ.add n F) := fun f ds d e => by
  unfold Funs.add at e
  split at e
  · rename_i hf; subst hf
    obtain ⟨o, ho, hd⟩ := D.obj
    exact ⟨a, fd, o, hm, ho, hd, hF ds d e⟩
  · exact h f ds d e
end
noncomputable def missB (t : Array Nat) (p : Nat) : Bool := !(t.getD p 0 == 46) || !Sre.isDigit (t.getD (p + 1) 0) || (decide (p + 2 < t.size) && !Sre.isDigit (t.getD (p + 2) 0) && t.getD (p + 2) 0 != 10)
theorem missB_miss {t : Array Nat} {p : Nat} (h : missB t p = true) : Miss t p := fun h1 h2 => by
  unfold missB at h
  rw [h1, h2] at h
  simp only [beq_self_eq_true, Bool.not_true, Bool.false_or, Bool.and_eq_true, decide_eq_true_eq, Bool.not_eq_true', bne_iff_ne] at h
  exact ⟨h.1.1, h.1.2, h.2⟩
noncomputable def ipv4 (x : Str) : Option Bool :=
  if x.cps.size ≤ LIM then
    if (List.range x.cps.size).all (missB x.cps) = true then some false
    else if (decide (2 ≤ x.cps.size) && (List.range (x.cps.size - 2)).all (missB x.cps) && x.cps.getD (x.cps.size - 2) 0 == 46 && Sre.isDigit (x.cps.getD (x.cps.size - 1) 0)) = true then some true
    else none
  else none
theorem ipv4_finds {x : Str} {b : Bool} (h : ipv4 x = some b) : Finds x b := by
  unfold ipv4 at h
  split at h
  · rename_i hl
    have hl' : x.cps.size ≤ 1000000 := hl
    refine ⟨hl, ?_⟩
    split at h
    · rename_i hm; cases h
      obtain ⟨n, hn, ho⟩ := search_none (text := x.cps) (fun p hp => missB_miss (List.all_eq_true.mp hm p (by simpa using hp)))
      exact ⟨n, by omega, by simpa using ho⟩
    · split at h
      · rename_i hm; cases h
        simp only [Bool.and_eq_true, decide_eq_true_eq, beq_iff_eq] at hm
        obtain ⟨⟨⟨h2, hm⟩, h0⟩, h1⟩ := hm
        obtain ⟨n, hn, ho⟩ := search_some (text := x.cps) (k := x.cps.size - 2) (by omega) (fun p hp => missB_miss (List.all_eq_true.mp hm p (by simpa using hp))) h0 (by rw [show x.cps.size - 2 + 1 = x.cps.size - 1 by omega]; exact h1)
        exact ⟨n, by omega, by simpa using ho⟩
      · cases h
  · cases h
theorem getD_mem {t : Array Nat} {p : Nat} {P : Nat → Prop} (h0 : P 0) (h : ∀ c ∈ t.toList, P c) : P (t.getD p 0) := by
  by_cases hp : p < t.size
  · have : t.getD p 0 = t[p] := by simp [Array.getD, hp]
    rw [this]
    exact h _ (by simp)
  · have : t.getD p 0 = 0 := by simp [Array.getD, hp]
    rw [this]; exact h0
theorem ipv4_plain {x : Str} (hl : x.cps.size ≤ LIM) (h : ∀ c ∈ x.cps.toList, Sre.isDigit c = false) : ipv4 x = some false := by
  unfold ipv4
  rw [if_pos hl, if_pos]
  rw [List.all_eq_true]
  intro p _
  unfold missB
  rw [getD_mem (P := fun c => Sre.isDigit c = false) (by decide) h]
  simp
noncomputable def libF (x : Str) : Option Bool := (ipv4 x).map not
noncomputable def dotEnds (x : Str) : Bool := x.cps.toList.head? == some 46 || x.cps.toList.getLast? == some 46
noncomputable def hdnF (x : Str) : Option Bool := match ipv4 x with
  | none => none
  | some true => some false
  | some false => some (!(x == ("" : Str)) && !dotEnds x)
noncomputable def libFun : Fun1 := fun ds => (str1 ds).bind fun x => (libF x).map .bool
noncomputable def hdnFun : Fun1 := fun ds => (str1 ds).bind fun x => (hdnF x).map .bool
section
variable {prog : Program} {w : World} {h₀ : Heap} {mg mb : Str → Option Value}
theorem Ctx.pat (C : Ctx w h₀ mg mb) : ∃ a o vs c oc items k, mg "IPV4_RE" = some (.ref a) ∧ PatAt h₀ a o vs c oc items k :=
  ⟨36, _, _, 35, _, _, _, mg_of C.K C.g (by with_unfolding_all rfl), ⟨C.K _ _ (by with_unfolding_all rfl), rfl, rfl, rfl, rfl, C.K _ _ (by with_unfolding_all rfl), rfl, by decide +kernel, by decide +kernel, by decide +kernel⟩⟩
theorem ex_ret_bool {r : Nat} {sc : Scope} {ρ : REnv} {b : Bool} {k : Nat} {p q : Pos} : ExsOK prog w h₀ r sc [.Return (some (.Constant (.bool b) k p)) q] ρ (.ret (.bool b)) ρ :=
  exs_stop (ex_return (ys := []) (ev_const rfl)) (by simp)
theorem lib_ok (C : Ctx w h₀ mg mb) : ∀ ds d, libFun ds = some d → CallOK prog w h₀ 1 50 ds d := by
  intro ds d h
  obtain ⟨x, hx, h'⟩ := Option.bind_eq_some_iff.mp h
  clear h
  have e0 := str1_some hx
  subst e0
  have h := h'
  clear hx h'
  · obtain ⟨b, hb, rfl⟩ := Option.map_eq_some_iff.mp h
    obtain ⟨k, hk, rfl⟩ := Option.map_eq_some_iff.mp hb
    obtain ⟨a, o, vs, c, oc, items, n, hm, P⟩ := C.pat
    have hf := ipv4_finds hk
    refine call_exs (ρ' := argRho ["text"] [.str x]) C.d50 rfl ?_
    conv in stmtsOf (fn 50) => whnf
    have ht : ∀ apos pos p q, (apos.endLine == pos.line) = true → TrOK prog w h₀ 0 (fn 50).scope (argRho ["text"] [.str x]) (.Call (.Attribute (.Name "IPV4_RE" p) "search" apos) [.Name "text" q] [] pos) k :=
      fun apos pos p q hp => tr_search C.base hm P (by with_unfolding_all rfl) (ev_name (by with_unfolding_all rfl)) rfl hp hf
    cases k with
    | true => exact exs_stop (ex_if (ht _ _ _ _ rfl) ex_ret_bool) (by simp)
    | false => exact exs_cons (ex_if (ht _ _ _ _ rfl) exs_nil) ex_ret_bool
end
theorem seq_last {n : Nat} (h : 0 < n) : seqIndex? (-1) n = some (n - 1) := by
  unfold seqIndex?
  simp
  omega
theorem asub_str_last {x : Str} {c : Nat} (hl : x.length ≤ LIM) (h : x.cps.toList.getLast? = some c) : asub (.str x) (.int (-1)) = some (.str ⟨#[c]⟩) := by
  rw [List.getLast?_eq_getElem?, cps_len] at h
  have hlt := (List.getElem?_eq_some_iff.mp h).1
  rw [cps_len] at hlt
  show (if -1000 ≤ (-1 : Int) ∧ (-1 : Int) < 1000 then ((seqIndex? (-1) x.length).bind (x.cps[·]?)).map fun c => PyData.str ⟨#[c]⟩ else none) = _
  rw [if_pos (by decide), seq_last (Nat.lt_of_le_of_lt (Nat.zero_le _) hlt), Option.bind_some, ← Array.getElem?_toList, h]; rfl
theorem asub_str_first {x : Str} {c : Nat} (h : x.cps.toList.head? = some c) : asub (.str x) (.int 0) = some (.str ⟨#[c]⟩) := by
  rw [List.head?_eq_getElem?] at h
  have hlt := (List.getElem?_eq_some_iff.mp h).1
  rw [cps_len] at hlt
  have e0 : seqIndex? 0 x.length = some 0 := by
    unfold seqIndex?
    simp; omega
  show (if -1000 ≤ (0 : Int) ∧ (0 : Int) < 1000 then ((seqIndex? 0 x.length).bind (x.cps[·]?)).map fun c => PyData.str ⟨#[c]⟩ else none) = _
  rw [if_pos (by decide), e0, Option.bind_some, ← Array.getElem?_toList, h]; rfl
theorem dot_eq (c : Nat) : ((⟨#[c]⟩ : Str) == ("." : Str)) = (c == 46) := by
  by_cases h : c = 46
  · subst h; decide
  · have : (⟨#[c]⟩ : Str) ≠ ("." : Str) := fun e => h (by
      have e1 : ("." : Str) = ⟨#[46]⟩ := by decide
      rw [e1] at e
      simpa using congrArg (fun s : Str => s.cps) e)
    rw [beq_eq_false_iff_ne.mpr this, beq_eq_false_iff_ne.mpr h]
section
variable {prog : Program} {w : World} {h₀ : Heap} {mg mb : Str → Option Value}
theorem hdn_rest {x : Str} {b : Bool} (hl : x.length ≤ LIM) (hb : b = (!(x == ("" : Str)) && !dotEnds x)) : ∃ ρ', aexecs noFuns [] 20 (fn 43).scope ((stmtsOf (fn 43)).drop 1) (argRho ["text"] [.str x]) = some (.ret (.bool b), ρ') := by
  conv in stmtsOf (fn 43) => whnf
  simp only [List.drop_succ_cons, List.drop_zero]
  by_cases hx : x = ("" : Str)
  · subst hx; subst hb
    refine ⟨argRho ["text"] [.str ""], ?_⟩
    simp (config := {decide := true}) only [x_cons, x_if, x_ret, v_const, v_name, v_acmp, t_cmp, ac_bool, ac_str, aname, set_same, argRho_1, ne_const, frz, if_false, ne_eq, Bool.not_true, beq_self_eq_true, acmp_Eq, aEq_str]
    rfl
  · have hne : x.cps.toList ≠ [] := fun e => hx (by
      obtain ⟨⟨l⟩⟩ := x
      simp at e; subst e; rfl)
    obtain ⟨c, hc⟩ : ∃ c, x.cps.toList.head? = some c := by
      cases h : x.cps.toList with
      | nil => exact absurd h hne
      | cons a l => exact ⟨a, rfl⟩
    obtain ⟨c', hc'⟩ : ∃ c, x.cps.toList.getLast? = some c := ⟨_, List.getLast?_eq_some_getLast hne⟩
    have h1 := asub_str_first hc
    have h2 := asub_str_last hl hc'
    have hxb : (x == ("" : Str)) = false := beq_eq_false_iff_ne.mpr hx
    refine ⟨argRho ["text"] [.str x], ?_⟩
    have hd : dotEnds x = ((c == 46) || (c' == 46)) := by unfold dotEnds; rw [hc, hc']; rfl
    rw [hxb, hd] at hb
    subst hb
    simp (config := {decide := true}) only [x_nil, x_cons, x_if, x_ret, v_const, v_name, v_neg, v_subc, v_subu, v_acmp, t_bool, t_cmp, b_nil, b_or, ac_bool, ac_int, ac_str, aname, set_same, argRho_1, ne_const, frz, if_false, ne_eq, Bool.not_false, acmp_Eq, aEq_str, hxb, h1, h2, dot_eq]
    cases c == 46 <;> cases c' == 46 <;> rfl
theorem hdn_ok (C : Ctx w h₀ mg mb) : ∀ ds d, hdnFun ds = some d → CallOK prog w h₀ 1 43 ds d := by
  intro ds d h
  obtain ⟨x, hx, h'⟩ := Option.bind_eq_some_iff.mp h
  clear h
  have e0 := str1_some hx
  subst e0
  have h := h'
  clear hx h'
  · obtain ⟨b, hb, rfl⟩ := Option.map_eq_some_iff.mp h
    unfold hdnF at hb
    obtain ⟨a, o, vs, c, oc, items, n, hm, P⟩ := C.pat
    have hT : ∀ k, ipv4 x = some k → ∀ apos pos p q, (apos.endLine == pos.line) = true → TrOK prog w h₀ 0 (fn 43).scope (argRho ["text"] [.str x]) (.Call (.Attribute (.Name "IPV4_RE" p) "search" apos) [.Name "text" q] [] pos) k :=
      fun k hk apos pos p q hp => tr_search C.base hm P (by with_unfolding_all rfl) (ev_name (by with_unfolding_all rfl)) rfl hp (ipv4_finds hk)
    split at hb
    · cases hb
    · rename_i hk; cases hb
      refine call_exs (ρ' := argRho ["text"] [.str x]) C.d43 rfl ?_
      conv in stmtsOf (fn 43) => whnf
      exact exs_stop (ex_if (hT _ hk _ _ _ _ rfl) ex_ret_bool) (by simp)
    · rename_i hk; cases hb
      have hl : x.length ≤ LIM := (ipv4_finds hk).1
      obtain ⟨ρ', hr⟩ := hdn_rest (x := x) hl rfl
      refine call_exs (ρ' := ρ') C.d43 rfl ?_
      have hrest := (sndS_all C.base (funOK_no (prog := prog) (w := w) (r := 0)) [] 20).exs _ _ _ _ _ hr
      have : ∃ p apos pos q r2 q2, stmtsOf (fn 43) = .If (.Call (.Attribute (.Name "IPV4_RE" p) "search" apos) [.Name "text" q] [] pos) r2 [] q2 :: (stmtsOf (fn 43)).drop 1 ∧ (apos.endLine == pos.line) = true := ⟨_, _, _, _, _, _, rfl, rfl⟩
      obtain ⟨p, apos, pos, q, r2, q2, e, hp⟩ := this
      rw [e]
      exact exs_cons (ex_if (hT _ hk _ _ _ _ hp) exs_nil) hrest
noncomputable def collF (x y : Str) : Int := b2i (decide (y.cps.toList < x.cps.toList)) - b2i (decide (x.cps.toList < y.cps.toList))
noncomputable def collFun : Fun1 := fun ds => (str2 ds).bind fun p => some (.int (collF p.1 p.2))
theorem collFun_mk {x y} : collFun [.str x, .str y] = some (.int (collF x y)) := rfl
theorem coll_ok (C : Ctx w h₀ mg mb) : ∀ ds d, collFun ds = some d → CallOK prog w h₀ 1 71 ds d := by
  intro ds d h
  obtain ⟨⟨x, y⟩, hx, h'⟩ := Option.bind_eq_some_iff.mp h
  clear h
  have e0 : ds = [.str x, .str y] := str2_some hx
  subst e0
  have h := h'
  clear hx h'
  · cases h
    refine call_ok (ap := []) (n := 20) (ρ' := argRho ["a", "b"] [.str x, .str y]) C.base (funOK_no (r := 0)) C.d71 rfl ?_
    conv in stmtsOf (fn 71) => whnf
    simp (config := {decide := true}) only [x_cons, x_ret, v_name, v_bin, v_cmp, v_acmp, aname, set_same, set_other, argRho_2, ne_bin, frz, if_false, ne_eq, Option.map_some, acmp_Lt, acmp_Gt, abin_sub, collF]
noncomputable def buildF : PyData → PyData → Option PyData
  | .none, .none => some (.str "C")
  | .str x, .none => some (.str x)
  | .none, .str y => if y.length ≤ 500000 then some (.str (("C" : Str) ++ "." ++ y)) else none
  | .str x, .str y => if x.length ≤ 400000 ∧ y.length ≤ 400000 then some (.str (x ++ "." ++ y)) else none
  | _, _ => none
noncomputable def buildFun : Fun1 := fun ds => (seq1 ds).bind fun xs => (two1 xs).bind fun p => buildF p.1 p.2
theorem buildFun_mk {a b} : buildFun [.list [a, b]] = buildF a b := rfl
theorem buildFun_mkt {a b} : buildFun [.tuple [a, b]] = buildF a b := rfl
theorem build_ok (C : Ctx w h₀ mg mb) : ∀ ds d, buildFun ds = some d → CallOK prog w h₀ 1 78 ds d := by
  intro ds d h
  have key : ∀ x a b, (x = .tuple [a, b] ∨ x = .list [a, b]) → buildF a b = some d → ∃ ρ', aexecs noFuns [] 30 (fn 78).scope (stmtsOf (fn 78)) (argRho ["localetuple"] [x]) = some (.ret d, ρ') := by
    intro x a b hx hF
    conv in stmtsOf (fn 78) => whnf
    rw [argRho_1]
    generalize hρ1 : ((noRho.set "localetuple" (.val x)).set "language" (.val a)).set "encoding" (.val b) = ρ1
    have g1 : ρ1 "language" = some (.val a) := by rw [← hρ1]; simp (config := {decide := true}) only [set_same, set_other, ne_eq]
    have g2 : ρ1 "encoding" = some (.val b) := by rw [← hρ1]; simp (config := {decide := true}) only [set_same]
    have hn : aname (noRho.set "localetuple" (.val x)) "localetuple" = some x := (if_neg (by decide)).trans (by rw [set_same])
    have n1 : ∀ x : Str, aIs (.str x) .none = some false := fun _ => rfl
    show Gives (.ret d) _
    rw [x_cons, x_try]
    refine run_next (P := fun r => Gives (.ret d) (match r with | some (.next, ρ') => aexecs noFuns [] _ _ _ ρ' | q => q)) ⟨ρ1, by
      rw [x_unpack, if_pos (by with_unfolding_all decide), hn]
      rcases hx with rfl | rfl <;> rw [← hρ1], ?_⟩
    cases a with
    | none => cases b with
      | none => cases hF; exact ⟨_, by simp (config := {decide := true}) only [x_nil, x_cons, x_assign, x_if, x_ret, v_const, v_name, v_acmp, t_cmp, ac_none, ac_str, aname, set_same, set_other, ne_name, frz, frz1_same, if_true, if_false, ne_eq, g1, g2, acmp_Is, aIs_nn]; rfl⟩
      | str y =>
        obtain ⟨hl, hF⟩ := ite_some hF
        cases hF
        have h1 : abin .Add (.str "C") (.str ".") = some (.str ("C" ++ ".")) := abin_str.trans (if_pos (by decide))
        have h2 : abin .Add (.str ("C" ++ ".")) (.str y) = some (.str ("C" ++ "." ++ y)) := abin_str.trans (if_pos (by
          have : (("C" : Str) ++ ".").length = 2 := by decide
          rw [this]; unfold LIM; omega))
        exact ⟨_, by simp (config := {decide := true}) only [x_nil, x_cons, x_assign, x_if, x_ret, v_const, v_name, v_bin, v_acmp, t_cmp, ac_none, ac_str, aname, set_same, set_other, ne_bin, frz, if_true, if_false, ne_eq, g1, g2, acmp_Is, aIs_nn, aIs_sn, h1, h2]; rfl⟩
      | _ => exact none_no hF
    | str z => cases b with
      | none => cases hF; exact ⟨_, by simp (config := {decide := true}) only [x_nil, x_cons, x_if, x_ret, v_const, v_name, v_acmp, t_cmp, ac_none, aname, ne_name, frz, if_false, ne_eq, g1, g2, frz1_val g1, acmp_Is, aIs_nn, aIs_sn]; rfl⟩
      | str y =>
        obtain ⟨hl, hF⟩ := ite_some hF
        cases hF
        have e1 : ("." : Str).length = 1 := by decide
        have h1 : abin .Add (.str z) (.str ".") = some (.str (z ++ ".")) := abin_str.trans (if_pos (by rw [e1]; unfold LIM; omega))
        have h2 : abin .Add (.str (z ++ ".")) (.str y) = some (.str (z ++ "." ++ y)) := abin_str.trans (if_pos (by rw [Str.length_append, e1]; unfold LIM; omega))
        exact ⟨_, by simp (config := {decide := true}) only [x_nil, x_cons, x_if, x_ret, v_const, v_name, v_bin, v_acmp, t_cmp, ac_none, ac_str, aname, ne_bin, frz, if_false, ne_eq, g1, g2, acmp_Is, aIs_sn, h1, h2]; rfl⟩
      | _ => exact none_no hF
    | _ => exact none_no hF
  obtain ⟨xs, hx, h'⟩ := Option.bind_eq_some_iff.mp h
  obtain ⟨⟨a, b⟩, hy, h2⟩ := Option.bind_eq_some_iff.mp h'
  clear h h'
  have e1 : xs = [a, b] := two1_some hy
  subst e1
  have h : buildF a b = some d := h2
  clear h2 hy
  rcases seq1_some hx with e0 | e0
  all_goals (subst e0; clear hx)
  · obtain ⟨ρ', e⟩ := key _ _ _ (.inl rfl) h
    exact call_ok C.base (funOK_no (r := 0)) C.d78 rfl e
  · obtain ⟨ρ', e⟩ := key _ _ _ (.inr rfl) h
    exact call_ok C.base (funOK_no (r := 0)) C.d78 rfl e
end
theorem meth_lower : methOf (Str.ofString "lower") = some .lower := by with_unfolding_all rfl
theorem meth_upper : methOf (Str.ofString "upper") = some .upper := by with_unfolding_all rfl
theorem meth_startswith : methOf (Str.ofString "startswith") = some .startswith := by with_unfolding_all rfl
theorem meth_endswith : methOf (Str.ofString "endswith") = some .endswith := by with_unfolding_all rfl
theorem meth_find : methOf (Str.ofString "find") = some .find := by with_unfolding_all rfl
theorem meth_join : methOf (Str.ofString "join") = some .join := by with_unfolding_all rfl
theorem meth_count : methOf (Str.ofString "count") = some .count := by with_unfolding_all rfl
theorem blt_len : bltOf (Str.ofString "len") = some .len := by with_unfolding_all rfl
theorem blt_sorted : bltOf (Str.ofString "sorted") = some .sorted := by with_unfolding_all rfl
theorem blt_lib : bltOf (Str.ofString "liberal_is_HDN") = none := by with_unfolding_all rfl
theorem blt_hdn : bltOf (Str.ofString "is_HDN") = none := by with_unfolding_all rfl
theorem blt_udm : bltOf (Str.ofString "user_domain_match") = none := by with_unfolding_all rfl
theorem blt_reach : bltOf (Str.ofString "reach") = none := by with_unfolding_all rfl
theorem blt_coll : bltOf (Str.ofString "_strcoll") = none := by with_unfolding_all rfl
theorem blt_build : bltOf (Str.ofString "_build_localename") = none := by with_unfolding_all rfl
theorem blt_rows : bltOf (Str.ofString "_law_rows") = none := by with_unfolding_all rfl
theorem blt_named : bltOf (Str.ofString "_law_named") = none := by with_unfolding_all rfl
theorem blt_joined : bltOf (Str.ofString "_law_joined") = none := by with_unfolding_all rfl
theorem blt_ordered : bltOf (Str.ofString "_law_ordered") = none := by with_unfolding_all rfl
theorem blt_sets : bltOf (Str.ofString "_law_sets") = none := by with_unfolding_all rfl
theorem blt_directory : bltOf (Str.ofString "_law_directory") = none := by with_unfolding_all rfl
theorem blt_cross : bltOf (Str.ofString "_law_cross") = none := by with_unfolding_all rfl
theorem blt_due : bltOf (Str.ofString "_law_due") = none := by with_unfolding_all rfl
noncomputable def Φ0 : Funs := (((noFuns.add "is_HDN" hdnFun).add "liberal_is_HDN" libFun).add "_strcoll" collFun).add "_build_localename" buildFun
theorem ph0_coll {ds : List PyData} : Φ0 "_strcoll" ds = collFun ds := by
  simp (config := {decide := true}) only [Φ0, Funs.add, if_true, if_false]
theorem ph0_build {ds : List PyData} : Φ0 "_build_localename" ds = buildFun ds := by
  simp (config := {decide := true}) only [Φ0, Funs.add, if_true, if_false]
noncomputable def udmF (A B : Str) : Option Bool :=
  if A.length ≤ 100000 ∧ B.length ≤ 100000 ∧ (Txt.lower A).length ≤ LIM ∧ (Txt.lower B).length ≤ LIM then
    match libF (Txt.lower A), libF (Txt.lower B) with
    | some a, some b => some (if a && b then (if Txt.startswith (Txt.lower B) "." then Txt.endswith (Txt.lower A) (Txt.lower B) else Txt.lower A == Txt.lower B) else Txt.lower A == Txt.lower B)
    | _, _ => none
  else none
noncomputable def udmFun : Fun1 := fun ds => (str2 ds).bind fun p => (udmF p.1 p.2).map .bool
theorem udmFun_mk {x y} : udmFun [.str x, .str y] = (udmF x y).map .bool := rfl
noncomputable def behind (h : Str) (i : Int) : Str := ⟨(h.cps.toList.drop (i + 1).toNat).toArray⟩
noncomputable def reachF (h : Str) : Option Str :=
  if h.length ≤ 100000 then
    if 0 ≤ Txt.find h "." then
      match hdnF h with
      | none => none
      | some k => some (if k && (decide (0 ≤ Txt.find (behind h (Txt.find h ".")) ".") || behind h (Txt.find h ".") == ("local" : Str)) then ("." : Str) ++ behind h (Txt.find h ".") else h)
    else some h
  else none
noncomputable def reachFun : Fun1 := fun ds => (str1 ds).bind fun x => (reachF x).map .str
theorem reachFun_mk {x} : reachFun [.str x] = (reachF x).map .str := rfl
section
variable {prog : Program} {w : World} {h₀ : Heap} {mg mb : Str → Option Value}
theorem fun0 (C : Ctx w h₀ mg mb) : FunOK prog w h₀ mg 1 Φ0 :=
  (((funOK_no.add C.m43 C.d43 (hdn_ok C)).add C.m50 C.d50 (lib_ok C)).add C.m71 C.d71 (coll_ok C)).add C.m78 C.d78 (build_ok C)
theorem udm_ok (C : Ctx w h₀ mg mb) : ∀ ds d, udmFun ds = some d → CallOK prog w h₀ 2 57 ds d := by
  intro ds d h
  obtain ⟨⟨x, y⟩, hx, h'⟩ := Option.bind_eq_some_iff.mp h
  clear h
  have e0 : ds = [.str x, .str y] := str2_some hx
  subst e0
  have h := h'
  clear hx h'
  · obtain ⟨k, hk, rfl⟩ := Option.map_eq_some_iff.mp h
    unfold udmF at hk
    split at hk
    · rename_i hl
      obtain ⟨_, _, l1, l2⟩ := hl
      split at hk
      · rename_i a b ha hb
        cases hk
        have key : ∃ ρ', aexecs Φ0 [] 30 (fn 57).scope (stmtsOf (fn 57)) (argRho ["A", "B"] [.str x, .str y]) = some (.ret (.bool (if a && b then (if Txt.startswith (Txt.lower y) "." then Txt.endswith (Txt.lower x) (Txt.lower y) else Txt.lower x == Txt.lower y) else Txt.lower x == Txt.lower y)), ρ') := by
          conv in stmtsOf (fn 57) => whnf
          have u1 : amethod .lower (.str x) [] = some (.str (Txt.lower x)) := if_pos l1
          have u2 : amethod .lower (.str y) [] = some (.str (Txt.lower y)) := if_pos l2
          generalize Txt.lower x = X at *
          generalize Txt.lower y = Y at *
          rw [argRho_2]
          refine run_assign (P := Gives _) (d := .str X) (by simp (config := {decide := true}) only [v_name, v_meth, e_nil, aname, set_same, if_true, if_false, meth_lower, u1]) (by with_unfolding_all decide) (by with_unfolding_all decide) ?_
          refine run_assign (P := Gives _) (d := .str Y) (by simp (config := {decide := true}) only [v_name, v_meth, e_nil, aname, set_same, set_other, if_true, if_false, ne_eq, meth_lower, u2]) (by with_unfolding_all decide) (by with_unfolding_all decide) ?_
          generalize hρ : REnv.set (REnv.set _ "A" _) "B" _ = ρ
          have fA : ρ "A" = some (.val (.str X)) := by rw [← hρ]; simp (config := {decide := true}) only [set_same, set_other, ne_eq]
          have fB : ρ "B" = some (.val (.str Y)) := by rw [← hρ]; simp (config := {decide := true}) only [set_same]
          have c1 : acmp .Eq (.str X) (.str Y) = some (X == Y) := rfl
          have c2 : amethod .startswith (.str Y) [.str "."] = some (.bool (Txt.startswith Y ".")) := rfl
          have c3 : amethod .endswith (.str X) [.str Y] = some (.bool (Txt.endswith X Y)) := rfl
          have F1 : Φ0 "liberal_is_HDN" [.str X] = some (.bool a) := by show (libF X).map _ = _; rw [ha]; rfl
          have F2 : Φ0 "liberal_is_HDN" [.str Y] = some (.bool b) := by show (libF Y).map _ = _; rw [hb]; rfl
          by_cases hab : (a && b) = true
          · obtain ⟨rfl, rfl⟩ := Bool.and_eq_true_iff.mp hab
            refine run_next (P := Gives _) ⟨ρ, by simp (config := {decide := true}) only [x_nil, x_if, v_name, v_call, t_not, t_bool, t_call, b_nil, b_and, e_nil, e_cons, aname, if_true, if_false, Option.map_some, Bool.not_true, beq_self_eq_true, blt_lib, F1, F2, fA, fB], ?_⟩
            refine run_assign (P := Gives _) (d := .bool (Txt.startswith Y ".")) (by simp (config := {decide := true}) only [v_const, v_name, v_meth, e_nil, e_cons, ac_str, aname, if_true, if_false, meth_startswith, fB, c2]) (by with_unfolding_all decide) (by with_unfolding_all decide) ?_
            generalize hρ2 : ρ.set "initial_dot" _ = ρ2
            have gA : ρ2 "A" = some (.val (.str X)) := by rw [← hρ2]; simp (config := {decide := true}) only [set_other, ne_eq, fA]
            have gB : ρ2 "B" = some (.val (.str Y)) := by rw [← hρ2]; simp (config := {decide := true}) only [set_other, ne_eq, fB]
            have gI : ρ2 "initial_dot" = some (.val (.bool (Txt.startswith Y "."))) := by rw [← hρ2]; simp (config := {decide := true}) only [set_same]
            refine ⟨ρ2, (x_block (v1 := .bool true) (b := Txt.startswith Y "." && Txt.endswith X Y) ?_ x_retc (x_block (v1 := .bool true) (b := !(Txt.startswith Y ".") && (X == Y)) ?_ x_retc x_retc)).trans ?_⟩
            · simp (config := {decide := true}) only [v_name, v_meth, t_bool, t_name, t_call, b_nil, b_and, e_nil, e_cons, aname, if_true, if_false, beq_self_eq_true, meth_endswith, gA, gB, gI, c3]
              cases Txt.startswith Y (Str.ofString ".") <;> cases Txt.endswith X Y <;> rfl
            · simp (config := {decide := true}) only [v_name, v_acmp, t_not, t_bool, t_cmp, t_name, b_nil, b_and, aname, if_false, ne_eq, Option.map_some, beq_self_eq_true, gA, gB, gI, c1]
              cases Txt.startswith Y (Str.ofString ".") <;> cases X == Y <;> rfl
            · cases Txt.startswith Y (Str.ofString ".") <;> cases Txt.endswith X Y <;> cases X == Y <;> rfl
          · rw [if_neg hab]
            refine ⟨ρ, (x_block_ret ?_ ((x_block (b := X == Y) (v1 := .bool true) (v2 := .bool false) ?_ x_retc x_retc).trans ?_))⟩
            · simp (config := {decide := true}) only [v_name, v_call, t_not, t_bool, t_call, b_nil, b_and, e_nil, e_cons, aname, if_true, if_false, beq_self_eq_true, blt_lib, F1, F2, fA, fB]
              cases a <;> cases b <;> first | rfl | exact absurd rfl hab
            · simp (config := {decide := true}) only [v_name, v_acmp, t_cmp, aname, if_false, ne_eq, fA, fB, c1]
            · cases X == Y <;> rfl
        obtain ⟨ρ', e⟩ := key
        exact call_ok C.base (fun0 C) C.d57 rfl e
      · cases hk
    · cases hk
theorem reach_ok (C : Ctx w h₀ mg mb) : ∀ ds d, reachFun ds = some d → CallOK prog w h₀ 2 64 ds d := by
  intro ds d h
  obtain ⟨x, hx, h'⟩ := Option.bind_eq_some_iff.mp h
  clear h
  have e0 := str1_some hx
  subst e0
  have h := h'
  clear hx h'
  · obtain ⟨k, hk, rfl⟩ := Option.map_eq_some_iff.mp h
    have key : ∃ ρ', aexecs Φ0 [] 30 (fn 64).scope (stmtsOf (fn 64)) (argRho ["h"] [.str x]) = some (.ret (.str k), ρ') := by
      unfold reachF at hk
      split at hk
      · rename_i hl
        conv in stmtsOf (fn 64) => whnf
        split at hk
        · rename_i hi
          have hs : aslice (.str x) (some (Txt.find x "." + 1)) none none = some (.str (behind x (Txt.find x "."))) := by
            show (if 0 ≤ Txt.find x "." + 1 ∧ x.length ≤ LIM then _ else _) = _
            rw [if_pos ⟨by omega, by unfold LIM; omega⟩]; rfl
          have hlen : (Str.ofString ".").length + (behind x (Txt.find x ".")).length ≤ LIM := by
            have e1 : (Str.ofString ".").length = 1 := by decide
            have e2 : (behind x (Txt.find x ".")).length ≤ x.length := by
              unfold behind; simp only [Str.length, List.size_toArray, List.length_drop]; simp
            rw [e1]; unfold LIM; omega
          split at hk
          · cases hk
          · rename_i kk hh
            cases hk
            rw [argRho_1]
            have c1 : amethod .find (.str x) [.str "."] = some (.int (Txt.find x ".")) := rfl
            refine run_assign (P := Gives _) (d := .int (Txt.find x ".")) (by simp (config := {decide := true}) only [v_const, v_name, v_meth, e_nil, e_cons, ac_str, aname, set_same, if_true, if_false, meth_find, c1]) (by with_unfolding_all decide) (by with_unfolding_all decide) ?_
            generalize hρ : REnv.set (REnv.set _ "h" _) "i" _ = ρ
            have fh : ρ "h" = some (.val (.str x)) := by rw [← hρ]; simp (config := {decide := true}) only [set_same, set_other, ne_eq]
            have fi : ρ "i" = some (.val (.int (Txt.find x "."))) := by rw [← hρ]; simp (config := {decide := true}) only [set_same]
            generalize hB : behind x (Txt.find x ".") = B at *
            have c2 : amethod .find (.str B) [.str "."] = some (.int (Txt.find B ".")) := rfl
            have c3 : acmp .GtE (.int (Txt.find x ".")) (.int 0) = some true := by show some (decide _) = _; rw [decide_eq_true hi]
            have c4 : acmp .GtE (.int (Txt.find B ".")) (.int 0) = some (decide (0 ≤ Txt.find B ".")) := rfl
            have c5 : acmp .Eq (.str B) (.str "local") = some (B == "local") := rfl
            have c6 : abin .Add (.int (Txt.find x ".")) (.int 1) = some (.int (Txt.find x "." + 1)) := rfl
            have c7 : abin .Add (.str ".") (.str B) = some (.str ("." ++ B)) := if_pos hlen
            have F1 : Φ0 "is_HDN" [.str x] = some (.bool kk) := by show (hdnF x).map _ = _; rw [hh]; rfl
            generalize hρ2 : (ρ.set "b" (.val (.str B))).set "i" (.val (.int (Txt.find B "."))) = ρ2
            have gh : ρ2 "h" = some (.val (.str x)) := by rw [← hρ2]; simp (config := {decide := true}) only [set_other, ne_eq, fh]
            have gb : ρ2 "b" = some (.val (.str B)) := by rw [← hρ2]; simp (config := {decide := true}) only [set_same, set_other, ne_eq]
            have gi : ρ2 "i" = some (.val (.int (Txt.find B "."))) := by rw [← hρ2]; simp (config := {decide := true}) only [set_same]
            by_cases hc : (kk && (decide (0 ≤ Txt.find B ".") || B == ("local" : Str))) = true
            · rw [if_pos hc]
              refine ⟨ρ2, x_block_ret (by simp (config := {decide := true}) only [v_const, v_name, v_acmp, t_cmp, ac_int, aname, if_false, ne_eq, fi, c3]) ?_⟩
              refine run_assign (P := fun r => r = _) (d := .str B) (by simp (config := {decide := true}) only [v_const, v_name, v_bin, v_slice, p_none, p_some, ac_int, aname, if_false, fh, fi, c6, hs]) (by with_unfolding_all decide) (by with_unfolding_all decide) ?_
              refine run_assign (P := fun r => r = _) (d := .int (Txt.find B ".")) (by simp (config := {decide := true}) only [v_const, v_name, v_meth, e_nil, e_cons, ac_str, aname, set_same, if_true, if_false, meth_find, c2]) (by with_unfolding_all decide) (by with_unfolding_all decide) ?_
              rw [hρ2]
              refine x_block_ret ?_ ?_
              · simp (config := {decide := true}) only [v_const, v_name, v_call, v_acmp, t_bool, t_cmp, t_call, b_nil, b_and, b_or, e_nil, e_cons, ac_int, ac_str, aname, if_true, if_false, ne_eq, beq_self_eq_true, blt_hdn, F1, gh, gb, gi, c4, c5]
                revert hc
                cases kk <;> cases decide (0 ≤ Txt.find B (Str.ofString ".")) <;> cases B == Str.ofString "local" <;> intro hc <;> first | rfl | exact absurd hc Bool.false_ne_true
              · simp (config := {decide := true}) only [x_cons, x_ret, v_const, v_name, v_bin, ac_str, aname, ne_bin, frz, if_false, gb, c7]
            · rw [if_neg hc]
              refine run_next (P := Gives _) ⟨ρ2, ?_, ρ2, ?_⟩
              · rw [x_if, (by simp (config := {decide := true}) only [v_const, v_name, v_acmp, t_cmp, ac_int, aname, if_false, ne_eq, fi, c3] : atrue _ _ _ _ ρ = some true)]
                refine run_assign (P := fun r => r = _) (d := .str B) (by simp (config := {decide := true}) only [v_const, v_name, v_bin, v_slice, p_none, p_some, ac_int, aname, if_false, fh, fi, c6, hs]) (by with_unfolding_all decide) (by with_unfolding_all decide) ?_
                refine run_assign (P := fun r => r = _) (d := .int (Txt.find B ".")) (by simp (config := {decide := true}) only [v_const, v_name, v_meth, e_nil, e_cons, ac_str, aname, set_same, if_true, if_false, meth_find, c2]) (by with_unfolding_all decide) (by with_unfolding_all decide) ?_
                rw [hρ2]
                refine run_next (P := fun r => r = _) ⟨ρ2, ?_, x_nil⟩
                rw [x_if, (?_ : atrue _ _ _ _ ρ2 = some false)]
                · exact x_nil
                · simp (config := {decide := true}) only [v_const, v_name, v_call, v_acmp, t_bool, t_cmp, t_call, b_nil, b_and, b_or, e_nil, e_cons, ac_int, ac_str, aname, if_true, if_false, ne_eq, beq_self_eq_true, blt_hdn, F1, gh, gb, gi, c4, c5]
                  revert hc
                  cases kk <;> cases decide (0 ≤ Txt.find B (Str.ofString ".")) <;> cases B == Str.ofString "local" <;> intro hc <;> first | rfl | exact absurd rfl hc
              · simp (config := {decide := true}) only [x_nil, x_cons, x_ret, v_name, aname, ne_name, frz, if_false]
                rw [frz1_val gh]
                simp (config := {decide := true}) only [gh]
        · rename_i hi
          cases hk
          have hi' : decide (0 ≤ Txt.find x (Str.ofString ".")) = false := decide_eq_false hi
          simp (config := {decide := true}) only [x_nil, x_cons, x_assign, x_if, x_ret, v_const, v_name, v_meth, v_acmp, t_cmp, e_nil, e_cons, ac_int, ac_str, aname, set_same, set_other, argRho_1, ne_name, frz, frz1_same, frz1_other, if_true, if_false, ne_eq, meth_find, acmp_GtE, am_find, hi']
          exact ⟨_, rfl⟩
      · cases hk
    obtain ⟨ρ', e⟩ := key
    exact call_ok C.base (fun0 C) C.d64 rfl e
end
theorem aloop_inv {f : PyData → REnv → Option (AFlow × REnv)} {I : List PyData → REnv → Prop} {all : List PyData} (hstep : ∀ done d rest ρ, all = done ++ d :: rest → I done ρ → ∃ ρ', f d ρ = some (.next, ρ') ∧ I (done ++ [d]) ρ') :
    ∀ items done ρ, all = done ++ items → I done ρ → ∃ ρ', aloop f items ρ = some (.next, ρ') ∧ I all ρ'
  | [], done, ρ, e, h => ⟨ρ, rfl, by rw [e, List.append_nil]; exact h⟩
  | d :: r, done, ρ, e, h => by
    obtain ⟨ρ', h1, h2⟩ := hstep done d r ρ e h
    obtain ⟨ρ2, h3, h4⟩ := aloop_inv hstep r (done ++ [d]) ρ' (by rw [e]; simp) h2
    exact ⟨ρ2, by rw [aloop, h1]; exact h3, h4⟩
theorem concatM_list {α β : Type} {f : PyData → Option (List PyData)} {enc : α → PyData} {enc' : β → PyData} (g : α → List β) : ∀ {ls : List α}, (∀ x ∈ ls, f (enc x) = some ((g x).map enc')) → concatM f (ls.map enc) = some ((ls.flatMap g).map enc')
  | [], _ => rfl
  | x :: r, h => by
    show opt2 List.append (f (enc x)) (concatM f (r.map enc)) = _
    rw [h x List.mem_cons_self, concatM_list g (ls := r) fun y hy => h y (List.mem_cons_of_mem _ hy), List.flatMap_cons, List.map_append]
    rfl
theorem strsOf_map (ls : List Str) : strsOf (ls.map .str) = some ls := by
  induction ls with
  | nil => rfl
  | cons x r ih =>
    show (strsOf (r.map .str)).map (x :: ·) = _
    rw [ih]; rfl
theorem strsOf_eq : ∀ {xs : List PyData} {ls : List Str}, strsOf xs = some ls → xs = ls.map .str
  | [], _, h => (Option.some.inj h) ▸ rfl
  | d :: r, ls, h => by
    cases d with
    | str x =>
      obtain ⟨ys, h1, rfl⟩ := Option.map_eq_some_iff.mp h
      rw [strsOf_eq h1]; rfl
    | _ => exact none_no h
theorem run_for {Φ : Funs} {ap : List Str} {n : Nat} {sc : Scope} {x : Str} {q : Pos} {it : Expr} {b r : List Stmt} {pos : Pos} {ρ : REnv} {items : List PyData} (I : List PyData → REnv → Prop) {P : Option (AFlow × REnv) → Prop}
    (hi : aiter Φ n sc it (frz (namesE 1 it) ρ) = some items) (h0 : I [] (frz (namesE 1 it) ρ))
    (hstep : ∀ done d rest ρ, items = done ++ d :: rest → I done ρ → ∃ ρ', (match abind sc (.Name x q) d ρ with
        | some ρ' => aexecs Φ ap n sc b ρ'
        | none => none) = some (.next, ρ') ∧ I (done ++ [d]) ρ')
    (hK : ∀ ρ1, I items ρ1 → P (aexecs Φ ap (n + 1) sc r ρ1)) : P (aexecs Φ ap (n + 2) sc (.For (.Name x q) it b [] pos :: r) ρ) := by
  obtain ⟨ρ1, h1, h2⟩ := aloop_inv (all := items) hstep items [] _ (by simp) h0
  exact run_next ⟨ρ1, by rw [x_for, hi]; exact h1, hK ρ1 h2⟩
theorem str_split {ls : List Str} {done rest : List PyData} {d : PyData} {l1 : List Str} (h : ls.map PyData.str = done ++ d :: rest) (h1 : done = l1.map .str) : ∃ l l2, d = .str l ∧ ls = l1 ++ l :: l2 := by
  subst h1
  have e1 : (ls.map PyData.str).take l1.length = l1.map .str := by rw [h]; simp
  have e2 : (ls.map PyData.str).drop l1.length = d :: rest := by rw [h]; simp
  rw [← List.map_take] at e1
  rw [← List.map_drop] at e2
  have inj : ∀ a b : List Str, a.map PyData.str = b.map .str → a = b := fun a b h => by
    have : Function.Injective PyData.str := fun x y e => by cases e; rfl
    exact (List.map_inj_right (fun x y e => this e)).mp h
  cases hd : ls.drop l1.length with
  | nil => rw [hd] at e2; cases e2
  | cons l l2 =>
    rw [hd] at e2
    simp at e2
    refine ⟨l, l2, e2.1.symm, ?_⟩
    rw [← List.take_append_drop l1.length ls, hd, inj _ _ e1]
noncomputable def name1 (acc : Option Str) (l : Str) : Str := match acc with
  | none => l
  | some n => l ++ "." ++ n
noncomputable def namedS (ls : List Str) : Option Str := ls.foldl (fun acc l => some (name1 acc l)) none
noncomputable def optS : Option Str → PyData
  | none => .none
  | some x => .str x
noncomputable def weigh (ls : List Str) : Nat := (ls.map (fun l => l.length + 1)).sum
noncomputable def namedFun : Fun1 := fun ds => (lst1 ds).bind fun xs => (strsOf xs).bind fun ls => if weigh ls ≤ 10000 then some (optS (namedS ls)) else none
theorem namedFun_mk {xs : List PyData} : namedFun [.list xs] = (strsOf xs).bind fun ls => if weigh ls ≤ 10000 then some (optS (namedS ls)) else none := rfl
theorem weigh_snoc (ls : List Str) (l : Str) : weigh (ls ++ [l]) = weigh ls + (l.length + 1) := by simp [weigh]
theorem weigh_mem {ls : List Str} {l : Str} (h : l ∈ ls) : l.length + 1 ≤ weigh ls := by
  induction ls with
  | nil => simp at h
  | cons x r ih =>
    rcases List.mem_cons.mp h with rfl | h
    · simp [weigh]
    · have := ih h; simp [weigh] at this ⊢; omega
theorem weigh_le {a b : List Str} : weigh a ≤ weigh (a ++ b) := by simp [weigh]
theorem len_le_weigh (ls : List Str) : ls.length ≤ weigh ls := by
  induction ls with
  | nil => simp
  | cons x r ih => simp [weigh] at ih ⊢; omega
theorem namedS_snoc (ls : List Str) (l : Str) : namedS (ls ++ [l]) = some (name1 (namedS ls) l) := by simp [namedS, List.foldl_append]
theorem namedS_len : ∀ (ls : List Str) {n : Str}, namedS ls = some n → n.length ≤ weigh ls := by
  intro ls
  induction ls using snocInd with
  | nil => intro n h; cases h
  | snoc ls l ih =>
    intro n h
    rw [namedS_snoc] at h; cases h
    rw [weigh_snoc]
    cases hn : namedS ls with
    | none => simp [name1]; omega
    | some m =>
      have := ih hn
      have e1 : (Str.ofString ".").length = 1 := by decide
      simp only [name1]
      rw [Str.length_append, Str.length_append, e1]
      omega
theorem build_step {l : Str} {acc : Option Str} (h1 : l.length ≤ 10000) (h2 : ∀ n, acc = some n → n.length ≤ 10000) : buildF (if l = "C" then .none else .str l) (optS acc) = some (.str (name1 acc l)) := by
  cases acc with
  | none =>
    split
    · rename_i e; subst e; rfl
    · rfl
  | some n =>
    have := h2 n rfl
    split
    · rename_i e; subst e
      show (if n.length ≤ 500000 then _ else _) = _
      rw [if_pos (by omega)]; rfl
    · show (if l.length ≤ 400000 ∧ n.length ≤ 400000 then _ else _) = _
      rw [if_pos (by omega)]; rfl
section
variable {prog : Program} {w : World} {h₀ : Heap} {mg mb : Str → Option Value}
theorem named_ok (C : Ctx w h₀ mg mb) : ∀ ds d, namedFun ds = some d → CallOK prog w h₀ 2 92 ds d := by
  intro ds d h
  obtain ⟨xs, hx0, h'⟩ := Option.bind_eq_some_iff.mp h
  clear h
  have e0 := lst1_some hx0
  subst e0
  have h := h'
  clear hx0 h'
  · obtain ⟨ls, hl, h2⟩ := Option.bind_eq_some_iff.mp h
    clear h
    have hx := strsOf_eq hl
    subst hx
    split at h2
    · rename_i hw
      cases h2
      have key : ∃ ρ', aexecs Φ0 [] 30 (fn 92).scope (stmtsOf (fn 92)) (argRho ["labels"] [.list (ls.map .str)]) = some (.ret (optS (namedS ls)), ρ') := by
        conv in stmtsOf (fn 92) => whnf
        refine run_next (P := Gives (.ret (optS (namedS ls)))) ⟨_, by simp (config := {decide := true}) only [x_assign, v_const, ac_none, argRho_1, if_true, if_false]; rfl, ?_⟩
        refine run_for (items := ls.map .str) (fun done ρ => ρ "name" = some (.val (optS (namedS (ls.take done.length)))) ∧ ∃ l1 l2, ls = l1 ++ l2 ∧ done = l1.map PyData.str) ?_ ?_ ?_ ?_
        · simp (config := {decide := true}) only [v_name, v_itname, aname, set_same, set_other, ne_name, frz, frz1_same, frz1_other, if_false, ne_eq]
        · refine ⟨?_, [], ls, rfl, rfl⟩
          simp (config := {decide := true}) only [set_same, ne_name, frz, frz1_same, frz1_other, ne_eq, List.length_nil]
          rfl
        · rintro done d rest ρ e ⟨hn, l1, l2, hl12, hd⟩
          obtain ⟨l, l3, rfl, hl⟩ := str_split e hd
          have hlen : done.length = l1.length := by rw [hd]; simp
          have ht : ls.take done.length = l1 := by rw [hl, hlen]; simp
          rw [ht] at hn
          have hw1 : weigh l1 ≤ 10000 := Nat.le_trans weigh_le (hl ▸ hw)
          have hw2 : l.length ≤ 10000 := by have := weigh_mem (ls := ls) (l := l) (by rw [hl]; simp); omega
          have hb := build_step (l := l) (acc := namedS l1) hw2 (fun n hn => Nat.le_trans (namedS_len _ hn) hw1)
          refine ⟨(ρ.set "label" (.val (.str l))).set "name" (.val (.str (name1 (namedS l1) l))), ?_, ?_, l1 ++ [l], l3, by rw [hl]; simp, by rw [hd]; simp⟩
          · by_cases hC : l = "C"
            · subst hC
              rw [if_pos rfl] at hb
              simp (config := {decide := true}) only [x_nil, x_cons, x_assign, v_const, v_name, v_if, v_tuple, v_call, v_acmp, t_cmp, e_nil, e_cons, ac_none, ac_str, aname, set_same, set_other, ab_name, if_true, if_false, ne_eq, beq_self_eq_true, List.length_cons, List.length_nil, blt_build, acmp_Eq, aEq_str, hn, ph0_build, buildFun_mkt, hb]
            · rw [if_neg hC] at hb
              have hC' : (l == Str.ofString "C") = false := beq_eq_false_iff_ne.mpr hC
              simp (config := {decide := true}) only [x_nil, x_cons, x_assign, v_const, v_name, v_if, v_tuple, v_call, v_acmp, t_cmp, e_nil, e_cons, ac_str, aname, set_same, set_other, ab_name, if_true, if_false, ne_eq, List.length_cons, List.length_nil, blt_build, acmp_Eq, aEq_str, hn, ph0_build, buildFun_mkt, hb, hC']
          · have : ls.take (done ++ [PyData.str l]).length = l1 ++ [l] := by
              rw [hl, show (done ++ [PyData.str l]).length = (l1 ++ [l]).length by simp [hlen], show l1 ++ l :: l3 = (l1 ++ [l]) ++ l3 by simp]; exact List.take_left
            rw [this, namedS_snoc]
            simp (config := {decide := true}) only [set_same]
            rfl
        · rintro ρ1 ⟨hn, _⟩
          rw [List.length_map, List.take_length] at hn
          refine ⟨ρ1, ?_⟩
          simp (config := {decide := true}) only [x_nil, x_cons, x_ret, v_name, aname, ne_name, frz, if_false]
          rw [frz1_val hn]
          simp (config := {decide := true}) only [hn]
      obtain ⟨ρ', e⟩ := key
      exact call_ok C.base (fun0 C) C.d92 rfl e
    · cases h2
end
noncomputable def aheadS (one : Str) (ordered : List Str) : List Str := ordered.flatMap fun o => if collF one o = -1 then [o] else []
noncomputable def insS (ordered : List Str) (one : Str) : List Str := aheadS one ordered ++ [one] ++ ordered.drop (aheadS one ordered).length
noncomputable def orderedS (ls : List Str) : List Str := ls.foldl insS []
noncomputable def orderedFun : Fun1 := fun ds => (lst1 ds).bind fun xs => (strsOf xs).bind fun ls => if ls.length ≤ 1000 then some (.list ((orderedS ls).map .str)) else none
theorem orderedFun_mk {xs : List PyData} : orderedFun [.list xs] = (strsOf xs).bind fun ls => if ls.length ≤ 1000 then some (.list ((orderedS ls).map .str)) else none := rfl
theorem aheadS_len (one : Str) : ∀ l : List Str, (aheadS one l).length ≤ l.length
  | [] => by simp [aheadS]
  | x :: r => by
    have := aheadS_len one r
    unfold aheadS at this ⊢
    rw [List.flatMap_cons, List.length_append, List.length_cons]
    split
    · rw [List.length_singleton]; omega
    · rw [List.length_nil]; omega
theorem insS_len (l : List Str) (one : Str) : (insS l one).length = l.length + 1 := by
  have := aheadS_len one l
  unfold insS
  simp; omega
theorem orderedS_snoc (ls : List Str) (l : Str) : orderedS (ls ++ [l]) = insS (orderedS ls) l := by simp [orderedS, List.foldl_append]
theorem orderedS_len (ls : List Str) : (orderedS ls).length = ls.length := by
  induction ls using snocInd with
  | nil => rfl
  | snoc ls l ih => rw [orderedS_snoc, insS_len, ih]; simp
section
variable {prog : Program} {w : World} {h₀ : Heap} {mg mb : Str → Option Value}
theorem ordered_ok (C : Ctx w h₀ mg mb) : ∀ ds d, orderedFun ds = some d → CallOK prog w h₀ 2 104 ds d := by
  intro ds d h
  obtain ⟨xs, hx0, h'⟩ := Option.bind_eq_some_iff.mp h
  clear h
  have e0 := lst1_some hx0
  subst e0
  have h := h'
  clear hx0 h'
  · obtain ⟨ls, hl, h2⟩ := Option.bind_eq_some_iff.mp h
    clear h
    have hx := strsOf_eq hl
    subst hx
    split at h2
    · rename_i hw
      cases h2
      have key : ∃ ρ', aexecs Φ0 [] 30 (fn 104).scope (stmtsOf (fn 104)) (argRho ["sets"] [.list (ls.map .str)]) = some (.ret (.list ((orderedS ls).map .str)), ρ') := by
        conv in stmtsOf (fn 104) => whnf
        refine run_next (P := Gives (.ret (.list ((orderedS ls).map .str)))) ⟨_, by simp (config := {decide := true}) only [x_assign, v_list, e_nil, argRho_1, if_true, if_false]; rfl, ?_⟩
        refine run_for (items := ls.map .str) (fun done ρ => ρ "ordered" = some (.val (.list ((orderedS (ls.take done.length)).map .str))) ∧ ∃ l1 l2, ls = l1 ++ l2 ∧ done = l1.map PyData.str) ?_ ?_ ?_ ?_
        · simp (config := {decide := true}) only [v_name, v_itname, aname, set_same, set_other, ne_name, frz, frz1_same, frz1_other, if_false, ne_eq]
        · refine ⟨?_, [], ls, rfl, rfl⟩
          simp (config := {decide := true}) only [set_same, ne_name, frz, frz1_same, frz1_other, ne_eq, List.length_nil]
          rfl
        · rintro done d rest ρ e ⟨hn, l1, l2, hl12, hd⟩
          obtain ⟨l, l3, rfl, hl⟩ := str_split e hd
          have hlen : done.length = l1.length := by rw [hd]; simp
          have ht : ls.take done.length = l1 := by rw [hl, hlen]; simp
          rw [ht] at hn
          have ht2 : ls.take (done ++ [PyData.str l]).length = l1 ++ [l] := by
            rw [hl, show (done ++ [PyData.str l]).length = (l1 ++ [l]).length by simp [hlen], show l1 ++ l :: l3 = (l1 ++ [l]) ++ l3 by simp]; exact List.take_left
          have hl1 : l1.length < 1000 := by have := congrArg List.length hl; simp at this; omega
          have h1 : ((orderedS l1).map PyData.str).length ≤ LIM := by rw [List.length_map, orderedS_len]; unfold LIM; omega
          refine ⟨((ρ.set "one" (.val (.str l))).set "ahead" (.val (.list ((aheadS l (orderedS l1)).map .str)))).set "ordered" (.val (.list ((insS (orderedS l1) l).map .str))), ?_, ?_, l1 ++ [l], l3, by rw [hl]; simp, by rw [hd]; simp⟩
          · simp (config := {decide := true}) only [x_nil, x_cons, x_assign, v_const, v_name, v_bin, v_neg, v_list, v_slice, v_call, v_comp, v_acomp, v_loop1, v_ifs0, v_ifs, v_itname, v_acmp, t_cmp, e_nil, e_cons, p_none, p_some, ac_int, aname, set_same, set_other, ab_name, if_true, if_false, ne_eq, and_self, Option.map_some, blt_len, blt_coll, hn, h1, compRho]
            rw [concatM_list (enc := PyData.str) (enc' := PyData.str) (ls := orderedS l1) (fun o => if collF l o = -1 then [o] else []) (fun o _ => by
              by_cases hc : collF l o = -1
              · simp (config := {decide := true}) only [if_true, beq_self_eq_true, ph0_coll, collFun_mk, acmp_Eq, aEq_int, hc, List.map_cons, List.map_nil]
              · have hc' : (collF l o == -1) = false := beq_eq_false_iff_ne.mpr hc
                simp (config := {decide := true}) only [if_false, ph0_coll, collFun_mk, acmp_Eq, aEq_int, hc, hc', List.map_nil])]
            have ha := aheadS_len l (orderedS l1)
            rw [orderedS_len] at ha
            have h2 : ((aheadS l (orderedS l1)).map PyData.str).length ≤ LIM := by rw [List.length_map]; unfold LIM; omega
            have e2 : ((aheadS l (orderedS l1)).map PyData.str).length = (aheadS l (orderedS l1)).length := by simp
            have h3 : (aheadS l (orderedS l1)).length ≤ LIM := by unfold LIM; omega
            have h4 : (0:Int) ≤ ((aheadS l (orderedS l1)).length : Int) := by omega
            have h5 : (aheadS l (orderedS l1)).length + (0 + 1) ≤ LIM := by unfold LIM; omega
            have h6 : (((aheadS l (orderedS l1)).map PyData.str ++ [PyData.str l]).length + (List.drop ((aheadS l (orderedS l1)).length : Int).toNat ((orderedS l1).map PyData.str)).length) ≤ LIM := by simp [orderedS_len]; unfold LIM; omega
            have h7 : (orderedS l1).length ≤ LIM := by rw [orderedS_len]; unfold LIM; omega
            rw [show (orderedS l1).flatMap (fun o => if collF l o = -1 then [o] else []) = aheadS l (orderedS l1) from rfl]
            simp (config := {decide := true}) only [set_same, set_other, if_true, ne_eq, and_self, List.length_cons, List.length_nil, hn, abin_list, ab_len, as_from, List.length_map, h3, h4, h5, h6, h7]
            simp [insS, aheadS]
          · rw [ht2, orderedS_snoc]
            simp (config := {decide := true}) only [set_same]
        · rintro ρ1 ⟨hn, _⟩
          rw [List.length_map, List.take_length] at hn
          refine ⟨ρ1, ?_⟩
          simp (config := {decide := true}) only [x_nil, x_cons, x_ret, v_name, aname, ne_name, frz, if_false]
          rw [frz1_val hn]
          simp (config := {decide := true}) only [hn]
      obtain ⟨ρ', e⟩ := key
      exact call_ok C.base (fun0 C) C.d104 rfl e
    · cases h2
end
theorem seq_nat {i n : Nat} (h : i < n) : seqIndex? (i : Int) n = some i := by
  unfold seqIndex?
  simp
  omega
theorem asub_nat {x : Str} {i c : Nat} (h : x.cps.toList[i]? = some c) (hi : i < 1000) : asub (.str x) (.int (i : Int)) = some (.str ⟨#[c]⟩) := by
  have hlt : i < x.length := by rw [← cps_len]; exact (List.getElem?_eq_some_iff.mp h).1
  show (if -1000 ≤ (i : Int) ∧ (i : Int) < 1000 then ((seqIndex? (i : Int) x.length).bind (x.cps[·]?)).map fun c => PyData.str ⟨#[c]⟩ else none) = _
  rw [if_pos ⟨by omega, by omega⟩, seq_nat hlt, Option.bind_some, ← Array.getElem?_toList, h]; rfl
theorem asub_list {xs : List PyData} {i : Nat} {d : PyData} (h : xs[i]? = some d) (hi : i < 1000) : asub (.list xs) (.int (i : Int)) = some d := by
  show (if 0 ≤ (i : Int) ∧ (i : Int) < 1000 then xs[(i : Int).toNat]? else none) = _
  rw [if_pos ⟨Int.natCast_nonneg i, by omega⟩]; exact h
theorem rangeTo_nat (n : Nat) : rangeTo 0 (n : Int) = (List.range n).map fun i : Nat => .int (i : Int) := by simp [rangeTo]
theorem range_split {n : Nat} {done rest : List PyData} {d : PyData} (h : (List.range n).map (fun i : Nat => PyData.int (i : Int)) = done ++ d :: rest) : d = .int (done.length : Int) ∧ done.length < n := by
  have h1 : ((List.range n).map (fun i : Nat => PyData.int (i : Int)))[done.length]? = some d := by rw [h]; simp
  have hlt : done.length < n := by have := congrArg List.length h; simp at this; omega
  rw [List.getElem?_map, List.getElem?_range hlt] at h1
  simp at h1
  exact ⟨h1.symm, hlt⟩
theorem run_forN {Φ : Funs} {ap : List Str} {n : Nat} {sc : Scope} {x : Str} {it : Expr} {b r : List Stmt} {q pos : Pos} {ρ : REnv} {items : List PyData} (I : List PyData → REnv → Prop) {P : Option (AFlow × REnv) → Prop}
    (hi : aiter Φ n sc it (frz (namesE 1 it) ρ) = some items) (h0 : I [] (frz (namesE 1 it) ρ)) (hx : kindOk sc x = true)
    (hstep : ∀ done d rest ρ, items = done ++ d :: rest → I done ρ → ∃ ρ', aexecs Φ ap n sc b (ρ.set x (.val d)) = some (.next, ρ') ∧ I (done ++ [d]) ρ')
    (hK : ∀ ρ1, I items ρ1 → P (aexecs Φ ap (n + 1) sc r ρ1)) : P (aexecs Φ ap (n + 2) sc (.For (.Name x q) it b [] pos :: r) ρ) :=
  run_for I hi h0 (fun done d rest ρ e h => by
    obtain ⟨ρ', h1, h2⟩ := hstep done d rest ρ e h
    refine ⟨ρ', ?_, h2⟩
    have : abind sc (.Name x q) d ρ = some (ρ.set x (.val d)) := by
      unfold kindOk at hx
      simp only [Bool.or_eq_true, beq_iff_eq] at hx
      exact if_pos hx
    rw [this]; exact h1) hK
theorem run_append {Φ : Funs} {ap : List Str} {n : Nat} {sc : Scope} {x : Str} {q apos pos p : Pos} {e : Expr} {r : List Stmt} {ρ ρ1 : REnv} {d : PyData} {xs : List PyData} {P : Option (AFlow × REnv) → Prop} (hr : frz (namesE 1 e) ρ = ρ1) (he : aeval Φ n sc e ρ1 = some d)
    (hx : ρ x = some (.own xs)) (hl : xs.length < LIM) (hc : (apos.endLine == pos.line) = true ∧ notStar e = true ∧ x ≠ "__debug__" ∧ x ≠ "__classdict__" ∧ (namesE 1 e).contains x = false)
    (h : P (aexecs Φ ap (n + 1) sc r (ρ1.set x (.own (xs ++ [d]))))) : P (aexecs Φ ap (n + 2) sc (.Expr (.Call (.Attribute (.Name x q) "append" apos) [e] [] pos) p :: r) ρ) := by
  refine run_next ⟨_, ?_, h⟩
  rw [x_append, if_pos ⟨rfl, hc⟩, hr, he, hx]
  simp only
  rw [if_pos hl]
theorem call1 {Φ : Funs} {n : Nat} {sc : Scope} {f : Str} {q p : Pos} {args : List Expr} {ρ : REnv} {ds : List PyData} {d : PyData} (ha : aevals Φ n sc args ρ = some ds) (hf : Φ f ds = some d) (hb : bltOf f = none)
    (hc : sc.names.lookup f = some .globalImplicit ∧ f ≠ "__debug__") : aeval Φ (n + 1) sc (.Call (.Name f q) args [] p) ρ = some d := by
  rw [v_call, if_pos hc, ha]
  simp only [hb]
  exact hf
theorem bin1 {Φ : Funs} {n : Nat} {sc : Scope} {op : Operator} {l r : Expr} {p : Pos} {ρ : REnv} {a b d : PyData} (hl : aeval Φ n sc l ρ = some a) (hr : aeval Φ n sc r ρ = some b) (h : abin op a b = some d) :
    aeval Φ (n + 1) sc (.BinOp l op r p) ρ = some d := by
  rw [v_bin, hl, hr]; exact h
theorem args1 {Φ : Funs} {n : Nat} {sc : Scope} {e : Expr} {ρ : REnv} {a : PyData} (h : aeval Φ n sc e ρ = some a) (hn : notStar e = true) (h0 : 0 < n) : aevals Φ (n + 1) sc [e] ρ = some [a] := by
  obtain ⟨m, rfl⟩ : ∃ m, n = m + 1 := ⟨n - 1, by omega⟩
  rw [e_cons, hn, h]; rfl
theorem comp1 {Φ : Funs} {n : Nat} {sc scope : Scope} {elt it : Expr} {x : Str} {q p : Pos} {ifs : List Expr} {ρ : REnv} {α β : Type} {enc : α → PyData} {enc' : β → PyData} {ls : List α} (g : α → List β)
    (hit : aiter Φ n sc it ρ = some (ls.map enc)) (hl : ls.length ≤ LIM) (hl' : (ls.flatMap g).length ≤ LIM)
    (h : ∀ a ∈ ls, (match aifs Φ (n - 1) (relab scope sc) ifs ((compRho scope ρ).set x (.val (enc a))) with
          | none => none
          | some false => some []
          | some true => (aeval Φ (n - 1) (relab scope sc) elt ((compRho scope ρ).set x (.val (enc a)))).map fun x => [x]) = some ((g a).map enc'))
    (hn : 0 < n) (hsc : scopeOk scope sc = true) (ht : scope.names.lookup x ≠ some .free) (hk : (relab scope sc).names.lookup x = some .local ∨ (relab scope sc).names.lookup x = some .cell) :
    aeval Φ (n + 2) sc (.ListComp elt [⟨.Name x q, it, ifs, 0⟩] scope p) ρ = some (.list ((ls.flatMap g).map enc')) := by
  obtain ⟨m, rfl⟩ : ∃ m, n = m + 1 := ⟨n - 1, by omega⟩
  have hT : (targetsOf [(⟨.Name x q, it, ifs, 0⟩ : Comprehension)]).all (fun x => scope.names.lookup x != some .free) = true := by
    show (scope.names.lookup x != some .free && true) = true; rw [Bool.and_true]; exact bne_iff_ne.mpr ht
  have hnone : (compRho scope ρ x).isNone = true := by unfold compRho; rw [if_neg ht]; rfl
  rw [v_comp, v_acomp, if_pos ⟨hsc, hT⟩, hit]
  simp only
  rw [v_loop1, if_pos ⟨rfl, by rw [List.length_map]; exact hl, hk, hnone⟩, concatM_list (enc := enc) (enc' := enc') g h]
  simp only
  rw [if_pos (by rw [List.length_map]; exact hl')]
noncomputable def letterS (j : Nat) : Str := ⟨#[97 + j]⟩
noncomputable def ownS (k : Nat) : Str := ⟨#[115 + k]⟩
theorem letter_at : ∀ j, j < 15 → (Str.ofString "abcdefghijklmno").cps.toList[j]? = some (97 + j) := by decide
theorem own_at : ∀ j, j < 4 → (Str.ofString "stuv").cps.toList[j]? = some (115 + j) := by decide
noncomputable def bitAt (x : Str) (k : Nat) : Bool := x.cps.toList[k]? == some 49
noncomputable def lettersOf (ls : List Str) (k : Nat) : List Str := (List.range ls.length).flatMap fun j => if bitAt (ls.getD j "") k then [letterS j] else []
noncomputable def dirLabels (ls : List Str) (k : Nat) : List Str := ("local" : Str) :: lettersOf ls k ++ [ownS k]
noncomputable def directoryFun : Fun1 := fun ds => (lst1 ds).bind fun xs => (strsOf xs).bind fun ls => if ls.length ≤ 15 ∧ ls.all (fun x => x.length == 4) = true then some (.list ((List.range 4).map fun k => optS (namedS (dirLabels ls k)))) else none
theorem directoryFun_mk {xs : List PyData} : directoryFun [.list xs] = (strsOf xs).bind fun ls => if ls.length ≤ 15 ∧ ls.all (fun x => x.length == 4) = true then some (.list ((List.range 4).map fun k => optS (namedS (dirLabels ls k)))) else none := rfl
theorem weigh_append (a b : List Str) : weigh (a ++ b) = weigh a + weigh b := by simp [weigh]
theorem letters_weigh (ls : List Str) (k : Nat) : weigh (lettersOf ls k) ≤ 2 * ls.length ∧ (lettersOf ls k).length ≤ ls.length := by
  unfold lettersOf
  generalize ls.length = n
  induction n with
  | zero => simp [weigh]
  | succ n ih =>
    rw [List.range_succ, List.flatMap_append, weigh_append, List.length_append]
    simp only [List.flatMap_cons, List.flatMap_nil, List.append_nil]
    split
    · have : weigh [letterS n] = 2 := rfl
      rw [this, List.length_singleton]; omega
    · have : weigh [] = 0 := rfl
      rw [this, List.length_nil]; omega
theorem dir_weigh {ls : List Str} {k : Nat} (hw : ls.length ≤ 15) : weigh (dirLabels ls k) ≤ 10000 := by
  obtain ⟨w1, w2⟩ := letters_weigh ls k
  have e0 : dirLabels ls k = [("local" : Str)] ++ (lettersOf ls k ++ [ownS k]) := rfl
  have e1 : weigh [ownS k] = 2 := rfl
  have e2 : weigh [("local" : Str)] = 6 := by decide
  rw [e0, weigh_append, weigh_append, e1, e2]; omega
theorem one_eq (c : Nat) : ((⟨#[c]⟩ : Str) == Str.ofString "1") = (c == 49) := by
  by_cases h : c = 49
  · subst h; decide
  · have : (⟨#[c]⟩ : Str) ≠ ("1" : Str) := fun e => h (by
      have e1 : ("1" : Str) = ⟨#[49]⟩ := by decide
      rw [e1] at e
      simpa using congrArg (fun s : Str => s.cps) e)
    rw [beq_eq_false_iff_ne.mpr this, beq_eq_false_iff_ne.mpr h]
noncomputable def Φ1 : Funs := (((Φ0.add "user_domain_match" udmFun).add "reach" reachFun).add "_law_named" namedFun).add "_law_ordered" orderedFun
theorem ph1_udm {ds : List PyData} : Φ1 "user_domain_match" ds = udmFun ds := by
  simp (config := {decide := true}) only [Φ1, Φ0, Funs.add, if_true, if_false]
theorem ph1_reach {ds : List PyData} : Φ1 "reach" ds = reachFun ds := by
  simp (config := {decide := true}) only [Φ1, Φ0, Funs.add, if_true, if_false]
theorem ph1_named {ds : List PyData} : Φ1 "_law_named" ds = namedFun ds := by
  simp (config := {decide := true}) only [Φ1, Φ0, Funs.add, if_true, if_false]
theorem ph1_ordered {ds : List PyData} : Φ1 "_law_ordered" ds = orderedFun ds := by
  simp (config := {decide := true}) only [Φ1, Φ0, Funs.add, if_true, if_false]
section
variable {prog : Program} {w : World} {h₀ : Heap} {mg mb : Str → Option Value}
theorem fun1 (C : Ctx w h₀ mg mb) : FunOK prog w h₀ mg 2 Φ1 :=
  (((((fun0 C).mono (by omega)).add C.m57 C.d57 (udm_ok C)).add C.m64 C.d64 (reach_ok C)).add C.m92 C.d92 (named_ok C)).add C.m104 C.d104 (ordered_ok C)
theorem directory_ok (C : Ctx w h₀ mg mb) : ∀ ds d, directoryFun ds = some d → CallOK prog w h₀ 3 114 ds d := by
  intro ds d h
  obtain ⟨xs, hx0, h'⟩ := Option.bind_eq_some_iff.mp h
  clear h
  have e0 := lst1_some hx0
  subst e0
  have h := h'
  clear hx0 h'
  · obtain ⟨ls, hl, h2⟩ := Option.bind_eq_some_iff.mp h
    clear h
    have hx := strsOf_eq hl
    subst hx
    split at h2
    · rename_i hw
      obtain ⟨hw, hall⟩ := hw
      cases h2
      have key : ∃ ρ', aexecs Φ1 ["hosts"] 30 (fn 114).scope (stmtsOf (fn 114)) (argRho ["sets"] [.list (ls.map .str)]) = some (.ret (.list ((List.range 4).map fun k => optS (namedS (dirLabels ls k)))), ρ') := by
        conv in stmtsOf (fn 114) => whnf
        refine run_next (P := Gives (.ret (.list ((List.range 4).map fun k => optS (namedS (dirLabels ls k)))))) ⟨_, by simp (config := {decide := true}) only [x_assign, v_list, e_nil, argRho_1, if_true]; rfl, ?_⟩
        refine run_forN (items := (List.range 4).map fun i : Nat => PyData.int (i : Int)) (fun done ρ => ρ "hosts" = some (.own ((List.range done.length).map fun k => optS (namedS (dirLabels ls k)))) ∧ ρ "sets" = some (.val (.list (ls.map .str)))) ?_ ?_ (by with_unfolding_all decide) ?_ ?_
        · simp (config := {decide := true}) only [v_const, v_call, v_range, e_nil, e_cons, ac_int, ne_call, ne_zero, frz, if_true, List.flatMap_cons, List.flatMap_nil, List.append_nil]
          rfl
        · refine ⟨?_, ?_⟩ <;> simp (config := {decide := true}) only [set_same, set_other, ne_call, ne_zero, frz, ne_eq, List.flatMap_cons, List.flatMap_nil, List.append_nil, List.length_nil]
          rfl
        · rintro done d rest ρ e ⟨hn, hs⟩
          obtain ⟨rfl, hk⟩ := range_split e
          generalize hkk : done.length = k at *
          refine ⟨((ρ.set "k" (.val (.int (k : Int)))).set "labels" (.val (.list ((lettersOf ls k).map .str)))).set "hosts" (.own ((List.range (done ++ [PyData.int (k : Int)]).length).map fun k => optS (namedS (dirLabels ls k)))), ?_, ?_, ?_⟩
          · have e1 : (ls.map PyData.str).length ≤ LIM := by rw [List.length_map]; unfold LIM; omega
            have e2 : (-1000 : Int) ≤ ((ls.map PyData.str).length : Int) := by omega
            have e3 : ((ls.map PyData.str).length : Int) ≤ 1000 := by rw [List.length_map]; omega
            have e4 : rangeTo 0 ((ls.map PyData.str).length : Int) = (List.range ls.length).map fun i : Nat => PyData.int (i : Int) := by rw [List.length_map, rangeTo_nat]
            obtain ⟨w1, w2⟩ := letters_weigh ls k
            refine run_assign (P := fun r => r = some (.next, _)) (comp1 (enc := fun i : Nat => PyData.int (i : Int)) (enc' := PyData.str) (ls := List.range ls.length) (fun j => if bitAt (ls.getD j "") k then [letterS j] else []) ?_ ?_ ?_ ?_ (by decide) (by with_unfolding_all decide) (by with_unfolding_all decide) (by with_unfolding_all decide)) (by with_unfolding_all decide) (by with_unfolding_all decide) ?_
            · simp (config := {decide := true}) only [v_name, v_call, v_range, e_nil, e_cons, aname, set_other, if_true, if_false, ne_eq, and_self, blt_len, hs, ab_len, e1, e2, e3, e4]
            · rw [List.length_range]; unfold LIM; omega
            · show (lettersOf ls k).length ≤ LIM
              unfold LIM; omega
            · intro j hj
              have hj : j < ls.length := by simpa using hj
              have a1 : asub (.list (ls.map PyData.str)) (.int (j : Int)) = some (.str (ls.getD j "")) := asub_list (by simp [hj]) (by omega)
              have hlen : (ls.getD j "").length = 4 := by
                have := List.all_eq_true.mp hall (ls.getD j "") (by simp [List.getD, hj])
                simpa using this
              obtain ⟨c, hc⟩ : ∃ c, (ls.getD j "").cps.toList[k]? = some c := ⟨_, List.getElem?_eq_getElem (by show k < (ls.getD j "").cps.toList.length; rw [Array.length_toList]; have : (ls.getD j "").cps.size = 4 := hlen; omega)⟩
              have a2 : asub (.str (ls.getD j "")) (.int (k : Int)) = some (.str ⟨#[c]⟩) := asub_nat hc (by omega)
              have a3 : asub (.str (Str.ofString "abcdefghijklmno")) (.int (j : Int)) = some (.str (letterS j)) := asub_nat (letter_at j (by omega)) (by omega)
              have a4 := one_eq c
              have a5 : bitAt (ls.getD j "") k = (c == 49) := by unfold bitAt; rw [hc]; rfl
              rw [a5]
              simp (config := {decide := true}) only [v_const, v_name, v_subn, v_ifs0, v_ifs, v_acmp, t_cmp, ac_str, aname, set_same, set_other, if_true, if_false, ne_eq, Option.map_some, compRho, hs, a1, a2, a3, a4, acmp_Eq, aEq_str]
              cases c == 49 <;> rfl
            · refine run_append (P := fun r => r = some (.next, _)) rfl (call1 (args1 (bin1 (bin1 (a := .list [.str "local"]) (b := .list ((lettersOf ls k).map .str)) (d := .list (.str "local" :: (lettersOf ls k).map .str)) ?_ ?_ ?_) (b := .list [.str (ownS k)]) (d := .list ((dirLabels ls k).map .str)) ?_ ?_) rfl (by decide)) (d := optS (namedS (dirLabels ls k))) ?_ blt_named ⟨by with_unfolding_all rfl, by decide⟩) (xs := (List.range k).map fun k => optS (namedS (dirLabels ls k))) ?_ ?_ ?_ ?_
              · simp (config := {decide := true}) only [v_const, v_list, e_nil, e_cons, ac_str, ne_call, ne_zero, frz, if_true, List.flatMap_cons, List.flatMap_nil, List.append_nil]
              · simp (config := {decide := true}) only [v_name, aname, set_same, ne_call, ne_zero, frz, if_false, List.flatMap_cons, List.flatMap_nil, List.append_nil]
                rfl
              · show (if [PyData.str "local"].length + ((lettersOf ls k).map PyData.str).length ≤ LIM then _ else _) = _
                rw [if_pos (by simp; unfold LIM; omega)]; rfl
              · have f4 : asub (.str (Str.ofString "stuv")) (.int (k : Int)) = some (.str (ownS k)) := asub_nat (own_at k hk) (by omega)
                simp (config := {decide := true}) only [v_const, v_name, v_list, v_subn, e_nil, e_cons, ac_str, aname, set_same, set_other, ne_call, ne_zero, frz, if_true, if_false, ne_eq, List.flatMap_cons, List.flatMap_nil, List.append_nil, List.length_cons, List.length_nil, f4]
              · show (if (PyData.str "local" :: (lettersOf ls k).map PyData.str).length + [PyData.str (ownS k)].length ≤ LIM then _ else _) = _
                rw [if_pos (by simp; unfold LIM; omega)]
                simp [dirLabels]
              · have f6 : weigh (dirLabels ls k) ≤ 10000 := dir_weigh hw
                simp (config := {decide := true}) only [if_true, f6, ph1_named, namedFun_mk, strsOf_map, Option.bind_some]
              · simp (config := {decide := true}) only [set_other, ne_eq, hn]
              · rw [List.length_map, List.length_range]; unfold LIM; omega
              · refine ⟨by decide, rfl, by decide, by decide, by decide⟩
              · have f8 : (done ++ [PyData.int (k : Int)]).length = k + 1 := by simp [hkk]
                rw [x_nil, f8, List.range_succ, List.map_append]; rfl
          · simp (config := {decide := true}) only [set_same]
          · simp (config := {decide := true}) only [set_other, ne_eq, hs]
        · rintro ρ1 ⟨hn, hs⟩
          refine ⟨ρ1.set "hosts" (.val (.list ((List.range 4).map fun k => optS (namedS (dirLabels ls k))))), ?_⟩
          simp (config := {decide := true}) only [x_nil, x_cons, x_ret, v_name, aname, ne_name, frz, if_false]
          rw [frz1_of_own hn]
          simp (config := {decide := true}) only [set_same]
          rfl
      obtain ⟨ρ', e⟩ := key
      exact call_ok C.base (fun1 C) C.d114 rfl e
    · cases h2
end
noncomputable def bitsS (l : List Bool) : Str := ⟨(l.map fun b => if b then 49 else 48).toArray⟩
theorem str_ext {x y : Str} (h : x.cps.toList = y.cps.toList) : x = y := by
  obtain ⟨⟨a⟩⟩ := x; obtain ⟨⟨b⟩⟩ := y; simp at h; subst h; rfl
theorem cps_app (x y : Str) : (x ++ y).cps.toList = x.cps.toList ++ y.cps.toList := by
  rw [Str.cps_append, Array.toList_append]
theorem join_flat (sep : Str) (hs : sep.cps.toList = []) : ∀ ls : List Str, (Txt.join sep ls).cps.toList = ls.flatMap (fun x => x.cps.toList)
  | [] => by
    show (Builtin.Str.glued sep []).cps.toList = []
    rw [StrLaws.glued_eq_join]; rfl
  | [x] => by
    show (Builtin.Str.glued sep [x]).cps.toList = _
    rw [StrLaws.glued_eq_join]; simp [Str.join]
  | x :: y :: r => by
    have ih := join_flat sep hs (y :: r)
    show (Builtin.Str.glued sep (x :: y :: r)).cps.toList = _
    have ih' : (Str.join sep (y :: r)).cps.toList = (y :: r).flatMap (fun x => x.cps.toList) := by rw [← StrLaws.glued_eq_join]; exact ih
    rw [StrLaws.glued_eq_join]
    show ((x ++ sep ++ Str.join sep (y :: r))).cps.toList = _
    rw [cps_app, cps_app, hs, ih']
    simp
noncomputable def bit1 (b : Bool) : Str := if b then "1" else "0"
theorem join_bits (l : List Bool) : Txt.join "" (l.map bit1) = bitsS l := by
  apply str_ext
  rw [join_flat _ (by decide)]
  unfold bitsS
  induction l with
  | nil => rfl
  | cons b r ih =>
    rw [List.map_cons, List.flatMap_cons, ih]
    have e1 : ("1" : Str).cps.toList = [49] := by decide
    have e0 : ("0" : Str).cps.toList = [48] := by decide
    cases b <;> simp [bit1, e1, e0]
theorem bit1_len (b : Bool) : (bit1 b).length = 1 := by cases b <;> decide
theorem bits_weigh (l : List Bool) : ((l.map bit1).map (·.length)).sum = l.length := by
  induction l with
  | nil => rfl
  | cons b r ih => simp only [List.map_cons, List.sum_cons, bit1_len, ih, List.length_cons]; omega
theorem join_eval (l : List Bool) (h : l.length ≤ 1000) : amethod .join (.str "") [.list ((l.map bit1).map .str)] = some (.str (bitsS l)) := by
  have e : (Str.ofString "").length ≤ 16 := by decide
  simp only [am_join, strsOf_map, Option.bind_some, if_pos e]
  rw [bits_weigh, List.length_map, if_pos (by unfold LIM; omega), join_bits]
noncomputable def addS (acc : List Str) (s : Str) : List Str := if s ∈ acc then acc else acc ++ [s]
theorem addS_len (acc : List Str) (s : Str) : (addS acc s).length ≤ acc.length + 1 := by unfold addS; split <;> simp
theorem foldl_addS_len (l acc : List Str) : (l.foldl addS acc).length ≤ acc.length + l.length := by
  induction l generalizing acc with
  | nil => simp
  | cons x r ih => rw [List.foldl_cons]; have := ih (addS acc x); have := addS_len acc x; simp; omega
theorem mem_addS {acc : List Str} {s x : Str} : x ∈ addS acc s ↔ x ∈ acc ∨ x = s := by
  unfold addS; split
  · rename_i h; constructor
    · exact .inl
    · rintro (q | rfl); exact q; exact h
  · simp
theorem mem_foldl_addS {l acc : List Str} {x : Str} : x ∈ l.foldl addS acc ↔ x ∈ acc ∨ x ∈ l := by
  induction l generalizing acc with
  | nil => simp
  | cons y r ih => rw [List.foldl_cons, ih, mem_addS, List.mem_cons, or_assoc]
theorem nodup_addS {acc : List Str} {s : Str} (h : acc.Nodup) : (addS acc s).Nodup := by
  unfold addS; split
  · exact h
  · rename_i hn
    rw [List.nodup_append]
    exact ⟨h, by simp, fun a ha b hb => by simp at hb; subst hb; exact fun e => hn (e ▸ ha)⟩
theorem nodup_foldl_addS {l acc : List Str} (h : acc.Nodup) : (l.foldl addS acc).Nodup := by
  induction l generalizing acc with
  | nil => exact h
  | cons y r ih => exact ih (nodup_addS h)
theorem aIn_strs (s : Str) (l : List Str) : aIn (.str s) (l.map .str) = some (decide (s ∈ l)) := by
  induction l with
  | nil => rfl
  | cons x r ih =>
    show opt2 or (some (x == s)) (aIn (.str s) (r.map .str)) = _
    rw [ih]
    refine congrArg some ?_
    by_cases h : x = s
    · subst h; simp
    · have h' : (x == s) = false := beq_eq_false_iff_ne.mpr h
      rw [h']; simp [Ne.symm h]
noncomputable def listsOf : List PyData → Option (List (List Str))
  | [] => some []
  | .list ys :: r => opt2 List.cons (strsOf ys) (listsOf r)
  | _ :: _ => none
noncomputable def encL (l : List Str) : PyData := .list (l.map .str)
theorem listsOf_eq : ∀ {xs : List PyData} {L : List (List Str)}, listsOf xs = some L → xs = L.map encL
  | [], _, h => (Option.some.inj h) ▸ rfl
  | d :: r, L, h => by
    cases d with
    | list ys =>
      obtain ⟨a, b, h1, h2, rfl⟩ := opt2_some h
      rw [listsOf_eq h2, strsOf_eq h1]; rfl
    | _ => exact none_no h
theorem listsOf_map (L : List (List Str)) : listsOf (L.map encL) = some L := by
  induction L with
  | nil => rfl
  | cons l r ih =>
    show opt2 List.cons (strsOf (l.map .str)) (listsOf (r.map encL)) = _
    rw [strsOf_map, ih]; rfl
/-- which of the label lists go on behind the first k of l -/
noncomputable def vecL (L : List (List Str)) (l : List Str) (k : Nat) : List Bool := L.map fun o => decide (o.take k = l.take k) && decide (k < o.length)
noncomputable def onesL (L : List (List Str)) (l : List Str) : List Str := (List.range (l.length - 1)).map fun j => bitsS (vecL L l (j + 1))
noncomputable def dueL (L : List (List Str)) : List Str := (L.flatMap (onesL L)).foldl addS []
noncomputable def dueFun : Fun1 := fun ds => (lst1 ds).bind fun xs => (listsOf xs).bind fun L => if L.length ≤ 10 ∧ L.all (fun l => l.length ≤ 6) = true then some (.list ((sortS (dueL L)).reverse.map .str)) else none
theorem dueFun_mk {xs : List PyData} : dueFun [.list xs] = (listsOf xs).bind fun L => if L.length ≤ 10 ∧ L.all (fun l => l.length ≤ 6) = true then some (.list ((sortS (dueL L)).reverse.map .str)) else none := rfl
theorem lEq_strs (a b : List Str) : lEq (a.map .str) (b.map .str) = some (decide (a = b)) := by
  induction a generalizing b with
  | nil => cases b <;> rfl
  | cons x r ih =>
    cases b with
    | nil => rfl
    | cons y t =>
      show opt2 and (some (x == y)) (lEq (r.map .str) (t.map .str)) = _
      rw [ih]
      refine congrArg some ?_
      by_cases h : x = y
      · subst h; simp
      · have h' : (x == y) = false := beq_eq_false_iff_ne.mpr h
        rw [h']; simp [h]
theorem onesL_len (L : List (List Str)) (l : List Str) : (onesL L l).length = l.length - 1 := by simp [onesL]
theorem due_len {L : List (List Str)} (h1 : L.length ≤ 10) (h2 : ∀ l ∈ L, l.length ≤ 6) : (dueL L).length < 64 := by
  have h3 : ∀ M : List (List Str), (∀ l ∈ M, l.length ≤ 6) → (M.flatMap (onesL L)).length ≤ 5 * M.length := by
    intro M hM
    induction M with
    | nil => simp
    | cons l r ih =>
      rw [List.flatMap_cons, List.length_append, onesL_len, List.length_cons]
      have := ih fun x hx => hM x (by simp [hx])
      have := hM l (by simp)
      omega
  have := foldl_addS_len (L.flatMap (onesL L)) []
  have := h3 L h2
  unfold dueL
  simp at *
  omega
theorem map_at {α : Type} {enc : α → PyData} {ls : List α} {done rest : List PyData} {d : PyData} (h : ls.map enc = done ++ d :: rest) : ∃ l, d = enc l ∧ ls.take (done.length + 1) = ls.take done.length ++ [l] ∧ l ∈ ls ∧ done.length < ls.length ∧ ls[done.length]? = some l := by
  have hlt : done.length < ls.length := by have := congrArg List.length h; simp at this; omega
  have h1 : (ls.map enc)[done.length]? = some d := by rw [h]; simp
  rw [List.getElem?_map, List.getElem?_eq_getElem hlt] at h1
  simp at h1
  exact ⟨ls[done.length], h1.symm, by rw [List.take_add_one, List.getElem?_eq_getElem hlt]; rfl, List.getElem_mem hlt, hlt, List.getElem?_eq_getElem hlt⟩
theorem rangeTo_one (n : Nat) : rangeTo 1 (n : Int) = (List.range (n - 1)).map fun i : Nat => .int ((i + 1 : Nat) : Int) := by
  unfold rangeTo
  have : ((n : Int) - 1).toNat = n - 1 := by omega
  rw [this]
  apply List.map_congr_left
  intro i _
  congr 1
  omega
theorem take_len {α : Type} (a : List α) (d : α) (b : List α) (n : Nat) (h : a.length = n) : (a ++ [d]).length = n + 1 := by simp [h]
theorem meth1 {Φ : Funs} {n : Nat} {sc : Scope} {o : Expr} {m : Str} {apos pos : Pos} {args : List Expr} {ρ : REnv} {a d : PyData} {ds : List PyData} {mm : Meth} (ho : aeval Φ n sc o ρ = some a) (ha : aevals Φ n sc args ρ = some ds) (h : amethod mm a ds = some d)
    (hm : methOf m = some mm) (hc : notCall o = true ∧ (apos.endLine == pos.line) = true ∧ args.length < 29) : aeval Φ (n + 1) sc (.Call (.Attribute o m apos) args [] pos) ρ = some d := by
  rw [v_meth, if_pos hc, hm, ho, ha]; exact h
theorem flat_single {α β : Type} (f : α → β) (l : List α) : l.flatMap (fun x => [f x]) = l.map f := by
  induction l with
  | nil => rfl
  | cons x r ih => simp [List.flatMap_cons, ih]
theorem slice_upto (o : List Str) (k : Nat) (h : o.length ≤ LIM) : aslice (.list (o.map .str)) none (some (k : Int)) none = some (.list ((o.take k).map .str)) := by
  simp only [as_upto]
  rw [if_pos ⟨by omega, by rw [List.length_map]; exact h⟩, List.map_take]; rfl
theorem slice_from (o : List Str) (k : Nat) (h : o.length ≤ LIM) : aslice (.list (o.map .str)) (some (k : Int)) none none = some (.list ((o.drop k).map .str)) := by
  simp only [as_from]
  rw [if_pos ⟨by omega, by rw [List.length_map]; exact h⟩, List.map_drop]; rfl
theorem eq_lists (a b : List Str) : aEq (.list (a.map .str)) (.list (b.map .str)) = some (decide (a = b)) := lEq_strs a b
theorem len_list {o : List Str} (h : o.length ≤ LIM) : abuiltin .len [.list (o.map .str)] = some (.int (o.length : Int)) := by
  simp only [ab_len, List.length_map]
  rw [if_pos h]
theorem gt_nat (a b : Nat) : acmp .Gt (.int (a : Int)) (.int (b : Int)) = some (decide (b < a)) := by
  simp only [acmp_GtI, Option.some.injEq, decide_eq_decide]; omega
section
variable {prog : Program} {w : World} {h₀ : Heap} {mg mb : Str → Option Value}
noncomputable abbrev NextWith (I : REnv → Prop) (r : Option (AFlow × REnv)) : Prop := ∃ ρ', r = some (.next, ρ') ∧ I ρ'
theorem due_ok (C : Ctx w h₀ mg mb) : ∀ ds d, dueFun ds = some d → CallOK prog w h₀ 3 124 ds d := by
  intro ds d h
  obtain ⟨xs, hx0, h'⟩ := Option.bind_eq_some_iff.mp h
  clear h
  have e0 := lst1_some hx0
  subst e0
  have h := h'
  clear hx0 h'
  · obtain ⟨L, hl, h2⟩ := Option.bind_eq_some_iff.mp h
    clear h
    have hx := listsOf_eq hl
    subst hx
    split at h2
    · rename_i hw
      obtain ⟨hw, hall⟩ := hw
      cases h2
      have hall' : ∀ l ∈ L, l.length ≤ 6 := fun l hl => by simpa using List.all_eq_true.mp hall l hl
      have key : ∃ ρ', aexecs Φ1 ["due"] 40 (fn 124).scope (stmtsOf (fn 124)) (argRho ["row"] [.list (L.map encL)]) = some (.ret (.list ((sortS (dueL L)).reverse.map .str)), ρ') := by
        conv in stmtsOf (fn 124) => whnf
        refine run_next (P := Gives (.ret (.list ((sortS (dueL L)).reverse.map .str)))) ⟨_, by simp (config := {decide := true}) only [x_assign, v_list, e_nil, argRho_1, if_true]; rfl, ?_⟩
        refine run_forN (items := L.map encL) (fun done ρ => ρ "due" = some (.own ((((L.take done.length).flatMap (onesL L)).foldl addS []).map .str)) ∧ ρ "row" = some (.val (.list (L.map encL)))) ?_ ?_ (by with_unfolding_all decide) ?_ ?_
        · simp (config := {decide := true}) only [v_name, v_itname, aname, set_same, set_other, ne_name, frz, frz1_same, frz1_other, if_false, ne_eq]
        · refine ⟨?_, ?_⟩ <;> simp (config := {decide := true}) only [set_same, set_other, ne_name, frz, frz1_same, frz1_other, ne_eq, List.length_nil]
          rfl
        · rintro done d rest ρ e ⟨hd, hr⟩
          obtain ⟨l, rfl, ht, hmem, hlt, _⟩ := map_at e
          rw [take_len done (encL l) rest _ rfl, ht, List.flatMap_append, List.foldl_append]
          have hll := hall' l hmem
          generalize hacc : ((L.take done.length).flatMap (onesL L)).foldl addS [] = acc at *
          have hacclen : acc.length ≤ 5 * 10 := by
            rw [← hacc]
            have h3 : ∀ M : List (List Str), (∀ l ∈ M, l.length ≤ 6) → (M.flatMap (onesL L)).length ≤ 5 * M.length := by
              intro M hM
              induction M with
              | nil => simp
              | cons l r ih =>
                rw [List.flatMap_cons, List.length_append, onesL_len, List.length_cons]
                have := ih fun x hx => hM x (by simp [hx])
                have := hM l (by simp)
                omega
            have q1 := foldl_addS_len ((L.take done.length).flatMap (onesL L)) []
            have q2 := h3 (L.take done.length) fun x hx => hall' x (List.mem_of_mem_take hx)
            have q3 : (L.take done.length).length ≤ 10 := by rw [List.length_take]; omega
            simp only [List.length_nil] at q1
            omega
          rw [show [l].flatMap (onesL L) = onesL L l by simp]
          refine run_forN (P := NextWith _) (items := (List.range (l.length - 1)).map fun i : Nat => PyData.int ((i + 1 : Nat) : Int)) (fun done' ρ => ρ "due" = some (.own ((((onesL L l).take done'.length).foldl addS acc).map .str)) ∧ ρ "row" = some (.val (.list (L.map encL))) ∧ ρ "labels" = some (.val (encL l))) ?_ ?_ (by with_unfolding_all decide) ?_ ?_
          · have e1 : (l.map PyData.str).length ≤ LIM := by rw [List.length_map]; unfold LIM; omega
            have e2 : (-1000 : Int) ≤ ((l.map PyData.str).length : Int) := by omega
            have e3 : ((l.map PyData.str).length : Int) ≤ 1000 := by rw [List.length_map]; omega
            have e4 : rangeTo 1 ((l.map PyData.str).length : Int) = (List.range (l.length - 1)).map fun i : Nat => PyData.int ((i + 1 : Nat) : Int) := by rw [List.length_map, rangeTo_one]
            simp (config := {decide := true}) only [v_const, v_name, v_call, v_range, e_nil, e_cons, ac_int, aname, set_same, ne_call, ne_zero, frz, if_true, if_false, and_self, List.flatMap_cons, List.flatMap_nil, List.append_nil, blt_len, encL, ab_len, e1, e2, e3, e4]
          · refine ⟨?_, ?_, ?_⟩ <;> simp (config := {decide := true}) only [set_same, set_other, ne_call, ne_zero, frz, ne_eq, List.flatMap_cons, List.flatMap_nil, List.append_nil, List.length_nil, hd, hr]
            rfl
          · rintro done' d' rest' ρ' e' ⟨hd', hr', hl'⟩
            obtain ⟨j, rfl, _, hjm, hjlt, hj⟩ := map_at e'
            have hjlt' : done'.length < l.length - 1 := by simpa using hjlt
            have hje : j = done'.length := by
              rw [List.getElem?_range hjlt'] at hj
              simpa using hj.symm
            subst hje
            have ht2 : (onesL L l).take (done'.length + 1) = (onesL L l).take done'.length ++ [bitsS (vecL L l (done'.length + 1))] := by
              unfold onesL
              rw [← List.map_take, ← List.map_take, List.take_range, List.take_range, Nat.min_eq_left (by omega), Nat.min_eq_left (by omega), List.range_succ]
              simp
            rw [take_len done' _ rest' _ rfl, ht2, List.foldl_append]
            generalize hacc2 : ((onesL L l).take done'.length).foldl addS acc = acc2 at *
            have hacc2len : acc2.length ≤ 100 := by
              rw [← hacc2]
              have q1 := foldl_addS_len ((onesL L l).take done'.length) acc
              have q2 : ((onesL L l).take done'.length).length ≤ l.length - 1 := by rw [List.length_take, onesL_len]; omega
              omega
            generalize hk : done'.length + 1 = k at *
            refine run_assign (P := NextWith _) (d := .str (bitsS (vecL L l k))) ?_ (by with_unfolding_all decide) (by with_unfolding_all decide) ?_
            · refine meth1 (a := .str "") (args := [_]) ?_ (args1 (comp1 (enc := encL) (enc' := PyData.str) (ls := L) (fun o => [bit1 (decide (o.take k = l.take k) && decide (k < o.length))]) ?_ ?_ ?_ ?_ (by decide) (by with_unfolding_all decide) (by with_unfolding_all decide) (by with_unfolding_all decide)) rfl (by decide)) ?_ meth_join (by decide)
              · simp (config := {decide := true}) only [v_const, ac_str]
              · simp (config := {decide := true}) only [v_name, v_itname, aname, set_other, if_false, ne_eq, hr']
              · unfold LIM; omega
              · rw [flat_single, List.length_map]; unfold LIM; omega
              · intro o ho
                have hol := hall' o ho
                have hol2 : o.length ≤ LIM := by unfold LIM; omega
                have hll2 : l.length ≤ LIM := by unfold LIM; omega
                have a1 := slice_upto o k hol2
                have a2 := slice_upto l k hll2
                have a3 := eq_lists (o.take k) (l.take k)
                have a4 := len_list hol2
                have a5 := gt_nat o.length k
                have e1 : acmp .Eq (.list ((o.take k).map .str)) (.list ((l.take k).map .str)) = some (decide (o.take k = l.take k)) := a3
                simp (config := {decide := true}) only [v_const, v_name, v_if, v_slice, v_call, v_ifs0, v_acmp, t_bool, t_cmp, b_nil, b_and, e_nil, e_cons, p_none, p_some, ac_str, aname, set_same, set_other, if_true, if_false, ne_eq, beq_self_eq_true, blt_len, compRho, hl', encL, a1, a2, e1, a4, a5]
                cases decide (o.take k = l.take k) <;> cases decide (k < o.length) <;> rfl
              · rw [flat_single]
                have : L.map (fun o => bit1 (decide (o.take k = l.take k) && decide (k < o.length))) = (vecL L l k).map bit1 := by
                  unfold vecL; rw [List.map_map]; rfl
                rw [this]
                exact join_eval _ (by unfold vecL; rw [List.length_map]; omega)
            · have hin := aIn_strs (bitsS (vecL L l k)) acc2
              by_cases hm : bitsS (vecL L l k) ∈ acc2
              · rw [decide_eq_true hm] at hin
                refine ⟨(ρ'.set "k" (.val (.int (k : Int)))).set "one" (.val (.str (bitsS (vecL L l k)))), ?_, ?_, ?_, ?_⟩
                · simp (config := {decide := true}) only [x_nil, x_cons, x_if, v_name, v_notin, t_cmp, aname, set_same, set_other, if_false, ne_eq, Option.map_some, Bool.not_true, hd', hin]
                · simp (config := {decide := true}) only [set_other, ne_eq, hd']
                  simp [addS, hm]
                · simp (config := {decide := true}) only [set_other, ne_eq, hr']
                · simp (config := {decide := true}) only [set_other, ne_eq, hl']
              · rw [decide_eq_false hm] at hin
                have e1 : (acc2.map PyData.str).length < LIM := by rw [List.length_map]; unfold LIM; omega
                refine ⟨((ρ'.set "k" (.val (.int (k : Int)))).set "one" (.val (.str (bitsS (vecL L l k))))).set "due" (.own ((acc2 ++ [bitsS (vecL L l k)]).map .str)), ?_, ?_, ?_, ?_⟩
                · simp (config := {decide := true}) only [x_nil, x_cons, x_append, x_if, v_name, v_notin, t_cmp, aname, set_same, set_other, ne_name, frz, frz1_same, if_true, if_false, ne_eq, Option.map_some, Bool.not_false, hd', hin, e1, List.map_append, List.map_cons, List.map_nil]
                · simp (config := {decide := true}) only [set_same]
                  simp [addS, hm]
                · simp (config := {decide := true}) only [set_other, ne_eq, hr']
                · simp (config := {decide := true}) only [set_other, ne_eq, hl']
          · rintro ρ1 ⟨h1, h2, h3⟩
            rw [List.length_map, List.length_range, ← onesL_len L l, List.take_length] at h1
            exact ⟨ρ1, rfl, h1, h2⟩
        · rintro ρ1 ⟨hd, hr⟩
          rw [List.length_map, List.take_length] at hd
          have hlen := due_len hw hall'
          refine ⟨ρ1.set "due" (.val (.list ((dueL L).map .str))), ?_⟩
          have hs : (sortS (dueL L)).length ≤ LIM := by
            unfold sortS; rw [List.length_mergeSort]; unfold LIM; omega
          have hs2 : ((sortS (dueL L)).map PyData.str).length ≤ LIM := by rw [List.length_map]; exact hs
          have hd2 : ρ1 "due" = some (.own ((dueL L).map .str)) := hd
          simp (config := {decide := true}) only [x_nil, x_cons, x_ret, v_const, v_name, v_neg, v_slice, v_call, e_nil, e_cons, p_none, p_some, ac_int, aname, ne_name, ne_call, ne_sub, frz, if_true, if_false, List.flatMap_cons, List.flatMap_nil, List.append_nil, blt_sorted]
          rw [frz1_of_own hd2]
          simp (config := {decide := true}) only [set_same, if_true, and_self, ab_sorted, strsOf_map, Option.bind_some, hlen, as_rev, hs2, List.map_reverse]
      obtain ⟨ρ', e⟩ := key
      exact call_ok C.base (fun1 C) C.d124 rfl e
    · cases h2
end
theorem or_and : (BoolOp.Or == BoolOp.And) = false := rfl
noncomputable def tail1 (r : Str) : Str := ⟨(r.cps.toList.drop 1).toArray⟩
noncomputable def dotted (r : Str) : Bool := r.cps.toList.head? == some 46
noncomputable def stopC (R : List Str) (r : Str) : Bool := decide (r ∈ R) || !dotted r
noncomputable def climb : Nat → List Str → Str → Option (List Str)
  | 0, R, _ => some R
  | k + 1, R, r => if r.length ≤ 1000 ∧ R.length ≤ 1000 then (if stopC R r = true then some R else match reachF (tail1 r) with
      | some r' => climb k (R ++ [r]) r'
      | none => none) else none
noncomputable def rungsStep (acc : Option (List Str)) (h : Str) : Option (List Str) := match acc with
  | none => none
  | some R => if h.length ≤ 1000 then (match reachF h with
      | some r => climb h.length R r
      | none => none) else none
noncomputable def rungsF (hosts : List Str) : Option (List Str) := hosts.foldl rungsStep (some [])
noncomputable def matchF (h r : Str) : Option Bool := if (Txt.upper h).length ≤ LIM then udmF (Txt.upper h) r else none
noncomputable def oneB (hosts : List Str) (r : Str) : List Bool := hosts.map fun h => (matchF h r).getD false
noncomputable def onesF (hosts R : List Str) : List Str := R.map fun r => bitsS (oneB hosts r)
noncomputable def setsFun : Fun1 := fun ds => (lst1 ds).bind fun xs => (strsOf xs).bind fun hosts => (rungsF hosts).bind fun R => if R.length ≤ 900 ∧ hosts.length ≤ 10 ∧ R.all (fun r => hosts.all fun h => (matchF h r).isSome) = true then some (.list ((orderedS ((onesF hosts R).foldl addS [])).map .str)) else none
theorem setsFun_mk {xs : List PyData} : setsFun [.list xs] = (strsOf xs).bind fun hosts => (rungsF hosts).bind fun R => if R.length ≤ 900 ∧ hosts.length ≤ 10 ∧ R.all (fun r => hosts.all fun h => (matchF h r).isSome) = true then some (.list ((orderedS ((onesF hosts R).foldl addS [])).map .str)) else none := rfl
theorem steps_none (l : List Str) : l.foldl rungsStep none = none := by
  induction l with
  | nil => rfl
  | cons x r ih => rw [List.foldl_cons]; exact ih
theorem steps_some {hosts : List Str} {R : List Str} (h : rungsF hosts = some R) (n : Nat) : ∃ R', (hosts.take n).foldl rungsStep (some []) = some R' := by
  unfold rungsF at h
  rw [← List.take_append_drop n hosts, List.foldl_append] at h
  cases hq : (hosts.take n).foldl rungsStep (some []) with
  | none => rw [hq, steps_none] at h; cases h
  | some R' => exact ⟨R', rfl⟩
theorem aloop_climb {f : PyData → REnv → Option (AFlow × REnv)} {J : List Str → Str → REnv → Prop} {K : List Str → REnv → Prop}
    (hstop : ∀ R r d ρ, J R r ρ → r.length ≤ 1000 → stopC R r = true → ∃ ρ', f d ρ = some (.brk, ρ') ∧ K R ρ')
    (hgo : ∀ R r r' d ρ, J R r ρ → r.length ≤ 1000 → R.length ≤ 1000 → stopC R r = false → reachF (tail1 r) = some r' → ∃ ρ', f d ρ = some (.next, ρ') ∧ J (R ++ [r]) r' ρ')
    (hend : ∀ R r ρ, J R r ρ → K R ρ) : ∀ (items : List PyData) R r R' ρ, climb items.length R r = some R' → J R r ρ → ∃ ρ', aloop f items ρ = some (.next, ρ') ∧ K R' ρ'
  | [], R, r, R', ρ, h, hJ => by
    simp only [List.length_nil, climb] at h; cases h
    exact ⟨ρ, rfl, hend _ _ _ hJ⟩
  | d :: items, R, r, R', ρ, h, hJ => by
    simp only [List.length_cons, climb] at h
    split at h
    · rename_i hl
      split at h
      · rename_i hs; cases h
        obtain ⟨ρ', h1, h2⟩ := hstop R r d ρ hJ hl.1 hs
        exact ⟨ρ', by rw [aloop, h1], h2⟩
      · rename_i hs
        split at h
        · rename_i r' hr
          obtain ⟨ρ', h1, h2⟩ := hgo R r r' d ρ hJ hl.1 hl.2 (by simpa using hs) hr
          obtain ⟨ρ2, h3, h4⟩ := aloop_climb hstop hgo hend items (R ++ [r]) r' R' ρ' h h2
          exact ⟨ρ2, by rw [aloop, h1]; exact h3, h4⟩
        · cases h
    · cases h
theorem run_forG {Φ : Funs} {ap : List Str} {n : Nat} {sc : Scope} {x : Str} {it : Expr} {b r : List Stmt} {q pos : Pos} {ρ : REnv} {items : List PyData} (I : REnv → Prop) {P : Option (AFlow × REnv) → Prop}
    (hi : aiter Φ n sc it (frz (namesE 1 it) ρ) = some items) (hx : kindOk sc x = true)
    (hloop : ∃ ρ1, aloop (fun d ρ => aexecs Φ ap n sc b (ρ.set x (.val d))) items (frz (namesE 1 it) ρ) = some (.next, ρ1) ∧ I ρ1)
    (hK : ∀ ρ1, I ρ1 → P (aexecs Φ ap (n + 1) sc r ρ1)) : P (aexecs Φ ap (n + 2) sc (.For (.Name x q) it b [] pos :: r) ρ) := by
  obtain ⟨ρ1, h1, h2⟩ := hloop
  refine run_next ⟨ρ1, ?_, hK ρ1 h2⟩
  rw [x_for, hi]
  simp only
  rw [← h1]
  congr 1
  funext d ρ
  have : abind sc (.Name x q) d ρ = some (ρ.set x (.val d)) := by
    unfold kindOk at hx
    simp only [Bool.or_eq_true, beq_iff_eq] at hx
    exact if_pos hx
  rw [this]
theorem dotted_eq (r : Str) : ((⟨(r.cps.toList.take 1).toArray⟩ : Str) == Str.ofString ".") = dotted r := by
  obtain ⟨⟨l⟩⟩ := r
  unfold dotted
  cases l with
  | nil => decide
  | cons a l =>
    have := dot_eq a
    simp only [List.take_succ_cons, List.take_zero, List.head?_cons]
    rw [show (⟨[a].toArray⟩ : Str) = ⟨#[a]⟩ from rfl, this]
    by_cases h : a = 46 <;> simp [h]
section
variable {prog : Program} {w : World} {h₀ : Heap} {mg mb : Str → Option Value}
theorem sets_ok (C : Ctx w h₀ mg mb) : ∀ ds d, setsFun ds = some d → CallOK prog w h₀ 3 109 ds d := by
  intro ds d h
  obtain ⟨xs, hx, h'⟩ := Option.bind_eq_some_iff.mp h
  have e0 := lst1_some hx
  subst e0
  clear h hx
  · obtain ⟨hosts, hl, h⟩ := Option.bind_eq_some_iff.mp h'
    · have hx := strsOf_eq hl
      subst hx
      obtain ⟨R, hR, h⟩ := Option.bind_eq_some_iff.mp h
      · obtain ⟨hw, h⟩ := ite_some h
        · obtain ⟨hRl, hhl, hall⟩ := hw
          cases h
          have key : ∃ ρ', aexecs Φ1 ["rungs", "sets"] 40 (fn 109).scope (stmtsOf (fn 109)) (argRho ["hosts"] [.list (hosts.map .str)]) = some (.ret (.list ((orderedS ((onesF hosts R).foldl addS [])).map .str)), ρ') := by
            conv in stmtsOf (fn 109) => whnf
            refine run_next (P := Gives (.ret (.list ((orderedS ((onesF hosts R).foldl addS [])).map .str)))) ⟨_, by simp (config := {decide := true}) only [x_assign, v_list, e_nil, argRho_1, if_true]; rfl, ?_⟩
            refine run_forN (items := hosts.map .str) (fun done ρ => ∃ R', (hosts.take done.length).foldl rungsStep (some []) = some R' ∧ ρ "rungs" = some (.own (R'.map .str)) ∧ ρ "hosts" = some (.val (.list (hosts.map .str)))) ?_ ?_ (by with_unfolding_all decide) ?_ ?_
            · simp (config := {decide := true}) only [v_name, v_itname, aname, set_same, set_other, ne_name, frz, frz1_same, frz1_other, if_false, ne_eq]
            · refine ⟨[], rfl, ?_, ?_⟩ <;> simp (config := {decide := true}) only [set_same, set_other, ne_name, frz, frz1_same, frz1_other, ne_eq]
              rfl
            · rintro done d rest ρ e ⟨R1, hR1, hr, hh⟩
              obtain ⟨l, rfl, ht, hmem, hlt, _⟩ := map_at e
              obtain ⟨R2, hR2⟩ := steps_some hR (done.length + 1)
              have hR2' := hR2
              rw [ht, List.foldl_append, hR1] at hR2'
              simp only [List.foldl_cons, List.foldl_nil, rungsStep] at hR2'
              split at hR2'
              · rename_i hll
                split at hR2'
                · rename_i r0 hr0
                  rw [take_len done (.str l) rest _ rfl, hR2]
                  refine run_next (P := NextWith _) ⟨_, by simp (config := {decide := true}) only [x_assign, v_name, v_call, e_nil, e_cons, aname, set_same, if_true, if_false, Option.map_some, blt_reach, ph1_reach, reachFun_mk, hr0]; rfl, ?_⟩
                  refine run_forG (P := NextWith _) (items := (List.range l.length).map fun i : Nat => PyData.int (i : Int)) (fun ρ1 => ρ1 "rungs" = some (.own (R2.map .str)) ∧ ρ1 "hosts" = some (.val (.list (hosts.map .str)))) ?_ (by with_unfolding_all decide) ?_ ?_
                  · have e1 : l.length ≤ LIM := by unfold LIM; omega
                    have e2 : (-1000 : Int) ≤ (l.length : Int) := by omega
                    have e3 : (l.length : Int) ≤ 1000 := by omega
                    simp (config := {decide := true}) only [v_name, v_call, v_range, e_nil, e_cons, aname, set_same, set_other, ne_call, ne_zero, frz, if_true, if_false, ne_eq, and_self, List.flatMap_cons, List.flatMap_nil, List.append_nil, blt_len, ab_lens, e1, e2, e3, rangeTo_nat]
                  · refine aloop_climb (J := fun R r ρ => ρ "rungs" = some (.own (R.map .str)) ∧ ρ "rung" = some (.val (.str r)) ∧ ρ "hosts" = some (.val (.list (hosts.map .str)))) (K := fun R ρ => ρ "rungs" = some (.own (R.map .str)) ∧ ρ "hosts" = some (.val (.list (hosts.map .str)))) ?_ ?_ ?_ _ R1 r0 R2 _ (by rw [List.length_map, List.length_range]; exact hR2') ?_
                    · rintro R' r d ρ' ⟨j1, j2, j3⟩ hrl hs
                      have a1 := aIn_strs r R'
                      have a2 : aslice (.str r) none (some 1) none = some (.str ⟨(r.cps.toList.take 1).toArray⟩) := by
                        simp only [as_supto]; rw [if_pos ⟨by omega, by unfold LIM; omega⟩]; rfl
                      have a3 := dotted_eq r
                      refine ⟨ρ'.set "k" (.val d), ?_, ?_, ?_⟩
                      · unfold stopC at hs
                        cases h1 : decide (r ∈ R')
                        · rw [h1, Bool.false_or, Bool.not_eq_true'] at hs
                          rw [h1] at a1; rw [hs] at a3
                          simp (config := {decide := true}) only [x_cons, x_if, x_break, v_const, v_name, v_slice, v_acmp, v_in, t_bool, t_cmp, b_or, p_none, p_some, ac_int, ac_str, aname, set_other, if_false, ne_eq, Option.map_some, Bool.not_false, j1, j2, a1, a2, acmp_NotEq, aEq_str, a3]
                        · rw [h1] at a1
                          simp (config := {decide := true}) only [x_cons, x_if, x_break, v_name, v_in, t_bool, t_cmp, b_or, aname, set_other, if_false, ne_eq, j1, j2, a1]
                      · simp (config := {decide := true}) only [set_other, ne_eq, j1]
                      · simp (config := {decide := true}) only [set_other, ne_eq, j3]
                    · rintro R' r r' d ρ' ⟨j1, j2, j3⟩ hrl hRl' hs hre
                      have a1 := aIn_strs r R'
                      have a2 : aslice (.str r) none (some 1) none = some (.str ⟨(r.cps.toList.take 1).toArray⟩) := by
                        simp only [as_supto]; rw [if_pos ⟨by omega, by unfold LIM; omega⟩]; rfl
                      have a3 := dotted_eq r
                      have a4 : aslice (.str r) (some 1) none none = some (.str (tail1 r)) := by
                        simp only [as_sfrom]; rw [if_pos ⟨by omega, by unfold LIM; omega⟩]; rfl
                      have a5 : (R'.map PyData.str).length < LIM := by rw [List.length_map]; unfold LIM; omega
                      have a6 := frz1_val j2
                      unfold stopC at hs
                      simp only [Bool.or_eq_false_iff, Bool.not_eq_false'] at hs
                      rw [hs.1] at a1; rw [hs.2] at a3
                      refine ⟨((ρ'.set "k" (.val d)).set "rungs" (.own ((R' ++ [r]).map .str))).set "rung" (.val (.str r')), ?_, ?_, ?_, ?_⟩
                      · simp (config := {decide := true}) only [x_nil, x_cons, x_assign, x_append, x_if, v_const, v_name, v_slice, v_call, v_acmp, v_in, t_bool, t_cmp, b_nil, b_or, e_nil, e_cons, p_none, p_some, ac_int, ac_str, aname, set_other, ne_name, frz, frz1_other, if_true, if_false, ne_eq, Option.map_some, Bool.not_true, blt_reach, or_and, j1, j2, a1, a2, acmp_NotEq, aEq_str, a3, a4, a5, a6, ph1_reach, reachFun_mk, hre, List.map_append, List.map_cons, List.map_nil]
                      · simp (config := {decide := true}) only [set_same, set_other, ne_eq]
                      · simp (config := {decide := true}) only [set_same]
                      · simp (config := {decide := true}) only [set_other, ne_eq, j3]
                    · rintro R' r ρ' ⟨j1, _, j3⟩
                      exact ⟨j1, j3⟩
                    · refine ⟨?_, ?_, ?_⟩ <;> simp (config := {decide := true}) only [set_same, set_other, ne_call, ne_zero, frz, ne_eq, List.flatMap_cons, List.flatMap_nil, List.append_nil, hr, hh]
                  · rintro ρ1 ⟨h1, h2⟩
                    exact ⟨ρ1, rfl, R2, rfl, h1, h2⟩
                · cases hR2'
              · cases hR2'
            · rintro ρ1 ⟨R', hR', hr, hh⟩
              rw [List.length_map, List.take_length] at hR'
              have : R' = R := by
                have e : rungsF hosts = some R' := hR'
                rw [hR] at e; cases e; rfl
              subst this
              refine run_next (P := Gives _) ⟨_, by simp (config := {decide := true}) only [x_assign, v_list, e_nil, if_true]; rfl, ?_⟩
              refine run_forN (items := R'.map .str) (fun done ρ => ρ "sets" = some (.own ((((onesF hosts R').take done.length).foldl addS []).map .str)) ∧ ρ "hosts" = some (.val (.list (hosts.map .str)))) ?_ ?_ (by with_unfolding_all decide) ?_ ?_
              · rw [show frz (namesE 1 _) (ρ1.set (Str.ofString "sets") (.own [])) = (ρ1.set (Str.ofString "rungs") (.val (.list (R'.map .str)))).set (Str.ofString "sets") (.own []) from by
                  simp (config := {decide := true}) only [ne_name, frz, frz1_other, ne_eq]
                  rw [frz1_of_own hr]]
                simp (config := {decide := true}) only [v_name, v_itname, aname, set_same, set_other, if_false, ne_eq]
              · refine ⟨?_, ?_⟩ <;> simp (config := {decide := true}) only [set_same, set_other, ne_name, frz, frz1_other, ne_eq, List.length_nil]
                · rfl
                · rw [frz1_of_own hr]
                  simp (config := {decide := true}) only [set_other, ne_eq, hh]
              · rintro done d rest ρ e ⟨hd, hh'⟩
                obtain ⟨rg, rfl, ht, hmem, hlt, hat⟩ := map_at e
                have ht2 : (onesF hosts R').take (done.length + 1) = (onesF hosts R').take done.length ++ [bitsS (oneB hosts rg)] := by
                  unfold onesF
                  rw [← List.map_take, ht, List.map_append, List.map_take]; rfl
                rw [take_len done _ rest _ rfl, ht2, List.foldl_append]
                generalize hacc2 : ((onesF hosts R').take done.length).foldl addS [] = acc2 at *
                have hacc2len : acc2.length ≤ 1000 := by
                  rw [← hacc2]
                  have q1 := foldl_addS_len ((onesF hosts R').take done.length) []
                  have q2 : ((onesF hosts R').take done.length).length ≤ R'.length := by rw [List.length_take]; unfold onesF; rw [List.length_map]; omega
                  simp only [List.length_nil] at q1
                  omega
                refine run_assign (P := NextWith _) (d := .str (bitsS (oneB hosts rg))) ?_ (by with_unfolding_all decide) (by with_unfolding_all decide) ?_
                · refine meth1 (a := .str "") (args := [_]) ?_ (args1 (comp1 (enc := PyData.str) (enc' := PyData.str) (ls := hosts) (fun h => [bit1 ((matchF h rg).getD false)]) ?_ ?_ ?_ ?_ (by decide) (by with_unfolding_all decide) (by with_unfolding_all decide) (by with_unfolding_all decide)) rfl (by decide)) ?_ meth_join (by decide)
                  · simp (config := {decide := true}) only [v_const, ac_str]
                  · simp (config := {decide := true}) only [v_name, v_itname, aname, set_other, if_false, ne_eq, hh']
                  · unfold LIM; omega
                  · rw [flat_single, List.length_map]; unfold LIM; omega
                  · intro h hmh
                    have hsome : (matchF h rg).isSome = true := by
                      have := List.all_eq_true.mp hall rg hmem
                      exact List.all_eq_true.mp this h hmh
                    obtain ⟨b, hb⟩ := Option.isSome_iff_exists.mp hsome
                    have hb' := hb
                    unfold matchF at hb'
                    split at hb'
                    · rename_i hul
                      rw [hb]
                      simp (config := {decide := true}) only [v_const, v_name, v_if, v_meth, v_call, v_ifs0, t_call, e_nil, e_cons, ac_str, aname, set_same, set_other, if_true, if_false, ne_eq, Option.map_some, meth_upper, blt_udm, compRho, am_upper, hul, ph1_udm, udmFun_mk, hb']
                      cases b <;> rfl
                    · cases hb'
                  · rw [flat_single]
                    have : hosts.map (fun h => bit1 ((matchF h rg).getD false)) = (oneB hosts rg).map bit1 := by
                      unfold oneB; rw [List.map_map]; rfl
                    rw [this]
                    exact join_eval _ (by unfold oneB; rw [List.length_map]; omega)
                · have hin := aIn_strs (bitsS (oneB hosts rg)) acc2
                  by_cases hm : bitsS (oneB hosts rg) ∈ acc2
                  · rw [decide_eq_true hm] at hin
                    refine ⟨(ρ.set "rung" (.val (.str rg))).set "one" (.val (.str (bitsS (oneB hosts rg)))), ?_, ?_, ?_⟩
                    · simp (config := {decide := true}) only [x_nil, x_cons, x_if, v_name, v_notin, t_cmp, aname, set_same, set_other, if_false, ne_eq, Option.map_some, Bool.not_true, hd, hin]
                    · simp (config := {decide := true}) only [set_other, ne_eq, hd]
                      simp [addS, hm]
                    · simp (config := {decide := true}) only [set_other, ne_eq, hh']
                  · rw [decide_eq_false hm] at hin
                    have e1 : (acc2.map PyData.str).length < LIM := by rw [List.length_map]; unfold LIM; omega
                    refine ⟨((ρ.set "rung" (.val (.str rg))).set "one" (.val (.str (bitsS (oneB hosts rg))))).set "sets" (.own ((acc2 ++ [bitsS (oneB hosts rg)]).map .str)), ?_, ?_, ?_⟩
                    · simp (config := {decide := true}) only [x_nil, x_cons, x_append, x_if, v_name, v_notin, t_cmp, aname, set_same, set_other, ne_name, frz, frz1_same, if_true, if_false, ne_eq, Option.map_some, Bool.not_false, hd, hin, e1, List.map_append, List.map_cons, List.map_nil]
                    · simp (config := {decide := true}) only [set_same]
                      simp [addS, hm]
                    · simp (config := {decide := true}) only [set_other, ne_eq, hh']
              · rintro ρ2 ⟨hd, hh'⟩
                have hd2 : ρ2 "sets" = some (.own ((((onesF hosts R').foldl addS [])).map .str)) := by
                  rw [List.length_map, show R'.length = (onesF hosts R').length by unfold onesF; rw [List.length_map], List.take_length] at hd
                  exact hd
                have hlen : ((onesF hosts R').foldl addS []).length ≤ 1000 := by
                  have q1 := foldl_addS_len (onesF hosts R') []
                  have q2 : (onesF hosts R').length = R'.length := by unfold onesF; rw [List.length_map]
                  simp only [List.length_nil] at q1
                  omega
                refine ⟨ρ2.set "sets" (.val (.list (((onesF hosts R').foldl addS []).map .str))), ?_⟩
                simp (config := {decide := true}) only [x_nil, x_cons, x_ret, v_name, v_call, e_nil, e_cons, aname, ne_name, ne_call, frz, if_true, if_false, List.flatMap_cons, List.flatMap_nil, List.append_nil, blt_ordered]
                rw [frz1_of_own hd2]
                simp (config := {decide := true}) only [set_same, if_true, ph1_ordered, orderedFun_mk, strsOf_map, Option.bind_some, hlen]
          obtain ⟨ρ', e⟩ := key
          exact call_ok C.base (fun1 C) C.d109 rfl e
end
noncomputable def fig (c : Int) (d : Nat) : Nat := ((c.fdiv (27 ^ d)).fmod 27).toNat
noncomputable def menu1 : List Str := ["a", "ba", "local"]
noncomputable def menu2 : List Str := ["a", "ba", "C"]
noncomputable def innerS (f : Nat) : List Str := [menu1.getD (f / 3 % 3) "", menu2.getD (f / 9) ""]
noncomputable def rowLabels (f k : Nat) : List Str := ("local" : Str) :: (innerS f).take (f % 3) ++ [ownS k]
noncomputable def intsOf : List PyData → Option (List Int)
  | [] => some []
  | .int i :: r => (intsOf r).map (i :: ·)
  | _ :: _ => none
theorem intsOf_eq : ∀ {xs : List PyData} {cs : List Int}, intsOf xs = some cs → xs = cs.map .int
  | [], _, h => (Option.some.inj h) ▸ rfl
  | d :: r, ls, h => by
    cases d with
    | int i =>
      obtain ⟨ys, h1, rfl⟩ := Option.map_eq_some_iff.mp h
      rw [intsOf_eq h1]; rfl
    | _ => exact none_no h
theorem intsOf_map (cs : List Int) : intsOf (cs.map .int) = some cs := by
  induction cs with
  | nil => rfl
  | cons x r ih =>
    show (intsOf (r.map .int)).map (x :: ·) = _
    rw [ih]; rfl
noncomputable def rowOf (cs : List Int) (d : Nat) : List (List Str) := (List.range 4).map fun k => rowLabels (fig (cs.getD k 0) d) k
noncomputable def rowsFun : Fun1 := fun ds => (lst1 ds).bind fun xs => (intsOf xs).bind fun cs => if cs.length = 4 then some (.list ((List.range 3).map fun d => .list ((rowOf cs d).map encL))) else none
theorem rowsFun_mk {xs : List PyData} : rowsFun [.list xs] = (intsOf xs).bind fun cs => if cs.length = 4 then some (.list ((List.range 3).map fun d => .list ((rowOf cs d).map encL))) else none := rfl
theorem fig_int (c : Int) (d : Nat) : (c.fdiv (27 ^ d)).fmod 27 = (fig c d : Int) ∧ fig c d < 27 := by
  have h1 := Int.fmod_nonneg_of_pos (c.fdiv (27 ^ d)) (by decide : (0:Int) < 27)
  have h2 := Int.fmod_lt_of_pos (c.fdiv (27 ^ d)) (by decide : (0:Int) < 27)
  exact ⟨(Int.toNat_of_nonneg h1).symm, (Int.toNat_lt h1).mpr h2⟩
theorem fdiv_nat (n m : Nat) : (n : Int).fdiv (m : Int) = ((n / m : Nat) : Int) := by
  rw [Int.fdiv_eq_ediv_of_nonneg _ (by omega)]; rfl
theorem fmod_nat (n m : Nat) : (n : Int).fmod (m : Int) = ((n % m : Nat) : Int) := by
  rw [Int.fmod_eq_emod_of_nonneg _ (by omega)]; rfl
theorem menu_at {l : List Str} {i : Nat} (h : i < 3) (hl : l.length = 3) (h0 : 3 ≤ 1000) : asub (.list (l.map .str)) (.int (i : Int)) = some (.str (l.getD i "")) :=
  asub_list (by
    have hi : i < l.length := by rw [hl]; exact h
    rw [List.getElem?_map, List.getD_eq_getElem?_getD, List.getElem?_eq_getElem hi]; rfl) (Nat.lt_of_lt_of_le h h0)
section
variable {prog : Program} {w : World} {h₀ : Heap} {mg mb : Str → Option Value}
theorem rows_ok (C : Ctx w h₀ mg mb) : ∀ ds d, rowsFun ds = some d → CallOK prog w h₀ 3 85 ds d := by
  intro ds d h
  obtain ⟨xs, hx0, h'⟩ := Option.bind_eq_some_iff.mp h
  clear h
  have e0 := lst1_some hx0
  subst e0
  have h := h'
  clear hx0 h'
  · obtain ⟨cs, hl, h2⟩ := Option.bind_eq_some_iff.mp h
    clear h
    have hx := intsOf_eq hl
    subst hx
    split at h2
    · rename_i hc4
      cases h2
      have key : ∃ ρ', aexecs Φ1 ["rows", "row"] 40 (fn 85).scope (stmtsOf (fn 85)) (argRho ["cells"] [.list (cs.map .int)]) = some (.ret (.list ((List.range 3).map fun d => .list ((rowOf cs d).map encL))), ρ') := by
        conv in stmtsOf (fn 85) => whnf
        refine run_next (P := Gives (.ret (.list ((List.range 3).map fun d => .list ((rowOf cs d).map encL))))) ⟨_, by simp (config := {decide := true}) only [x_assign, v_list, e_nil, argRho_1, if_true]; rfl, ?_⟩
        refine run_forN (items := (List.range 3).map fun i : Nat => PyData.int (i : Int)) (fun done ρ => ρ "rows" = some (.own ((List.range done.length).map fun d => .list ((rowOf cs d).map encL))) ∧ ρ "cells" = some (.val (.list (cs.map .int)))) ?_ ?_ (by with_unfolding_all decide) ?_ ?_
        · simp (config := {decide := true}) only [v_const, v_call, v_range, e_nil, e_cons, ac_int, ne_call, ne_zero, frz, if_true, List.flatMap_cons, List.flatMap_nil, List.append_nil]
          rfl
        · refine ⟨?_, ?_⟩ <;> simp (config := {decide := true}) only [set_same, set_other, ne_call, ne_zero, frz, ne_eq, List.flatMap_cons, List.flatMap_nil, List.append_nil, List.length_nil]
          rfl
        · rintro done dd rest ρ e ⟨hr, hcl⟩
          obtain ⟨rfl, hd3⟩ := range_split e
          rw [take_len done _ rest _ rfl]
          generalize hdd : done.length = d at *
          obtain ⟨p0, p1⟩ := (by decide : ∀ d, d < 3 → (0 : Int) < 27 ^ d ∧ (27 : Int) ^ d ≤ 1000) d hd3
          have p2 : abin .Pow (.int 27) (.int (d : Int)) = some (.int (27 ^ d)) := by
            show (if (27 : Int) = 27 ∧ 0 ≤ (d : Int) ∧ (d : Int) ≤ 3 then _ else _) = _
            rw [if_pos ⟨rfl, by omega, by omega⟩]; rfl
          refine run_next (P := NextWith _) ⟨_, by simp (config := {decide := true}) only [x_assign, v_list, e_nil, if_true]; rfl, ?_⟩
          refine run_forN (P := NextWith _) (items := (List.range 4).map fun i : Nat => PyData.int (i : Int)) (fun done' ρ => ρ "row" = some (.own (((rowOf cs d).take done'.length).map encL)) ∧ ρ "rows" = some (.own ((List.range d).map fun d => .list ((rowOf cs d).map encL))) ∧ ρ "cells" = some (.val (.list (cs.map .int))) ∧ ρ "d" = some (.val (.int (d : Int)))) ?_ ?_ (by with_unfolding_all decide) ?_ ?_
          · simp (config := {decide := true}) only [v_const, v_call, v_range, e_nil, e_cons, ac_int, ne_call, ne_zero, frz, if_true, List.flatMap_cons, List.flatMap_nil, List.append_nil]
            rfl
          · refine ⟨?_, ?_, ?_, ?_⟩ <;> simp (config := {decide := true}) only [set_same, set_other, ne_call, ne_zero, frz, ne_eq, List.flatMap_cons, List.flatMap_nil, List.append_nil, List.length_nil, hr, hcl]
            simp
          · rintro done' kk rest' ρ' e' ⟨h1, h2, h3, h4⟩
            obtain ⟨rfl, hk4⟩ := range_split e'
            rw [take_len done' _ rest' _ rfl]
            generalize hkk : done'.length = k at *
            have ht : (rowOf cs d).take (k + 1) = (rowOf cs d).take k ++ [rowLabels (fig (cs.getD k 0) d) k] := by
              unfold rowOf
              rw [← List.map_take, ← List.map_take, List.take_range, List.take_range, Nat.min_eq_left (by omega), Nat.min_eq_left (by omega), List.range_succ]
              simp
            obtain ⟨f1, f2⟩ := fig_int (cs.getD k 0) d
            generalize hf : fig (cs.getD k 0) d = f at *
            have a1 : asub (.list (cs.map .int)) (.int (k : Int)) = some (.int (cs.getD k 0)) := asub_list (by simp [List.getElem?_eq_getElem (show k < cs.length by omega)]) (by omega)
            have a2 : abin .FloorDiv (.int (cs.getD k 0)) (.int (27 ^ d)) = some (.int ((cs.getD k 0).fdiv (27 ^ d))) := by
              show (if (0:Int) < 27 ^ d ∧ (27:Int) ^ d ≤ 1000 then _ else _) = _
              rw [if_pos ⟨p0, p1⟩]
            have a3 : abin .Mod (.int ((cs.getD k 0).fdiv (27 ^ d))) (.int 27) = some (.int (f : Int)) := by
              show (if (0:Int) < 27 ∧ (27:Int) ≤ 1000 then some (PyData.int (((cs.getD k 0).fdiv (27 ^ d)).fmod 27)) else none) = _
              rw [if_pos (by decide), f1]
            have a4 : abin .FloorDiv (.int (f : Int)) (.int 3) = some (.int ((f / 3 : Nat) : Int)) := by
              show (if (0:Int) < 3 ∧ (3:Int) ≤ 1000 then some (PyData.int ((f : Int).fdiv 3)) else none) = _
              rw [if_pos (by decide), ← fdiv_nat]; rfl
            have a5 : abin .Mod (.int ((f / 3 : Nat) : Int)) (.int 3) = some (.int ((f / 3 % 3 : Nat) : Int)) := by
              show (if (0:Int) < 3 ∧ (3:Int) ≤ 1000 then some (PyData.int (((f / 3 : Nat) : Int).fmod 3)) else none) = _
              rw [if_pos (by decide), ← fmod_nat]; rfl
            have a6 : abin .FloorDiv (.int (f : Int)) (.int 9) = some (.int ((f / 9 : Nat) : Int)) := by
              show (if (0:Int) < 9 ∧ (9:Int) ≤ 1000 then some (PyData.int ((f : Int).fdiv 9)) else none) = _
              rw [if_pos (by decide), ← fdiv_nat]; rfl
            have a7 : abin .Mod (.int (f : Int)) (.int 3) = some (.int ((f % 3 : Nat) : Int)) := by
              show (if (0:Int) < 3 ∧ (3:Int) ≤ 1000 then some (PyData.int ((f : Int).fmod 3)) else none) = _
              rw [if_pos (by decide), ← fmod_nat]; rfl
            have f3 : f / 3 % 3 < 3 := Nat.mod_lt _ (by decide)
            have f9 : f / 9 < 3 := Nat.div_lt_of_lt_mul f2
            have a8 : asub (.list [.str (Str.ofString "a"), .str (Str.ofString "ba"), .str (Str.ofString "local")]) (.int ((f / 3 % 3 : Nat) : Int)) = some (.str (menu1.getD (f / 3 % 3) "")) :=
              menu_at (l := menu1) f3 rfl (by decide)
            have a9 : asub (.list [.str (Str.ofString "a"), .str (Str.ofString "ba"), .str (Str.ofString "C")]) (.int ((f / 9 : Nat) : Int)) = some (.str (menu2.getD (f / 9) "")) :=
              menu_at (l := menu2) f9 rfl (by decide)
            have b1 : aslice (.list [.str (menu1.getD (f / 3 % 3) ""), .str (menu2.getD (f / 9) "")]) none (some ((f % 3 : Nat) : Int)) none = some (.list (((innerS f).take (f % 3)).map .str)) := slice_upto (innerS f) (f % 3) (by show 2 ≤ LIM; decide)
            have b2 : asub (.str (Str.ofString "stuv")) (.int (k : Int)) = some (.str (ownS k)) := asub_nat (own_at k hk4) (by omega)
            have b3 : ((innerS f).take (f % 3)).length ≤ 2 := by rw [List.length_take]; show min _ 2 ≤ 2; omega
            have b4 : abin .Add (.list [.str (Str.ofString "local")]) (.list (((innerS f).take (f % 3)).map .str)) = some (.list (.str (Str.ofString "local") :: ((innerS f).take (f % 3)).map .str)) := by
              show (if [PyData.str (Str.ofString "local")].length + (((innerS f).take (f % 3)).map PyData.str).length ≤ LIM then _ else _) = _
              rw [if_pos (by rw [List.length_map, List.length_singleton]; unfold LIM; omega)]; rfl
            have b5 : abin .Add (.list (.str (Str.ofString "local") :: ((innerS f).take (f % 3)).map .str)) (.list [.str (ownS k)]) = some (encL (rowLabels f k)) := by
              show (if (PyData.str (Str.ofString "local") :: ((innerS f).take (f % 3)).map PyData.str).length + [PyData.str (ownS k)].length ≤ LIM then _ else _) = _
              rw [if_pos (by rw [List.length_cons, List.length_map, List.length_singleton]; unfold LIM; omega)]
              simp [encL, rowLabels]
            have b6 : (((rowOf cs d).take k).map encL).length < LIM := by rw [List.length_map, List.length_take]; unfold LIM; omega
            rw [ht]
            refine ⟨(((ρ'.set "k" (.val (.int (k : Int)))).set "figure" (.val (.int (f : Int)))).set "inner" (.val (.list [.str (menu1.getD (f / 3 % 3) ""), .str (menu2.getD (f / 9) "")]))).set "row" (.own (((rowOf cs d).take k ++ [rowLabels f k]).map encL)), ?_, ?_, ?_, ?_, ?_⟩
            · simp (config := {decide := true}) only [x_nil, x_cons, x_assign, x_append, v_const, v_name, v_bin, v_list, v_slice, v_subn, v_subb, e_nil, e_cons, p_none, p_some, ac_int, ac_str, aname, set_same, set_other, ne_bin, frz, if_true, if_false, ne_eq, List.length_cons, List.length_nil, h1, h3, h4, p2, a1, a2, a3, a4, a5, a6, a7, a8, a9, b1, b2, b4, b5, b6, List.map_append, List.map_cons, List.map_nil]
            · simp (config := {decide := true}) only [set_same]
            · simp (config := {decide := true}) only [set_other, ne_eq, h2]
            · simp (config := {decide := true}) only [set_other, ne_eq, h3]
            · simp (config := {decide := true}) only [set_other, ne_eq, h4]
          · rintro ρ1 ⟨h1, h2, h3, h4⟩
            have h1' : ρ1 "row" = some (.own ((rowOf cs d).map encL)) := by
              rw [List.length_map, List.length_range, List.take_of_length_le (by unfold rowOf; simp)] at h1
              exact h1
            have b6 : ((List.range d).map fun d => PyData.list ((rowOf cs d).map encL)).length < LIM := by rw [List.length_map, List.length_range]; unfold LIM; omega
            have fr := frz1_of_own h1'
            refine ⟨(ρ1.set "row" (.val (.list ((rowOf cs d).map encL)))).set "rows" (.own ((List.range d).map (fun d => PyData.list ((rowOf cs d).map encL)) ++ [.list ((rowOf cs d).map encL)])), ?_, ?_, ?_⟩
            · simp (config := {decide := true}) only [x_nil, x_cons, x_append, v_name, aname, set_same, ne_name, frz, if_true, if_false, h2, fr, b6]
            · simp (config := {decide := true}) only [set_same]
              rw [List.range_succ, List.map_append]; rfl
            · simp (config := {decide := true}) only [set_other, ne_eq, h3]
        · rintro ρ1 ⟨hr, hc⟩
          have hr' : ρ1 "rows" = some (.own ((List.range 3).map fun d => .list ((rowOf cs d).map encL))) := hr
          refine ⟨ρ1.set "rows" (.val (.list ((List.range 3).map fun d => .list ((rowOf cs d).map encL)))), ?_⟩
          simp (config := {decide := true}) only [x_nil, x_cons, x_ret, v_name, aname, ne_name, frz, if_false]
          rw [frz1_of_own hr']
          simp (config := {decide := true}) only [set_same]
      obtain ⟨ρ', e⟩ := key
      exact call_ok C.base ((fun1 C)) C.d85 rfl e
    · cases h2
end
section
open PySem.Builtin PySem.Builtin.Str
noncomputable abbrev IsTup (h : Heap) (T : Addr) (vs : Array Value) : Prop := h.get? T = some { cls := .type "tuple", data := .seq vs }
section
variable {prog : Program} {w : World} {A : Around} {E : Value → Shared → Prop} {s : Shared}
theorem updateSeq_tup {T : Addr} {vs : Array Value} {x : Value} {k : Nat} {Q : Unit → Shared → Prop} (hT : IsTup s.heap T vs) (hvs : vs.size ≤ 10)
    (h : ∀ h', IsTup h' T (vs.setIfInBounds k x) → Heap.SameBut T s.heap h' → Q () { s with heap := h' }) :
    wpAny (model prog w) A (updateSeq T (·.setIfInBounds k x)) Q E s := by
  have b1 : vs.size ≤ sizeLine := Nat.le_trans hvs (by decide)
  refine wpAny_updateSeq hT rfl (h _ ?_ (Heap.SameBut.update ..)) b1 (by rw [Array.size_setIfInBounds]; omega)
  show Heap.get? _ T = _
  rw [Heap.get?_update_self _ hT rfl]
  simp [Obj.mapSeq]
structure Apart2 (z TI TO i1 i2 : Nat) (fp1 fp2 : List Nat) : Prop where
  TIz : TI ≠ z
  TOz : TO ≠ z
  TITO : TI ≠ TO
  i1z : i1 ≠ z
  TI1 : TI ≠ i1
  TO1 : TO ≠ i1
  zf1 : z ∉ fp1
  TOf1 : TO ∉ fp1
  if21 : i2 ∉ fp1
  n12 : i1 ≠ i2
  i2z : i2 ≠ z
  TI2 : TI ≠ i2
  TO2 : TO ≠ i2
  zf2 : z ∉ fp2
  TOf2 : TO ∉ fp2
  if12 : i1 ∉ fp2
theorem zip2_item {z TI TO i1 i2 : Addr} {fp1 fp2 : List Addr} {n k : Nat} {P1 P2 : Nat → Value → Prop} {S1 S2 : Nat → Heap → Prop} {a b : Value} {Q : Value → Shared → Prop} (D1 : Draws prog w A i1 fp1 n P1 S1) (D2 : Draws prog w A i2 fp2 n P2 S2) (ap : Apart2 z TI TO i1 i2 fp1 fp2) (hz : IsZip s.heap z TI TO .none) (hTI : IsTup s.heap TI #[.ref i1, .ref i2]) (hTO : IsTup s.heap TO #[a, b]) (h1 : S1 k s.heap) (h2 : S2 k s.heap) (hk : k < n)
    (hQ : ∀ h' tk x y, P1 k x → P2 k y → IsZip h' z TI TO (rawInt s.heap.objs.size) → IsTup h' TO #[x, y] → S1 (k + 1) h' → S2 (k + 1) h' → IsTup h' s.heap.objs.size #[x, y] →
      (∀ c o, c ≠ z → c ≠ TO → c ≠ i1 → c ≠ i2 → s.heap.get? c = some o → h'.get? c = some o) → Q (.ref s.heap.objs.size) { s with heap := h', toks := tk }) :
    wpAny (model prog w) A (Builtin.«zip.__next__» ⟨[.ref z], []⟩) (fun fin s' => ∃ v, fin = .done (.ret v) ∧ Q v s') E s := by
  show wpAny _ _ (field (.ref z) 2 >>= _) _ _ _
  refine wpAny_bind (wpAny_field hz rfl (x := .bool false) rfl ?_)
  show wpAny _ _ (field (.ref z) 3 >>= _) _ _ _
  refine wpAny_bind (wpAny_field hz rfl (x := .ref TI) rfl ?_)
  refine wpAny_bind (wpAny_seqItems hTI rfl ?_)
  show wpAny _ _ (Builtin.SmallTypes.ownedTupleIsFree (.ref z) >>= _) _ _ _
  refine wpAny_bind ?_
  unfold Builtin.SmallTypes.ownedTupleIsFree
  refine wpAny_bind (wpAny_field hz rfl (x := .none) rfl (wpAny_pure ?_))
  simp only [if_true]
  refine wpAny_bind (wpAny_rule ?_)
  refine wpAny_bind (wpAny_field hz rfl (x := .ref TO) rfl ?_)
  refine wpAny_bind (wpAny_setField_rec hz (by simp) fun g1 hz1 e1 => ?_)
  replace hz1 : IsZip g1 z TI TO .ellipsis := hz1
  refine wpAny_bind ?_
  simp only [List.zipIdx_cons, List.zipIdx_nil, List.forIn_cons, List.forIn_nil]
  have q1 : ∀ c o, c ≠ z → s.heap.get? c = some o → g1.get? c = some o := fun c o hc e => e1.extBut _ _ hc e
  have t1 : IsTup g1 TO #[a, b] := q1 _ _ ap.TOz hTO
  have r1_1 : S1 k g1 := D1.frame _ _ _ h1 fun b hb o e => q1 b o (fun x => ap.zf1 (x ▸ hb)) e
  have r1_2 : S2 k g1 := D2.frame _ _ _ h2 fun b hb o e => q1 b o (fun x => ap.zf2 (x ▸ hb)) e
  refine wpAny_bind (wpAny_bind (wpAny_onRaise ?_))
  show wpAny _ _ (Builtin.SmallTypes.nextOf (.ref i1) >>= _) _ _ _
  refine wpAny_bind (D1.item k _ _ _ hk r1_1 fun x g2 tk1 hP1 r2_1 e2 => wpAny_pure ?_)
  have t2 : IsTup g2 TO #[a, b] := e2.extBut _ _ ap.TO1 t1
  have hz2 : IsZip g2 z TI TO .ellipsis := e2.extBut _ _ (Ne.symm ap.i1z) hz1
  have r2_2 : S2 k g2 := D2.frame _ _ _ r1_2 fun b hb o e => e2.extBut b o (fun x => ap.if12 (x ▸ hb)) e
  refine wpAny_bind (wpAny_seqItems t2 rfl ?_)
  refine wpAny_bind (updateSeq_tup t2 (by simp) fun g3 t3 e3 => ?_)
  replace t3 : IsTup g3 TO #[x, b] := t3
  have hz3 : IsZip g3 z TI TO .ellipsis := e3.extBut _ _ (Ne.symm ap.TOz) hz2
  have r3_1 : S1 (k + 1) g3 := D1.frame _ _ _ r2_1 fun b hb o e => e3.extBut b o (fun x => ap.TOf1 (x ▸ hb)) e
  have r3_2 : S2 k g3 := D2.frame _ _ _ r2_2 fun b hb o e => e3.extBut b o (fun x => ap.TOf2 (x ▸ hb)) e
  refine wpAny_bind (wpAny_letGo (wpAny_pure ?_))
  refine wpAny_bind (wpAny_bind (wpAny_onRaise ?_))
  show wpAny _ _ (Builtin.SmallTypes.nextOf (.ref i2) >>= _) _ _ _
  refine wpAny_bind (D2.item k _ _ _ hk r3_2 fun y g4 tk2 hP2 r4_2 e4 => wpAny_pure ?_)
  have t4 : IsTup g4 TO #[x, b] := e4.extBut _ _ ap.TO2 t3
  have hz4 : IsZip g4 z TI TO .ellipsis := e4.extBut _ _ (Ne.symm ap.i2z) hz3
  have r4_1 : S1 (k + 1) g4 := D1.frame _ _ _ r3_1 fun b hb o e => e4.extBut b o (fun x => ap.if21 (x ▸ hb)) e
  refine wpAny_bind (wpAny_seqItems t4 rfl ?_)
  refine wpAny_bind (updateSeq_tup t4 (by simp) fun g5 t5 e5 => ?_)
  replace t5 : IsTup g5 TO #[x, y] := t5
  have hz5 : IsZip g5 z TI TO .ellipsis := e5.extBut _ _ (Ne.symm ap.TOz) hz4
  have r5_1 : S1 (k + 1) g5 := D1.frame _ _ _ r4_1 fun b hb o e => e5.extBut b o (fun x => ap.TOf1 (x ▸ hb)) e
  have r5_2 : S2 (k + 1) g5 := D2.frame _ _ _ r4_2 fun b hb o e => e5.extBut b o (fun x => ap.TOf2 (x ▸ hb)) e
  refine wpAny_bind (wpAny_letGo (wpAny_pure (wpAny_pure ?_)))
  refine wpAny_bind (wpAny_seqItems t5 rfl ?_)
  refine wpAny_bind (wpAny_newTuple ?_)
  have hsz : g5.objs.size = s.heap.objs.size := by rw [e5.1, e4.1, e3.1, e2.1, e1.1]
  have hold : ∀ c o, c ≠ z → c ≠ TO → c ≠ i1 → c ≠ i2 → s.heap.get? c = some o → g5.get? c = some o := fun c o c1 c2 d1 d2 e =>
    e5.extBut c o c2 (e4.extBut c o d2 (e3.extBut c o c2 (e2.extBut c o d1 (q1 c o c1 e))))
  have hzlt : z < g5.objs.size := Heap.lt_size hz5
  show wpAny _ _ (Builtin.SmallTypes.ownedTupleHandOut (.ref z) (.ref g5.objs.size) >>= _) _ _ _
  refine wpAny_bind ?_
  unfold Builtin.SmallTypes.ownedTupleHandOut
  have hz_ : IsZip (g5.push { cls := .type "tuple", data := .seq #[x, y] }) z TI TO .ellipsis := Heap.get?_push_of_some _ hz5
  refine wpAny_bind (wpAny_setField_rec hz_ (by simp) fun f1 fz1 fs1 => ?_)
  replace fz1 : IsZip f1 z TI TO (rawInt g5.objs.size) := fz1
  refine wpAny_setField_rec fz1 (by simp) fun f2 fz2 fs2 => ?_
  replace fz2 : IsZip f2 z TI TO (rawInt g5.objs.size) := fz2
  have up : ∀ c o, c ≠ z → g5.get? c = some o → f2.get? c = some o := fun c o c1 e => fs2.extBut _ _ c1 (fs1.extBut _ _ c1 (Heap.get?_push_of_some _ e))
  have hT : IsTup f2 g5.objs.size #[x, y] := fs2.extBut _ _ (Nat.ne_of_gt hzlt) (fs1.extBut _ _ (Nat.ne_of_gt hzlt) (Heap.get?_push_size _ rfl))
  rw [hsz] at fz2 hT
  refine wpAny_pure ⟨_, rfl, ?_⟩
  show Q (.ref g5.objs.size) _
  rw [hsz]
  exact hQ f2 _ x y hP1 hP2 fz2 (up _ _ ap.TOz t5) (D1.frame _ _ _ r5_1 fun b hb o e => up b o (fun x => ap.zf1 (x ▸ hb)) e) (D2.frame _ _ _ r5_2 fun b hb o e => up b o (fun x => ap.zf2 (x ▸ hb)) e) hT fun c o c1 c2 d1 d2 e => up c o c1 (hold c o c1 c2 d1 d2 e)
theorem zip2_end {z TI TO i1 i2 : Addr} {fp1 fp2 : List Addr} {n k : Nat} {P1 P2 : Nat → Value → Prop} {S1 S2 : Nat → Heap → Prop} {a b : Value} {Q : Fin → Shared → Prop} (D1 : Draws prog w A i1 fp1 n P1 S1) (ap : Apart2 z TI TO i1 i2 fp1 fp2) (hz : IsZip s.heap z TI TO .none) (hTI : IsTup s.heap TI #[.ref i1, .ref i2]) (hTO : IsTup s.heap TO #[a, b]) (h1 : S1 n s.heap)
    (hE : ∀ h' e, (∀ c o, c ≠ z → c ≠ i1 → s.heap.get? c = some o → h'.get? c = some o) → (∃ o, h'.get? e = some o ∧ o.cls = .type "StopIteration") → E (.ref e) { s with heap := h' }) :
    wpAny (model prog w) A (Builtin.«zip.__next__» ⟨[.ref z], []⟩) Q E s := by
  show wpAny _ _ (field (.ref z) 2 >>= _) _ _ _
  refine wpAny_bind (wpAny_field hz rfl (x := .bool false) rfl ?_)
  show wpAny _ _ (field (.ref z) 3 >>= _) _ _ _
  refine wpAny_bind (wpAny_field hz rfl (x := .ref TI) rfl ?_)
  refine wpAny_bind (wpAny_seqItems hTI rfl ?_)
  show wpAny _ _ (Builtin.SmallTypes.ownedTupleIsFree (.ref z) >>= _) _ _ _
  refine wpAny_bind ?_
  unfold Builtin.SmallTypes.ownedTupleIsFree
  refine wpAny_bind (wpAny_field hz rfl (x := .none) rfl (wpAny_pure ?_))
  simp only [if_true]
  refine wpAny_bind (wpAny_rule ?_)
  refine wpAny_bind (wpAny_field hz rfl (x := .ref TO) rfl ?_)
  refine wpAny_bind (wpAny_setField_rec hz (by simp) fun g1 hz1 e1 => ?_)
  replace hz1 : IsZip g1 z TI TO .ellipsis := hz1
  refine wpAny_bind ?_
  simp only [List.zipIdx_cons, List.zipIdx_nil, List.forIn_cons, List.forIn_nil]
  have q1 : ∀ c o, c ≠ z → s.heap.get? c = some o → g1.get? c = some o := fun c o hc e => e1.extBut _ _ hc e
  have r1_1 : S1 n g1 := D1.frame _ _ _ h1 fun b hb o e => q1 b o (fun x => ap.zf1 (x ▸ hb)) e
  refine wpAny_bind (wpAny_bind (wpAny_onRaise ?_))
  show wpAny _ _ (Builtin.SmallTypes.nextOf (.ref i1) >>= _) _ _ _
  refine wpAny_bind (D1.done _ _ _ r1_1 fun g2 e e2 he => ?_)
  obtain ⟨oe, hoe, hce⟩ := he
  have hz2 : IsZip g2 z TI TO .ellipsis := e2 _ _ (Ne.symm ap.i1z) hz1
  have hez : e ≠ z := fun x => by subst x; rw [hz2] at hoe; cases hoe; simp at hce
  refine wpAny_setField_rec hz2 (by simp) fun g3 _ e3 => hE g3 e (fun c o c1 c3 x => e3.extBut _ _ c1 (e2 _ _ c3 (q1 _ _ c1 x))) ⟨oe, e3.extBut _ _ hez hoe, hce⟩
structure Apart3 (z TI TO i1 i2 i3 : Nat) (fp1 fp2 fp3 : List Nat) : Prop where
  TIz : TI ≠ z
  TOz : TO ≠ z
  TITO : TI ≠ TO
  i1z : i1 ≠ z
  TI1 : TI ≠ i1
  TO1 : TO ≠ i1
  zf1 : z ∉ fp1
  TOf1 : TO ∉ fp1
  if21 : i2 ∉ fp1
  n12 : i1 ≠ i2
  if31 : i3 ∉ fp1
  n13 : i1 ≠ i3
  i2z : i2 ≠ z
  TI2 : TI ≠ i2
  TO2 : TO ≠ i2
  zf2 : z ∉ fp2
  TOf2 : TO ∉ fp2
  if12 : i1 ∉ fp2
  if32 : i3 ∉ fp2
  n23 : i2 ≠ i3
  i3z : i3 ≠ z
  TI3 : TI ≠ i3
  TO3 : TO ≠ i3
  zf3 : z ∉ fp3
  TOf3 : TO ∉ fp3
  if13 : i1 ∉ fp3
  if23 : i2 ∉ fp3
theorem zip3_item {z TI TO i1 i2 i3 : Addr} {fp1 fp2 fp3 : List Addr} {n k : Nat} {P1 P2 P3 : Nat → Value → Prop} {S1 S2 S3 : Nat → Heap → Prop} {a b c : Value} {Q : Value → Shared → Prop} (D1 : Draws prog w A i1 fp1 n P1 S1) (D2 : Draws prog w A i2 fp2 n P2 S2) (D3 : Draws prog w A i3 fp3 n P3 S3) (ap : Apart3 z TI TO i1 i2 i3 fp1 fp2 fp3) (hz : IsZip s.heap z TI TO .none) (hTI : IsTup s.heap TI #[.ref i1, .ref i2, .ref i3]) (hTO : IsTup s.heap TO #[a, b, c]) (h1 : S1 k s.heap) (h2 : S2 k s.heap) (h3 : S3 k s.heap) (hk : k < n)
    (hQ : ∀ h' tk x y u, P1 k x → P2 k y → P3 k u → IsZip h' z TI TO (rawInt s.heap.objs.size) → IsTup h' TO #[x, y, u] → S1 (k + 1) h' → S2 (k + 1) h' → S3 (k + 1) h' → IsTup h' s.heap.objs.size #[x, y, u] →
      (∀ c o, c ≠ z → c ≠ TO → c ≠ i1 → c ≠ i2 → c ≠ i3 → s.heap.get? c = some o → h'.get? c = some o) → Q (.ref s.heap.objs.size) { s with heap := h', toks := tk }) :
    wpAny (model prog w) A (Builtin.«zip.__next__» ⟨[.ref z], []⟩) (fun fin s' => ∃ v, fin = .done (.ret v) ∧ Q v s') E s := by
  show wpAny _ _ (field (.ref z) 2 >>= _) _ _ _
  refine wpAny_bind (wpAny_field hz rfl (x := .bool false) rfl ?_)
  show wpAny _ _ (field (.ref z) 3 >>= _) _ _ _
  refine wpAny_bind (wpAny_field hz rfl (x := .ref TI) rfl ?_)
  refine wpAny_bind (wpAny_seqItems hTI rfl ?_)
  show wpAny _ _ (Builtin.SmallTypes.ownedTupleIsFree (.ref z) >>= _) _ _ _
  refine wpAny_bind ?_
  unfold Builtin.SmallTypes.ownedTupleIsFree
  refine wpAny_bind (wpAny_field hz rfl (x := .none) rfl (wpAny_pure ?_))
  simp only [if_true]
  refine wpAny_bind (wpAny_rule ?_)
  refine wpAny_bind (wpAny_field hz rfl (x := .ref TO) rfl ?_)
  refine wpAny_bind (wpAny_setField_rec hz (by simp) fun g1 hz1 e1 => ?_)
  replace hz1 : IsZip g1 z TI TO .ellipsis := hz1
  refine wpAny_bind ?_
  simp only [List.zipIdx_cons, List.zipIdx_nil, List.forIn_cons, List.forIn_nil]
  have q1 : ∀ c o, c ≠ z → s.heap.get? c = some o → g1.get? c = some o := fun c o hc e => e1.extBut _ _ hc e
  have t1 : IsTup g1 TO #[a, b, c] := q1 _ _ ap.TOz hTO
  have r1_1 : S1 k g1 := D1.frame _ _ _ h1 fun b hb o e => q1 b o (fun x => ap.zf1 (x ▸ hb)) e
  have r1_2 : S2 k g1 := D2.frame _ _ _ h2 fun b hb o e => q1 b o (fun x => ap.zf2 (x ▸ hb)) e
  have r1_3 : S3 k g1 := D3.frame _ _ _ h3 fun b hb o e => q1 b o (fun x => ap.zf3 (x ▸ hb)) e
  refine wpAny_bind (wpAny_bind (wpAny_onRaise ?_))
  show wpAny _ _ (Builtin.SmallTypes.nextOf (.ref i1) >>= _) _ _ _
  refine wpAny_bind (D1.item k _ _ _ hk r1_1 fun x g2 tk1 hP1 r2_1 e2 => wpAny_pure ?_)
  have t2 : IsTup g2 TO #[a, b, c] := e2.extBut _ _ ap.TO1 t1
  have hz2 : IsZip g2 z TI TO .ellipsis := e2.extBut _ _ (Ne.symm ap.i1z) hz1
  have r2_2 : S2 k g2 := D2.frame _ _ _ r1_2 fun b hb o e => e2.extBut b o (fun x => ap.if12 (x ▸ hb)) e
  have r2_3 : S3 k g2 := D3.frame _ _ _ r1_3 fun b hb o e => e2.extBut b o (fun x => ap.if13 (x ▸ hb)) e
  refine wpAny_bind (wpAny_seqItems t2 rfl ?_)
  refine wpAny_bind (updateSeq_tup t2 (by simp) fun g3 t3 e3 => ?_)
  replace t3 : IsTup g3 TO #[x, b, c] := t3
  have hz3 : IsZip g3 z TI TO .ellipsis := e3.extBut _ _ (Ne.symm ap.TOz) hz2
  have r3_1 : S1 (k + 1) g3 := D1.frame _ _ _ r2_1 fun b hb o e => e3.extBut b o (fun x => ap.TOf1 (x ▸ hb)) e
  have r3_2 : S2 k g3 := D2.frame _ _ _ r2_2 fun b hb o e => e3.extBut b o (fun x => ap.TOf2 (x ▸ hb)) e
  have r3_3 : S3 k g3 := D3.frame _ _ _ r2_3 fun b hb o e => e3.extBut b o (fun x => ap.TOf3 (x ▸ hb)) e
  refine wpAny_bind (wpAny_letGo (wpAny_pure ?_))
  refine wpAny_bind (wpAny_bind (wpAny_onRaise ?_))
  show wpAny _ _ (Builtin.SmallTypes.nextOf (.ref i2) >>= _) _ _ _
  refine wpAny_bind (D2.item k _ _ _ hk r3_2 fun y g4 tk2 hP2 r4_2 e4 => wpAny_pure ?_)
  have t4 : IsTup g4 TO #[x, b, c] := e4.extBut _ _ ap.TO2 t3
  have hz4 : IsZip g4 z TI TO .ellipsis := e4.extBut _ _ (Ne.symm ap.i2z) hz3
  have r4_1 : S1 (k + 1) g4 := D1.frame _ _ _ r3_1 fun b hb o e => e4.extBut b o (fun x => ap.if21 (x ▸ hb)) e
  have r4_3 : S3 k g4 := D3.frame _ _ _ r3_3 fun b hb o e => e4.extBut b o (fun x => ap.if23 (x ▸ hb)) e
  refine wpAny_bind (wpAny_seqItems t4 rfl ?_)
  refine wpAny_bind (updateSeq_tup t4 (by simp) fun g5 t5 e5 => ?_)
  replace t5 : IsTup g5 TO #[x, y, c] := t5
  have hz5 : IsZip g5 z TI TO .ellipsis := e5.extBut _ _ (Ne.symm ap.TOz) hz4
  have r5_1 : S1 (k + 1) g5 := D1.frame _ _ _ r4_1 fun b hb o e => e5.extBut b o (fun x => ap.TOf1 (x ▸ hb)) e
  have r5_2 : S2 (k + 1) g5 := D2.frame _ _ _ r4_2 fun b hb o e => e5.extBut b o (fun x => ap.TOf2 (x ▸ hb)) e
  have r5_3 : S3 k g5 := D3.frame _ _ _ r4_3 fun b hb o e => e5.extBut b o (fun x => ap.TOf3 (x ▸ hb)) e
  refine wpAny_bind (wpAny_letGo (wpAny_pure ?_))
  refine wpAny_bind (wpAny_bind (wpAny_onRaise ?_))
  show wpAny _ _ (Builtin.SmallTypes.nextOf (.ref i3) >>= _) _ _ _
  refine wpAny_bind (D3.item k _ _ _ hk r5_3 fun u g6 tk3 hP3 r6_3 e6 => wpAny_pure ?_)
  have t6 : IsTup g6 TO #[x, y, c] := e6.extBut _ _ ap.TO3 t5
  have hz6 : IsZip g6 z TI TO .ellipsis := e6.extBut _ _ (Ne.symm ap.i3z) hz5
  have r6_1 : S1 (k + 1) g6 := D1.frame _ _ _ r5_1 fun b hb o e => e6.extBut b o (fun x => ap.if31 (x ▸ hb)) e
  have r6_2 : S2 (k + 1) g6 := D2.frame _ _ _ r5_2 fun b hb o e => e6.extBut b o (fun x => ap.if32 (x ▸ hb)) e
  refine wpAny_bind (wpAny_seqItems t6 rfl ?_)
  refine wpAny_bind (updateSeq_tup t6 (by simp) fun g7 t7 e7 => ?_)
  replace t7 : IsTup g7 TO #[x, y, u] := t7
  have hz7 : IsZip g7 z TI TO .ellipsis := e7.extBut _ _ (Ne.symm ap.TOz) hz6
  have r7_1 : S1 (k + 1) g7 := D1.frame _ _ _ r6_1 fun b hb o e => e7.extBut b o (fun x => ap.TOf1 (x ▸ hb)) e
  have r7_2 : S2 (k + 1) g7 := D2.frame _ _ _ r6_2 fun b hb o e => e7.extBut b o (fun x => ap.TOf2 (x ▸ hb)) e
  have r7_3 : S3 (k + 1) g7 := D3.frame _ _ _ r6_3 fun b hb o e => e7.extBut b o (fun x => ap.TOf3 (x ▸ hb)) e
  refine wpAny_bind (wpAny_letGo (wpAny_pure (wpAny_pure ?_)))
  refine wpAny_bind (wpAny_seqItems t7 rfl ?_)
  refine wpAny_bind (wpAny_newTuple ?_)
  have hsz : g7.objs.size = s.heap.objs.size := by rw [e7.1, e6.1, e5.1, e4.1, e3.1, e2.1, e1.1]
  have hold : ∀ c o, c ≠ z → c ≠ TO → c ≠ i1 → c ≠ i2 → c ≠ i3 → s.heap.get? c = some o → g7.get? c = some o := fun c o c1 c2 d1 d2 d3 e =>
    e7.extBut c o c2 (e6.extBut c o d3 (e5.extBut c o c2 (e4.extBut c o d2 (e3.extBut c o c2 (e2.extBut c o d1 (q1 c o c1 e))))))
  have hzlt : z < g7.objs.size := Heap.lt_size hz7
  show wpAny _ _ (Builtin.SmallTypes.ownedTupleHandOut (.ref z) (.ref g7.objs.size) >>= _) _ _ _
  refine wpAny_bind ?_
  unfold Builtin.SmallTypes.ownedTupleHandOut
  have hz_ : IsZip (g7.push { cls := .type "tuple", data := .seq #[x, y, u] }) z TI TO .ellipsis := Heap.get?_push_of_some _ hz7
  refine wpAny_bind (wpAny_setField_rec hz_ (by simp) fun f1 fz1 fs1 => ?_)
  replace fz1 : IsZip f1 z TI TO (rawInt g7.objs.size) := fz1
  refine wpAny_setField_rec fz1 (by simp) fun f2 fz2 fs2 => ?_
  replace fz2 : IsZip f2 z TI TO (rawInt g7.objs.size) := fz2
  have up : ∀ c o, c ≠ z → g7.get? c = some o → f2.get? c = some o := fun c o c1 e => fs2.extBut _ _ c1 (fs1.extBut _ _ c1 (Heap.get?_push_of_some _ e))
  have hT : IsTup f2 g7.objs.size #[x, y, u] := fs2.extBut _ _ (Nat.ne_of_gt hzlt) (fs1.extBut _ _ (Nat.ne_of_gt hzlt) (Heap.get?_push_size _ rfl))
  rw [hsz] at fz2 hT
  refine wpAny_pure ⟨_, rfl, ?_⟩
  show Q (.ref g7.objs.size) _
  rw [hsz]
  exact hQ f2 _ x y u hP1 hP2 hP3 fz2 (up _ _ ap.TOz t7) (D1.frame _ _ _ r7_1 fun b hb o e => up b o (fun x => ap.zf1 (x ▸ hb)) e) (D2.frame _ _ _ r7_2 fun b hb o e => up b o (fun x => ap.zf2 (x ▸ hb)) e) (D3.frame _ _ _ r7_3 fun b hb o e => up b o (fun x => ap.zf3 (x ▸ hb)) e) hT fun c o c1 c2 d1 d2 d3 e => up c o c1 (hold c o c1 c2 d1 d2 d3 e)
theorem zip3_end {z TI TO i1 i2 i3 : Addr} {fp1 fp2 fp3 : List Addr} {n k : Nat} {P1 P2 P3 : Nat → Value → Prop} {S1 S2 S3 : Nat → Heap → Prop} {a b c : Value} {Q : Fin → Shared → Prop} (D1 : Draws prog w A i1 fp1 n P1 S1) (ap : Apart3 z TI TO i1 i2 i3 fp1 fp2 fp3) (hz : IsZip s.heap z TI TO .none) (hTI : IsTup s.heap TI #[.ref i1, .ref i2, .ref i3]) (hTO : IsTup s.heap TO #[a, b, c]) (h1 : S1 n s.heap)
    (hE : ∀ h' e, (∀ c o, c ≠ z → c ≠ i1 → s.heap.get? c = some o → h'.get? c = some o) → (∃ o, h'.get? e = some o ∧ o.cls = .type "StopIteration") → E (.ref e) { s with heap := h' }) :
    wpAny (model prog w) A (Builtin.«zip.__next__» ⟨[.ref z], []⟩) Q E s := by
  show wpAny _ _ (field (.ref z) 2 >>= _) _ _ _
  refine wpAny_bind (wpAny_field hz rfl (x := .bool false) rfl ?_)
  show wpAny _ _ (field (.ref z) 3 >>= _) _ _ _
  refine wpAny_bind (wpAny_field hz rfl (x := .ref TI) rfl ?_)
  refine wpAny_bind (wpAny_seqItems hTI rfl ?_)
  show wpAny _ _ (Builtin.SmallTypes.ownedTupleIsFree (.ref z) >>= _) _ _ _
  refine wpAny_bind ?_
  unfold Builtin.SmallTypes.ownedTupleIsFree
  refine wpAny_bind (wpAny_field hz rfl (x := .none) rfl (wpAny_pure ?_))
  simp only [if_true]
  refine wpAny_bind (wpAny_rule ?_)
  refine wpAny_bind (wpAny_field hz rfl (x := .ref TO) rfl ?_)
  refine wpAny_bind (wpAny_setField_rec hz (by simp) fun g1 hz1 e1 => ?_)
  replace hz1 : IsZip g1 z TI TO .ellipsis := hz1
  refine wpAny_bind ?_
  simp only [List.zipIdx_cons, List.zipIdx_nil, List.forIn_cons, List.forIn_nil]
  have q1 : ∀ c o, c ≠ z → s.heap.get? c = some o → g1.get? c = some o := fun c o hc e => e1.extBut _ _ hc e
  have r1_1 : S1 n g1 := D1.frame _ _ _ h1 fun b hb o e => q1 b o (fun x => ap.zf1 (x ▸ hb)) e
  refine wpAny_bind (wpAny_bind (wpAny_onRaise ?_))
  show wpAny _ _ (Builtin.SmallTypes.nextOf (.ref i1) >>= _) _ _ _
  refine wpAny_bind (D1.done _ _ _ r1_1 fun g2 e e2 he => ?_)
  obtain ⟨oe, hoe, hce⟩ := he
  have hz2 : IsZip g2 z TI TO .ellipsis := e2 _ _ (Ne.symm ap.i1z) hz1
  have hez : e ≠ z := fun x => by subst x; rw [hz2] at hoe; cases hoe; simp at hce
  refine wpAny_setField_rec hz2 (by simp) fun g3 _ e3 => hE g3 e (fun c o c1 c3 x => e3.extBut _ _ c1 (e2 _ _ c3 (q1 _ _ c1 x))) ⟨oe, e3.extBut _ _ hez hoe, hce⟩
end
end
section
open PySem.Builtin PySem.Builtin.Str
theorem walksZ_zip2 {prog : Program} {w : World} {A : Around} {z TI TO i1 i2 : Addr} {fp1 fp2 : List Addr} {n : Nat} {P1 P2 : Nat → Value → Prop} {S1 S2 : Nat → Heap → Prop} {Av : List Addr} {h2 : Heap} {items : List PyData} {es : List Expr} {kt : Nat} {pt : Pos} (hh : A.handled = none)
    (D1 : Draws prog w A.in1 i1 fp1 n P1 S1) (D2 : Draws prog w A.in1 i2 fp2 n P2 S2) (ap : Apart2 z TI TO i1 i2 fp1 fp2) (hn : items.length = n)
    (hP : ∀ i x y, i < n → P1 i x → P2 i y → ∃ d1 d2, items[i]? = some (.tuple [d1, d2]) ∧ Rep Av h2 x d1 ∧ Rep Av h2 y d2) :
    WalksZ prog w A z (.Tuple es kt pt) ([z, TI, TO] ++ fp1 ++ fp2 ++ [i1, i2]) [z, TO, i1, i2] Av h2 items (fun i h => IsZip h z TI TO .none ∧ IsTup h TI #[.ref i1, .ref i2] ∧ (∃ a b, IsTup h TO #[a, b]) ∧ S1 i h ∧ S2 i h) where
  sub := fun c hc => by simp at hc ⊢; rcases hc with rfl | rfl | rfl | rfl <;> simp
  frame := fun i h h' hst hk => by
    obtain ⟨hz, hTI, ⟨a, b, hTO⟩, r1, r2⟩ := hst
    exact ⟨hk z (by simp) _ hz, hk TI (by simp) _ hTI, ⟨a, b, hk TO (by simp) _ hTO⟩, D1.frame _ _ _ r1 fun b hb o e => hk b (by simp [hb]) o e, D2.frame _ _ _ r2 fun b hb o e => hk b (by simp [hb]) o e⟩
  item := fun i d s Q E hi hst hQ => by
    obtain ⟨hz, hTI, ⟨a, b, hTO⟩, r1, r2⟩ := hst
    have hlt : i < n := hn ▸ (List.getElem?_eq_some_iff.mp hi).1
    have hT : s.TypeIs (.ref z) "zip" := ⟨_, hz, rfl⟩
    have lt : ∀ {c o}, s.heap.get? c = some o → s.heap.objs.size ≠ c := fun e => Nat.ne_of_gt (Heap.lt_size e)
    unfold pyNext
    refine wpAny_bind (wpAny_attempt (wpAny_callSpecial?_slot (name := Str.ofString "__next__") hT F.slot_zip_next (wpAny_call_entry F.slot_zip_next hT F.entry_zip_next (zip2_item D1 D2 ap hz hTI hTO r1 r2 hlt fun h' tk x y p1 p2 hz' hTO' s1 s2 hT' hk => wpAny_pure ⟨_, rfl, ?_⟩) (F.args_zip_next_1 _))))
    refine wpAny_letOwnedTupleGo_zip hz' fun h3 hz3 hs3 => ?_
    obtain ⟨d1, d2, hit, e1, e2⟩ := hP i x y hlt p1 p2
    rw [hi] at hit; cases hit
    have hTI3 : IsTup h3 TI #[.ref i1, .ref i2] := hs3.extBut _ _ ap.TIz (hk _ _ ap.TIz ap.TITO ap.TI1 ap.TI2 hTI)
    have hT3 : IsTup h3 s.heap.objs.size #[x, y] := hs3.extBut _ _ (lt hz) hT'
    refine hQ (.ref s.heap.objs.size) h3 tk (fun Av' hmv hav => .tuple (fun hm => ?_) hT3 (.cons (hmv _ _ e1) (.cons (hmv _ _ e2) (.nil)))) ⟨hz3, hTI3, ⟨_, _, hs3.extBut _ _ ap.TOz hTO'⟩, D1.frame _ _ _ s1 fun b hb o e => hs3.extBut b o (fun x => ap.zf1 (x ▸ hb)) e, D2.frame _ _ _ s2 fun b hb o e => hs3.extBut b o (fun x => ap.zf2 (x ▸ hb)) e⟩ fun c o hc e => ?_
    · obtain ⟨o, ho⟩ := hav _ hm; exact lt ho rfl
    · simp at hc
      exact hs3.extBut _ _ hc.1 (hk c o hc.1 hc.2.1 hc.2.2.1 hc.2.2.2 e)
  done := fun s Q E hst hQ => by
    obtain ⟨hz, hTI, ⟨a, b, hTO⟩, r1, r2⟩ := hst
    have hT : s.TypeIs (.ref z) "zip" := ⟨_, hz, rfl⟩
    rw [hn] at r1
    unfold pyNext
    refine wpAny_bind (wpAny_attempt (wpAny_callSpecial?_slot (name := Str.ofString "__next__") hT F.slot_zip_next (wpAny_call_entry F.slot_zip_next hT F.entry_zip_next (zip2_end (k := 0) (P2 := P2) (S2 := S2) D1 ap hz hTI hTO r1 fun h' e hk he => ?_) (F.args_zip_next_1 _))))
    obtain ⟨o, ho, hc⟩ := he
    refine wpAny_bind (wpAny_isInstance (T := "StopIteration") (b := true) ⟨o, ho, hc⟩ isSubtype_stop ?_)
    exact wpAny_pure (hQ h' s.toks fun c o hc e => hk c o (fun x => hc (by simp [x])) (fun x => hc (by simp [x])) e)
  self := fun i s Q E hst hQ => wpAny_pyIter_zip hst.1 hQ
theorem walksZ_zip3 {prog : Program} {w : World} {A : Around} {z TI TO i1 i2 i3 : Addr} {fp1 fp2 fp3 : List Addr} {n : Nat} {P1 P2 P3 : Nat → Value → Prop} {S1 S2 S3 : Nat → Heap → Prop} {Av : List Addr} {h2 : Heap} {items : List PyData} {es : List Expr} {kt : Nat} {pt : Pos} (hh : A.handled = none)
    (D1 : Draws prog w A.in1 i1 fp1 n P1 S1) (D2 : Draws prog w A.in1 i2 fp2 n P2 S2) (D3 : Draws prog w A.in1 i3 fp3 n P3 S3) (ap : Apart3 z TI TO i1 i2 i3 fp1 fp2 fp3) (hn : items.length = n)
    (hP : ∀ i x y u, i < n → P1 i x → P2 i y → P3 i u → ∃ d1 d2 d3, items[i]? = some (.tuple [d1, d2, d3]) ∧ Rep Av h2 x d1 ∧ Rep Av h2 y d2 ∧ Rep Av h2 u d3) :
    WalksZ prog w A z (.Tuple es kt pt) ([z, TI, TO] ++ fp1 ++ fp2 ++ fp3 ++ [i1, i2, i3]) [z, TO, i1, i2, i3] Av h2 items (fun i h => IsZip h z TI TO .none ∧ IsTup h TI #[.ref i1, .ref i2, .ref i3] ∧ (∃ a b c, IsTup h TO #[a, b, c]) ∧ S1 i h ∧ S2 i h ∧ S3 i h) where
  sub := fun c hc => by simp at hc ⊢; rcases hc with rfl | rfl | rfl | rfl | rfl <;> simp
  frame := fun i h h' hst hk => by
    obtain ⟨hz, hTI, ⟨a, b, c, hTO⟩, r1, r2, r3⟩ := hst
    exact ⟨hk z (by simp) _ hz, hk TI (by simp) _ hTI, ⟨a, b, c, hk TO (by simp) _ hTO⟩, D1.frame _ _ _ r1 fun b hb o e => hk b (by simp [hb]) o e, D2.frame _ _ _ r2 fun b hb o e => hk b (by simp [hb]) o e, D3.frame _ _ _ r3 fun b hb o e => hk b (by simp [hb]) o e⟩
  item := fun i d s Q E hi hst hQ => by
    obtain ⟨hz, hTI, ⟨a, b, c, hTO⟩, r1, r2, r3⟩ := hst
    have hlt : i < n := hn ▸ (List.getElem?_eq_some_iff.mp hi).1
    have hT : s.TypeIs (.ref z) "zip" := ⟨_, hz, rfl⟩
    have lt : ∀ {c o}, s.heap.get? c = some o → s.heap.objs.size ≠ c := fun e => Nat.ne_of_gt (Heap.lt_size e)
    unfold pyNext
    refine wpAny_bind (wpAny_attempt (wpAny_callSpecial?_slot (name := Str.ofString "__next__") hT F.slot_zip_next (wpAny_call_entry F.slot_zip_next hT F.entry_zip_next (zip3_item D1 D2 D3 ap hz hTI hTO r1 r2 r3 hlt fun h' tk x y u p1 p2 p3 hz' hTO' s1 s2 s3 hT' hk => wpAny_pure ⟨_, rfl, ?_⟩) (F.args_zip_next_1 _))))
    refine wpAny_letOwnedTupleGo_zip hz' fun h3 hz3 hs3 => ?_
    obtain ⟨d1, d2, d3, hit, e1, e2, e3⟩ := hP i x y u hlt p1 p2 p3
    rw [hi] at hit; cases hit
    have hTI3 : IsTup h3 TI #[.ref i1, .ref i2, .ref i3] := hs3.extBut _ _ ap.TIz (hk _ _ ap.TIz ap.TITO ap.TI1 ap.TI2 ap.TI3 hTI)
    have hT3 : IsTup h3 s.heap.objs.size #[x, y, u] := hs3.extBut _ _ (lt hz) hT'
    refine hQ (.ref s.heap.objs.size) h3 tk (fun Av' hmv hav => .tuple (fun hm => ?_) hT3 (.cons (hmv _ _ e1) (.cons (hmv _ _ e2) (.cons (hmv _ _ e3) (.nil))))) ⟨hz3, hTI3, ⟨_, _, _, hs3.extBut _ _ ap.TOz hTO'⟩, D1.frame _ _ _ s1 fun b hb o e => hs3.extBut b o (fun x => ap.zf1 (x ▸ hb)) e, D2.frame _ _ _ s2 fun b hb o e => hs3.extBut b o (fun x => ap.zf2 (x ▸ hb)) e, D3.frame _ _ _ s3 fun b hb o e => hs3.extBut b o (fun x => ap.zf3 (x ▸ hb)) e⟩ fun c o hc e => ?_
    · obtain ⟨o, ho⟩ := hav _ hm; exact lt ho rfl
    · simp at hc
      exact hs3.extBut _ _ hc.1 (hk c o hc.1 hc.2.1 hc.2.2.1 hc.2.2.2.1 hc.2.2.2.2 e)
  done := fun s Q E hst hQ => by
    obtain ⟨hz, hTI, ⟨a, b, c, hTO⟩, r1, r2, r3⟩ := hst
    have hT : s.TypeIs (.ref z) "zip" := ⟨_, hz, rfl⟩
    rw [hn] at r1
    unfold pyNext
    refine wpAny_bind (wpAny_attempt (wpAny_callSpecial?_slot (name := Str.ofString "__next__") hT F.slot_zip_next (wpAny_call_entry F.slot_zip_next hT F.entry_zip_next (zip3_end (k := 0) (P2 := P2) (S2 := S2) (P3 := P3) (S3 := S3) D1 ap hz hTI hTO r1 fun h' e hk he => ?_) (F.args_zip_next_1 _))))
    obtain ⟨o, ho, hc⟩ := he
    refine wpAny_bind (wpAny_isInstance (T := "StopIteration") (b := true) ⟨o, ho, hc⟩ isSubtype_stop ?_)
    exact wpAny_pure (hQ h' s.toks fun c o hc e => hk c o (fun x => hc (by simp [x])) (fun x => hc (by simp [x])) e)
  self := fun i s Q E hst hQ => wpAny_pyIter_zip hst.1 hQ
noncomputable abbrev zsIt (h : Heap) (x : Str) (t : Tok) : Heap := h.push { cls := .type "str_ascii_iterator", data := .fields #[.str x t, .int 0 0] }
noncomputable abbrev zlIt (h : Heap) (l : Addr) : Heap := h.push { cls := .type "list_iterator", data := .fields #[.ref l, .int 0 0] }
noncomputable abbrev zTup (h : Heap) (vs : Array Value) : Heap := h.push { cls := .type "tuple", data := .seq vs }
noncomputable abbrev zRec (h : Heap) (TI TO : Addr) : Heap := h.push { cls := .type "zip", data := .fields #[.none, .bool false, .bool false, .ref TI, .ref TO] }
noncomputable abbrev zs2 (h : Heap) (x y : Str) (t u : Tok) : Heap := zsIt (zsIt h x t) y u
noncomputable abbrev zs3 (h : Heap) (x y : Str) (t u : Tok) : Heap := zTup (zs2 h x y t u) #[.ref h.objs.size, .ref (zsIt h x t).objs.size]
noncomputable abbrev zs4 (h : Heap) (x y : Str) (t u : Tok) : Heap := zTup (zs3 h x y t u) #[.none, .none]
noncomputable abbrev zs5 (h : Heap) (x y : Str) (t u : Tok) : Heap := zRec (zs4 h x y t u) (zs2 h x y t u).objs.size (zs3 h x y t u).objs.size
theorem meets_zip_strs (x y : Str) (t u : Tok) (ha : x.cps.all (· < 128) = true) (hb : y.cps.all (· < 128) = true) :
    Meets (Builtin.«zip.__new__» ⟨[.type "zip", .str x t, .str y u], []⟩) (fun _ R s => R (.ok (.ret (.ref (zs4 s.heap x y t u).objs.size))) { s with heap := zs5 s.heap x y t u }) :=
  .of_wp fun prog w A R s h => by
    obtain ⟨hp, g, d, tk, os⟩ := s
    have hsub := sub_zip
    wp_walk using wpAny_pyIter_ascii ha, wpAny_pyIter_ascii hb
    exact ⟨_, rfl, h⟩
noncomputable abbrev zl3 (h : Heap) (a b c : Addr) : Heap := zlIt (zlIt (zlIt h a) b) c
noncomputable abbrev zl4 (h : Heap) (a b c : Addr) : Heap := zTup (zl3 h a b c) #[.ref h.objs.size, .ref (zlIt h a).objs.size, .ref (zlIt (zlIt h a) b).objs.size]
noncomputable abbrev zl5 (h : Heap) (a b c : Addr) : Heap := zTup (zl4 h a b c) #[.none, .none, .none]
noncomputable abbrev zl6 (h : Heap) (a b c : Addr) : Heap := zRec (zl5 h a b c) (zl3 h a b c).objs.size (zl4 h a b c).objs.size
theorem meets_zip_lists (a b c : Addr) (xs ys us : Array Value) :
    Meets (Builtin.«zip.__new__» ⟨[.type "zip", .ref a, .ref b, .ref c], []⟩) (fun _ R s => s.heap.IsList a xs ∧ s.heap.IsList b ys ∧ s.heap.IsList c us ∧ R (.ok (.ret (.ref (zl5 s.heap a b c).objs.size))) { s with heap := zl6 s.heap a b c }) :=
  .of_wp fun prog w A R s h => by
    obtain ⟨hp, g, d, tk, os⟩ := s; obtain ⟨hl1, hl2, hl3, h⟩ := h
    have hsub := sub_zip
    have hL1 : Heap.IsList (Shared.heap ⟨hp, g, d, tk, os⟩) a xs := hl1
    have hL2 : Heap.IsList (Shared.heap ⟨zlIt hp a, g, d, tk, os⟩) b ys := Heap.IsList.push hl2 _
    have hL3 : Heap.IsList (Shared.heap ⟨zlIt (zlIt hp a) b, g, d, tk, os⟩) c us := Heap.IsList.push (Heap.IsList.push hl3 _) _
    wp_walk using wpAny_pyIter_list hL1, wpAny_pyIter_list hL2, wpAny_pyIter_list hL3
    exact ⟨_, rfl, h⟩
theorem typeCall_zip_3 (a b c : Value) : checkTypeCall "zip" ⟨[a, b, c], []⟩ = pure () := by kernel_rfl
theorem newCall_zip_3 (a b c : Value) : checkBuiltinCall "zip.__new__" ⟨[.type "zip", a, b, c], []⟩ = pure () := by kernel_rfl
theorem args_object_init_4 (a b c d : Value) : argsOk "object.__init__" ⟨[a, b, c, d], []⟩ := by
  unfold argsOk; rw [signature?_of (id := "object.__init__") (n := ['_', '_', 't', 'i', 'n', 'i', '_', '_']) (o := ['t', 'c', 'e', 'j', 'b', 'o']) (by kernel_rfl) F.owner_object]; kernel_rfl
section
variable {prog : Program} {w : World} {A : Around} {E : Value → Shared → Prop} {s : Shared}
theorem call_zip_strs {x y : Str} {t u : Tok} {Q : Value → Shared → Prop} (ha : x.cps.all (· < 128) = true) (hb : y.cps.all (· < 128) = true)
    (h : Q (.ref (zs4 s.heap x y t u).objs.size) { s with heap := zs5 s.heap x y t u }) : wpAny (model prog w) A (call (.type "zip") [.str x t, .str y u]) Q E s := by
  refine callType_new F.called_zip (by decide) (F.typeCall_zip_2 _ _) (F.newCall_zip_2 _ _) (fun obj => F.args_object_init_3 obj _ _) F.entry_zip_new (meets_zip_strs x y t u ha hb) ?_
  show _ ∧ _
  exact ⟨⟨_, Heap.get?_push_size _ rfl, rfl⟩, h⟩
theorem call_zip_lists {a b c : Addr} {xs ys us : Array Value} {Q : Value → Shared → Prop} (h1 : s.heap.IsList a xs) (h2 : s.heap.IsList b ys) (h3 : s.heap.IsList c us)
    (h : Q (.ref (zl5 s.heap a b c).objs.size) { s with heap := zl6 s.heap a b c }) : wpAny (model prog w) A (call (.type "zip") [.ref a, .ref b, .ref c]) Q E s := by
  refine callType_new F.called_zip (by decide) (typeCall_zip_3 _ _ _) (newCall_zip_3 _ _ _) (fun obj => args_object_init_4 obj _ _ _) F.entry_zip_new (meets_zip_lists a b c xs ys us) ⟨h1, h2, h3, ?_⟩
  show _ ∧ _
  exact ⟨⟨_, Heap.get?_push_size _ rfl, rfl⟩, h⟩
end
end
theorem apart3 {N a b c : Nat} (pa : a < N) (pb : b < N) (pc : c < N) : Apart3 (N + 5) (N + 3) (N + 4) N (N + 1) (N + 2) [N, a] [N + 1, b] [N + 2, c] := by
  constructor <;> simp <;> omega
theorem all_nil {P : Addr → Prop} : ∀ q ∈ ([] : List Addr), P q := fun _ h => absurd h List.not_mem_nil
theorem all_cons {P : Addr → Prop} {a : Addr} {l : List Addr} (h : P a) (hl : ∀ q ∈ l, P q) : ∀ q ∈ a :: l, P q := fun q hq => (List.mem_cons.mp hq).elim (fun e => e.symm ▸ h) (hl q)
theorem all_app {P : Addr → Prop} {l m : List Addr} (h : ∀ q ∈ l, P q) (hm : ∀ q ∈ m, P q) : ∀ q ∈ l ++ m, P q := fun q hq => (List.mem_append.mp hq).elim (h q) (hm q)
theorem all_4 {P : Addr → Prop} {N : Addr} (h4 : P (N + 4)) (h3 : P (N + 3)) (h0 : P N) (h1 : P (N + 1)) : ∀ q ∈ [N + 4, N + 3, N, N + 1], P q := all_cons h4 (all_cons h3 (all_cons h0 (all_cons h1 all_nil)))
theorem all_5 {P : Addr → Prop} {N : Addr} (h4 : P (N + 4)) (h2 : P (N + 2)) (h3 : P (N + 3)) (h0 : P N) (h1 : P (N + 1)) : ∀ q ∈ [N + 4, N + 2, N + 3] ++ [N] ++ [N + 1] ++ [N, N + 1], P q :=
  all_app (all_app (all_app (all_cons h4 (all_cons h2 (all_cons h3 all_nil))) (all_cons h0 all_nil)) (all_cons h1 all_nil)) (all_cons h0 (all_cons h1 all_nil))
theorem all_5' {P : Addr → Prop} {N : Addr} (h5 : P (N + 5)) (h4 : P (N + 4)) (h0 : P N) (h1 : P (N + 1)) (h2 : P (N + 2)) : ∀ q ∈ [N + 5, N + 4, N, N + 1, N + 2], P q := all_cons h5 (all_cons h4 (all_cons h0 (all_cons h1 (all_cons h2 all_nil))))
theorem all_9 {P : Addr → Prop} {N a b c : Addr} (h5 : P (N + 5)) (h3 : P (N + 3)) (h4 : P (N + 4)) (h0 : P N) (ha : P a) (h1 : P (N + 1)) (hb : P b) (h2 : P (N + 2)) (hc : P c) :
    ∀ q ∈ [N + 5, N + 3, N + 4] ++ [N, a] ++ [N + 1, b] ++ [N + 2, c] ++ [N, N + 1, N + 2], P q :=
  all_app (all_app (all_app (all_app (all_cons h5 (all_cons h3 (all_cons h4 all_nil))) (all_cons h0 (all_cons ha all_nil))) (all_cons h1 (all_cons hb all_nil))) (all_cons h2 (all_cons hc all_nil))) (all_cons h0 (all_cons h1 (all_cons h2 all_nil)))
theorem ge_0 (N : Nat) : N ≤ N := Nat.le_refl N
theorem ge_k (N k : Nat) : N ≤ N + k := Nat.le_add_right N k
section
variable {prog : Program} {w : World} {h₀ : Heap} {r : Nat} {sc : Scope} {ρ : REnv} {mg mb : Str → Option Value}
noncomputable def pairItems (x y : Str) : List PyData := (List.range x.cps.size).map fun i => .tuple [.str ⟨#[x.cps.getD i 0]⟩, .str ⟨#[y.cps.getD i 0]⟩]
theorem none_of_ge {h h' : Heap} {N : Nat} (hk : ∀ b o, h.get? b = some o → h'.get? b = some o) (hN : h'.objs.size = N) {b : Nat} (hb : N ≤ b) : h.get? b = none := by
  cases e : h.get? b with
  | none => rfl
  | some o => exact absurd (Heap.lt_size (hk _ _ e)) (Nat.not_lt.mpr (hN ▸ hb))
theorem it_zip_strs (C : Ctx w h₀ mg mb) {args : List Expr} {p pos pt : Pos} {es : List Expr} {kt : Nat} {x y : Str} (hk : sc.names.lookup ("zip" : Str) = some .globalImplicit) (hargs : EsOK prog w h₀ r sc ρ args [.str x, .str y])
    (ha : x.cps.all (· < 128) = true) (hb : y.cps.all (· < 128) = true) (hxy : y.cps.size = x.cps.size) :
    IterOK prog w h₀ r sc ρ (.Tuple es kt pt) (.Call (.Name "zip" p) args [] pos) (pairItems x y) := ⟨rfl, fun env s Av α A hs hA st => by
  subst hs
  refine wpAny_Call_NameR (load_blt C.base st hk (by decide) C.zip.1 C.zip.2 ?_)
  rw [backTo_plain hargs.1]
  refine PySem.callWith_type any_plain (evalArgs_list (wpAny_mono (hargs.2 env s Av α A rfl hA st) (fun vs s₁ h₁ => ?_) noE))
  obtain ⟨k₁, rv⟩ := h₁
  cases rv with
  | cons r1 r2 =>
  cases r2 with
  | cons r2 r3 =>
  cases r3
  cases r1 with
  | str _ t =>
  cases r2 with
  | str _ u =>
  refine call_zip_strs ha hb ?_
  have st1 := st.keeps' k₁
  generalize hN : s₁.heap.objs.size = N
  have z1 : (zsIt s₁.heap x t).objs.size = N + 1 := by rw [Heap.size_push, hN]
  have z2 : (zs2 s₁.heap x y t u).objs.size = N + 2 := by rw [Heap.size_push, z1]
  have z3 : (zs3 s₁.heap x y t u).objs.size = N + 3 := by rw [Heap.size_push, z2]
  have z4 : (zs4 s₁.heap x y t u).objs.size = N + 4 := by rw [Heap.size_push, z3]
  have g5 : (zs5 s₁.heap x y t u).get? (zs4 s₁.heap x y t u).objs.size = some _ := Heap.get?_push_size _ rfl
  have g4 : (zs5 s₁.heap x y t u).get? (zs3 s₁.heap x y t u).objs.size = some _ := Heap.get?_push_of_some _ (Heap.get?_push_size _ rfl)
  have g3 : (zs5 s₁.heap x y t u).get? (zs2 s₁.heap x y t u).objs.size = some _ := Heap.get?_push_of_some _ (Heap.get?_push_of_some _ (Heap.get?_push_size _ rfl))
  have g2 : (zs5 s₁.heap x y t u).get? (zsIt s₁.heap x t).objs.size = some _ := Heap.get?_push_of_some _ (Heap.get?_push_of_some _ (Heap.get?_push_of_some _ (Heap.get?_push_size _ rfl)))
  have g1 : (zs5 s₁.heap x y t u).get? s₁.heap.objs.size = some _ := Heap.get?_push_of_some _ (Heap.get?_push_of_some _ (Heap.get?_push_of_some _ (Heap.get?_push_of_some _ (Heap.get?_push_size _ rfl))))
  have up : ∀ b o, s₁.heap.get? b = some o → (zs5 s₁.heap x y t u).get? b = some o := fun b o e => Heap.get?_push_of_some _ (Heap.get?_push_of_some _ (Heap.get?_push_of_some _ (Heap.get?_push_of_some _ (Heap.get?_push_of_some _ e))))
  rw [z4, z2, z3] at g5
  rw [z2, hN, z1] at g3
  rw [z3] at g4
  rw [z1] at g2
  rw [hN] at g1
  rw [z4]
  generalize zs5 s₁.heap x y t u = H at *
  have kk : Keeps s { s₁ with heap := H } := keeps_trans k₁ ⟨H, s₁.toks, rfl, up⟩
  refine wpAny_pyIter_zip g5 ⟨kk, [N + 4, N + 3, N, N + 1], ?_, N + 4, _, _, rfl,
    walksZ_zip2 (n := x.cps.size) (i1 := N) (i2 := N + 1) (TI := N + 2) (TO := N + 3) hA.1 (Draws.strAscii (A := A.in1) hA.1 N x t) (hxy ▸ Draws.strAscii (A := A.in1) hA.1 (N + 1) y u)
      (by constructor <;> simp) (by unfold pairItems; simp) ?_, ⟨g5, g3, ⟨_, _, g4⟩, ⟨_, g1, rfl, rfl⟩, ⟨_, g2, rfl, rfl⟩⟩, ?_, ?_, ?_⟩
  · exact all_4 (none_of_ge (keeps_get k₁) hN (ge_k N 4)) (none_of_ge (keeps_get k₁) hN (ge_k N 3)) (none_of_ge (keeps_get k₁) hN (ge_0 N)) (none_of_ge (keeps_get k₁) hN (ge_k N 1))
  · rintro i vx vy hi ⟨c, uc, hc, rfl⟩ ⟨c', uc', hc', rfl⟩
    refine ⟨.str ⟨#[c]⟩, .str ⟨#[c']⟩, ?_, .str _ _, .str _ _⟩
    unfold pairItems
    rw [List.getElem?_map, List.getElem?_range hi]
    have e1 : x.cps.getD i 0 = c := by
      have := Array.getElem?_eq_some_iff.mp hc; obtain ⟨h, e⟩ := this; simp [Array.getD, h, e]
    have e2 : y.cps.getD i 0 = c' := by
      have := Array.getElem?_eq_some_iff.mp hc'; obtain ⟨h, e⟩ := this; simp [Array.getD, h, e]
    simp only [Option.map_some, e1, e2]
  · have av : ∀ {q : Nat}, N ≤ q → q ∉ Av := fun hge hm => by
      obtain ⟨o, ho⟩ := st1.av _ hm
      exact absurd (Heap.lt_size ho) (Nat.not_lt.mpr (hN ▸ hge))
    exact all_5 ⟨av (ge_k N 4), _, g5, plain_fields⟩ ⟨av (ge_k N 2), _, g3, plain_seq⟩ ⟨av (ge_k N 3), _, g4, plain_seq⟩ ⟨av (ge_0 N), _, g1, plain_fields⟩ ⟨av (ge_k N 1), _, g2, plain_fields⟩
  · have nn : ∀ {q : Nat}, N ≤ q → h₀.get? q = none := fun hge => none_of_ge st1.base hN hge
    exact all_4 ⟨nn (ge_k N 4), _, g5⟩ ⟨nn (ge_k N 3), _, g4⟩ ⟨nn (ge_0 N), _, g1⟩ ⟨nn (ge_k N 1), _, g2⟩
  · rintro i h ⟨a1, a2, ⟨_, _, a3⟩, ⟨o4, a4, _⟩, ⟨o5, a5, _⟩⟩
    exact all_5 ⟨_, a1⟩ ⟨_, a2⟩ ⟨_, a3⟩ ⟨_, a4⟩ ⟨_, a5⟩⟩
noncomputable def tripItems (xs ys us : List PyData) : List PyData := (List.range xs.length).map fun i => .tuple [xs.getD i .none, ys.getD i .none, us.getD i .none]
theorem it_zip_lists (C : Ctx w h₀ mg mb) {args : List Expr} {p pos pt : Pos} {es : List Expr} {kt : Nat} {xs ys us : List PyData} (hk : sc.names.lookup ("zip" : Str) = some .globalImplicit) (hargs : EsOK prog w h₀ r sc ρ args [.list xs, .list ys, .list us])
    (h2 : ys.length = xs.length) (h3 : us.length = xs.length) :
    IterOK prog w h₀ r sc ρ (.Tuple es kt pt) (.Call (.Name "zip" p) args [] pos) (tripItems xs ys us) := ⟨rfl, fun env s Av α A hs hA st => by
  subst hs
  refine wpAny_Call_NameR (load_blt C.base st hk (by decide) C.zip.1 C.zip.2 ?_)
  rw [backTo_plain hargs.1]
  refine PySem.callWith_type any_plain (evalArgs_list (wpAny_mono (hargs.2 env s Av α A rfl hA st) (fun vs s₁ h₁ => ?_) noE))
  obtain ⟨k₁, rv⟩ := h₁
  cases rv with
  | cons r1 r2 =>
  cases r2 with
  | cons r2 r3 =>
  cases r3 with
  | cons r3 r4 =>
  cases r4
  cases r1 with
  | @list a ia na _ a1 a2 a3 =>
  cases r2 with
  | @list b ib nb _ b1 b2 b3 =>
  cases r3 with
  | @list c ic nc _ c1 c2 c3 =>
  have la : s₁.heap.IsList a ia := ⟨_, a2, rfl, _, rfl⟩
  have lb : s₁.heap.IsList b ib := ⟨_, b2, rfl, _, rfl⟩
  have lc : s₁.heap.IsList c ic := ⟨_, c2, rfl, _, rfl⟩
  have ea : ia.size = xs.length := by have := a3.length; simpa using this
  have eb : ib.size = xs.length := by have := b3.length; simp at this; omega
  have ec : ic.size = xs.length := by have := c3.length; simp at this; omega
  refine call_zip_lists la lb lc ?_
  have st1 := st.keeps' k₁
  generalize hN : s₁.heap.objs.size = N
  have ltN : ∀ {b o}, s₁.heap.get? b = some o → b < N := fun e => hN ▸ Heap.lt_size e
  have z1 : (zlIt s₁.heap a).objs.size = N + 1 := by rw [Heap.size_push, hN]
  have z2 : (zlIt (zlIt s₁.heap a) b).objs.size = N + 2 := by rw [Heap.size_push, z1]
  have z3 : (zl3 s₁.heap a b c).objs.size = N + 3 := by rw [Heap.size_push, z2]
  have z4 : (zl4 s₁.heap a b c).objs.size = N + 4 := by rw [Heap.size_push, z3]
  have z5 : (zl5 s₁.heap a b c).objs.size = N + 5 := by rw [Heap.size_push, z4]
  have g6 : (zl6 s₁.heap a b c).get? (zl5 s₁.heap a b c).objs.size = some _ := Heap.get?_push_size _ rfl
  have g5 : (zl6 s₁.heap a b c).get? (zl4 s₁.heap a b c).objs.size = some _ := Heap.get?_push_of_some _ (Heap.get?_push_size _ rfl)
  have g4 : (zl6 s₁.heap a b c).get? (zl3 s₁.heap a b c).objs.size = some _ := Heap.get?_push_of_some _ (Heap.get?_push_of_some _ (Heap.get?_push_size _ rfl))
  have g3 : (zl6 s₁.heap a b c).get? (zlIt (zlIt s₁.heap a) b).objs.size = some _ := Heap.get?_push_of_some _ (Heap.get?_push_of_some _ (Heap.get?_push_of_some _ (Heap.get?_push_size _ rfl)))
  have g2 : (zl6 s₁.heap a b c).get? (zlIt s₁.heap a).objs.size = some _ := Heap.get?_push_of_some _ (Heap.get?_push_of_some _ (Heap.get?_push_of_some _ (Heap.get?_push_of_some _ (Heap.get?_push_size _ rfl))))
  have g1 : (zl6 s₁.heap a b c).get? s₁.heap.objs.size = some _ := Heap.get?_push_of_some _ (Heap.get?_push_of_some _ (Heap.get?_push_of_some _ (Heap.get?_push_of_some _ (Heap.get?_push_of_some _ (Heap.get?_push_size _ rfl)))))
  have up : ∀ d o, s₁.heap.get? d = some o → (zl6 s₁.heap a b c).get? d = some o := fun d o e => Heap.get?_push_of_some _ (Heap.get?_push_of_some _ (Heap.get?_push_of_some _ (Heap.get?_push_of_some _ (Heap.get?_push_of_some _ (Heap.get?_push_of_some _ e)))))
  rw [z5, z3, z4] at g6
  rw [z3, hN, z1, z2] at g4
  rw [z4] at g5
  rw [z2] at g3
  rw [z1] at g2
  rw [hN] at g1
  rw [z5]
  have pa := ltN a2
  have pb := ltN b2
  have pc := ltN c2
  generalize zl6 s₁.heap a b c = H at *
  have kk : Keeps s { s₁ with heap := H } := keeps_trans k₁ ⟨H, s₁.toks, rfl, up⟩
  have lift : ∀ {v d}, Rep Av s₁.heap v d → Rep ([N + 5, N + 4, N, N + 1, N + 2] ++ Av) H v d := fun rd => rd.move (fun a o _ e _ => up a o e) fun q o hq e _ hm => by
    rcases List.mem_append.mp hm with hz | hz
    · exact absurd (ltN e) (Nat.not_lt.mpr (all_5' (P := fun q => N ≤ q) (ge_k N 5) (ge_k N 4) (ge_0 N) (ge_k N 1) (ge_k N 2) _ hz))
    · exact hq hz
  have pick : ∀ {vs : Array Value} {ds : List PyData} {i : Nat} {v : Value}, RepAll Av s₁.heap vs.toList ds → vs[i]? = some v → Rep ([N + 5, N + 4, N, N + 1, N + 2] ++ Av) H v (ds.getD i .none) := fun {vs ds i v} rs hv => by
    obtain ⟨d, hd, rd⟩ := rs.get (i := i) (v := v) (by simpa using hv)
    have : ds.getD i .none = d := by simp [List.getD, hd]
    rw [this]; exact lift rd
  have D1 : Draws prog w A.in1 N [N, a] xs.length _ _ := ea ▸ Draws.list (A := A.in1) (prog := prog) (w := w) hA.1 N a (Nat.ne_of_lt pa) ia
  have D2 : Draws prog w A.in1 (N + 1) [N + 1, b] xs.length _ _ := eb ▸ Draws.list (A := A.in1) (prog := prog) (w := w) hA.1 (N + 1) b (Nat.ne_of_lt (Nat.lt_succ_of_lt pb)) ib
  have D3 : Draws prog w A.in1 (N + 2) [N + 2, c] xs.length _ _ := ec ▸ Draws.list (A := A.in1) (prog := prog) (w := w) hA.1 (N + 2) c (Nat.ne_of_lt (Nat.lt_succ_of_lt (Nat.lt_succ_of_lt pc))) ic
  refine wpAny_pyIter_zip g6 ⟨kk, [N + 5, N + 4, N, N + 1, N + 2], ?_, N + 5, _, _, rfl,
    walksZ_zip3 (n := xs.length) (i1 := N) (i2 := N + 1) (i3 := N + 2) (TI := N + 3) (TO := N + 4) hA.1 D1 D2 D3
      (apart3 pa pb pc) (by unfold tripItems; simp) ?_, ⟨g6, g4, ⟨_, _, _, g5⟩, ⟨⟨_, g1, rfl, rfl⟩, ⟨_, up _ _ a2, rfl, _, rfl⟩⟩, ⟨⟨_, g2, rfl, rfl⟩, ⟨_, up _ _ b2, rfl, _, rfl⟩⟩, ⟨⟨_, g3, rfl, rfl⟩, ⟨_, up _ _ c2, rfl, _, rfl⟩⟩⟩, ?_, ?_, ?_⟩
  · have nn : ∀ {q : Nat}, N ≤ q → s.heap.get? q = none := fun hge => none_of_ge (keeps_get k₁) hN hge
    exact all_5' (nn (ge_k N 5)) (nn (ge_k N 4)) (nn (ge_0 N)) (nn (ge_k N 1)) (nn (ge_k N 2))
  · rintro i vx vy vu hi hx hy hu
    refine ⟨_, _, _, ?_, pick a3 hx, pick b3 hy, pick c3 hu⟩
    unfold tripItems
    rw [List.getElem?_map, List.getElem?_range hi]
    rfl
  · have ge : ∀ {q : Nat}, N ≤ q → q ∉ Av := fun hge hm => by
      obtain ⟨o, ho⟩ := st1.av _ hm
      exact absurd (ltN ho) (Nat.not_lt.mpr hge)
    exact all_9 ⟨ge (ge_k N 5), _, g6, plain_fields⟩ ⟨ge (ge_k N 3), _, g4, plain_seq⟩ ⟨ge (ge_k N 4), _, g5, plain_seq⟩ ⟨ge (ge_0 N), _, g1, plain_fields⟩ ⟨a1, _, up _ _ a2, plain_seq⟩ ⟨ge (ge_k N 1), _, g2, plain_fields⟩ ⟨b1, _, up _ _ b2, plain_seq⟩ ⟨ge (ge_k N 2), _, g3, plain_fields⟩ ⟨c1, _, up _ _ c2, plain_seq⟩
  · have nn : ∀ {q : Nat}, N ≤ q → h₀.get? q = none := fun hge => none_of_ge st1.base hN hge
    exact all_5' ⟨nn (ge_k N 5), _, g6⟩ ⟨nn (ge_k N 4), _, g5⟩ ⟨nn (ge_0 N), _, g1⟩ ⟨nn (ge_k N 1), _, g2⟩ ⟨nn (ge_k N 2), _, g3⟩
  · rintro i h ⟨e1, e2, ⟨_, _, _, e3⟩, ⟨⟨o4, e4, _⟩, ⟨p4, f4, _⟩⟩, ⟨⟨o5, e5, _⟩, ⟨p5, f5, _⟩⟩, ⟨⟨o6, e6, _⟩, ⟨p6, f6, _⟩⟩⟩
    exact all_9 ⟨_, e1⟩ ⟨_, e2⟩ ⟨_, e3⟩ ⟨_, e4⟩ ⟨_, f4⟩ ⟨_, e5⟩ ⟨_, f5⟩ ⟨_, e6⟩ ⟨_, f6⟩⟩
end
section
variable {prog : Program} {w : World} {h₀ : Heap} {r : Nat} {sc : Scope} {ρ : REnv} {mg mb : Str → Option Value} {Φ : Funs}
theorem comp_any (B : BaseOK h₀ mg mb) (F : FunOK prog w h₀ mg r Φ) {t it elt : Expr} {scope : Scope} {pos : Pos} {items ds : List PyData} {n : Nat} (hi : IterOK prog w h₀ r sc ρ t it items) (hsc : scopeOk scope sc = true)
    (hT : (targetsOf [(⟨t, it, [], 0⟩ : Comprehension)]).all (fun x => scope.names.lookup x != some .free) = true) (hx : ∀ x ∈ tnames t, compRho scope ρ x = none) (hlen : items.length ≤ LIM)
    (hds : concatM (fun d => match atgt (relab scope sc) t d (compRho scope ρ) with
      | some ρ1 => (aeval Φ n (relab scope sc) elt ρ1).map fun x => [x]
      | none => none) items = some ds) : CompData prog w h₀ r sc ρ elt [⟨t, it, [], 0⟩] scope pos ds := by
  refine ⟨t, it, [], [], items, rfl, hsc, hT, hi, comp_loop (t := t) rfl hx hlen hds fun d ds' hf => ?_⟩
  split at hf
  · rename_i ρ1 h1
    obtain ⟨v, hv, rfl⟩ := Option.map_eq_some_iff.mp hf
    exact ⟨ρ1, true, h1, ifs_nil, by simpa using turn_last rfl ((snd_all B F n).ev _ _ _ _ hv)⟩
  · cases hf
end
noncomputable def pairS (x y : Str) : List Str := (List.range x.cps.size).map fun i => ⟨#[x.cps.getD i 0, y.cps.getD i 0]⟩
noncomputable def crossP (x y : Str) : Bool := decide (("11" : Str) ∈ pairS x y) && decide (("10" : Str) ∈ pairS x y) && decide (("01" : Str) ∈ pairS x y)
noncomputable def crossS (ls : List Str) : Bool := (List.range ls.length).any fun j => (ls.take j).any fun o => crossP (ls.getD j "") o
noncomputable def ascii4 (x : Str) : Bool := x.cps.all (· < 128) && x.cps.size == 4
noncomputable def crossFun : Fun1 := fun ds => (lst1 ds).bind fun xs => (strsOf xs).bind fun ls => if ls.length ≤ 100 ∧ ls.all ascii4 = true then some (.bool (crossS ls)) else none
theorem crossFun_mk {xs : List PyData} : crossFun [.list xs] = (strsOf xs).bind fun ls => if ls.length ≤ 100 ∧ ls.all ascii4 = true then some (.bool (crossS ls)) else none := rfl
/-- one comparison of the inner loop -/
noncomputable def crossIn (Φ : Funs) (n : Nat) (sc : Scope) (t e1 e2 : Expr) (pn : Str) (rest : List Stmt) (d : PyData) (ρ : REnv) : Option (AFlow × REnv) := match atgt sc t d ρ with
  | some ρ1 => match aeval Φ n sc e1 ρ1, aeval Φ n sc e2 ρ1 with
    | some (.str x), some (.str y) => if ascii4 x = true ∧ ascii4 y = true then aexecs Φ [] n sc rest (ρ1.set pn (.val (.list ((pairS x y).map .str)))) else none
    | _, _ => none
  | none => none
noncomputable def crossOut (Φ : Funs) (n : Nat) (sc : Scope) (t it2 t2 e1 e2 : Expr) (pn : Str) (rest : List Stmt) (d : PyData) (ρ : REnv) : Option (AFlow × REnv) := match atgt sc t d ρ with
  | some ρ1 => match aiter Φ n sc it2 (frz (namesE 1 it2) ρ1) with
    | some items => aloop (crossIn Φ n sc t2 e1 e2 pn rest) items (frz (namesE 1 it2) ρ1)
    | none => none
  | none => none
section
variable {prog : Program} {w : World} {h₀ : Heap} {r : Nat} {sc : Scope} {ρ : REnv} {mg mb : Str → Option Value} {Φ : Funs}
theorem cross_shape (C : Ctx w h₀ mg mb) (F : FunOK prog w h₀ mg r Φ) {n : Nat} {jn on pn an bn : Str} {jp op pp anp bnp ap1 bp1 elp zp zpos cp asp p1 p2 tp : Pos} {kt : Nat} {it1 it2 e1 e2 : Expr} {scope : Scope} {rest : List Stmt} {fin : List Stmt} {ρ' : REnv} {d : PyData} {items : List PyData} {fl : AFlow} {ρ1 : REnv}
    (hz : sc.names.lookup ("zip" : Str) = some .globalImplicit) (hpk : kindOk sc pn = true)
    (hsc : scopeOk scope sc = true) (hT : (targetsOf [(⟨.Tuple [.Name an anp, .Name bn bnp] kt tp, .Call (.Name "zip" zp) [e1, e2] [] zpos, [], 0⟩ : Comprehension)]).all (fun x => scope.names.lookup x != some .free) = true)
    (hab : kindOk (relab scope sc) an = true ∧ kindOk (relab scope sc) bn = true ∧ an ≠ bn) (hna : an ≠ "__debug__" ∧ an ≠ "__classdict__" ∧ bn ≠ "__debug__" ∧ bn ≠ "__classdict__")
    (hfree : scope.names.lookup an ≠ some .free ∧ scope.names.lookup bn ≠ some .free) (hns : notStar e1 = true ∧ notStar e2 = true)
    (hi : aiter Φ (n + 3) sc it1 (frz (namesE 1 it1) ρ) = some items)
    (hloop : aloop (crossOut Φ (n + 3) sc (.Name jn jp) it2 (.Name on op) e1 e2 pn rest) items (frz (namesE 1 it1) ρ) = some (fl, ρ1))
    (hfin : (fl = .ret d ∧ ρ' = ρ1) ∨ (fl = .next ∧ aexecs Φ [] (n + 3) sc fin ρ1 = some (.ret d, ρ'))) :
    ExsOK prog w h₀ r sc (.For (.Name jn jp) it1 [.For (.Name on op) it2 (.Assign [.Name pn pp] (.ListComp (.BinOp (.Name an ap1) .Add (.Name bn bp1) elp) [⟨.Tuple [.Name an anp, .Name bn bnp] kt tp, .Call (.Name "zip" zp) [e1, e2] [] zpos, [], 0⟩] scope cp) asp :: rest) [] p2] [] p1 :: fin) ρ (.ret d) ρ' := by
  have inner : ∀ d ρa fl ρb, crossIn Φ (n + 3) sc (.Name on op) e1 e2 pn rest d ρa = some (fl, ρb) → ∃ ρ1, atgt sc (.Name on op) d ρa = some ρ1 ∧
      ExsOK prog w h₀ r sc (.Assign [.Name pn pp] (.ListComp (.BinOp (.Name an ap1) .Add (.Name bn bp1) elp) [⟨.Tuple [.Name an anp, .Name bn bnp] kt tp, .Call (.Name "zip" zp) [e1, e2] [] zpos, [], 0⟩] scope cp) asp :: rest) ρ1 fl ρb := by
    intro d ρa fl ρb h
    unfold crossIn at h
    split at h
    · rename_i ρ1 h1
      refine ⟨ρ1, h1, ?_⟩
      split at h
      · rename_i x y hx hy
        split at h
        · rename_i hxy
          obtain ⟨ax, ay⟩ := hxy
          unfold ascii4 at ax ay
          simp only [Bool.and_eq_true, beq_iff_eq] at ax ay
          have hev1 := (snd_all C.base F (n + 3)).ev _ _ _ _ hx
          have hev2 := (snd_all C.base F (n + 3)).ev _ _ _ _ hy
          have hargs : EsOK prog w h₀ r sc ρ1 [e1, e2] [.str x, .str y] := es_cons hns.1 hev1 (es_cons hns.2 hev2 es_nil)
          have hit := it_zip_strs C (p := zp) (pos := zpos) (pt := tp) (kt := kt) (es := [.Name an anp, .Name bn bnp]) hz hargs ax.1 ay.1 (by rw [ax.2, ay.2])
          have hnone : ∀ q ∈ tnames (.Tuple [.Name an anp, .Name bn bnp] kt tp), compRho scope ρ1 q = none := by
            intro q hq
            have hq : q = an ∨ q = bn := (List.mem_cons.mp hq).imp id List.mem_singleton.mp
            unfold compRho
            rcases hq with rfl | rfl
            · exact if_neg hfree.1
            · exact if_neg hfree.2
          refine exs_cons (ex_assign_comp hpk (by rw [List.length_map]; unfold pairS; simp [ax.2]; decide) (comp_any C.base F (n := n + 2) hit hsc hT hnone (by unfold pairItems; simp [ax.2]; decide) ?_)) ((sndS_all C.base F [] (n + 3)).exs _ _ _ _ _ h)
          unfold pairItems pairS
          rw [List.map_map]
          have := concatM_list (f := fun d => match atgt (relab scope sc) (.Tuple [.Name an anp, .Name bn bnp] kt tp) d (compRho scope ρ1) with
            | some ρ1 => (aeval Φ (n + 2) (relab scope sc) (.BinOp (.Name an ap1) .Add (.Name bn bp1) elp) ρ1).map fun x => [x]
            | none => none) (enc := fun i : Nat => PyData.tuple [.str ⟨#[x.cps.getD i 0]⟩, .str ⟨#[y.cps.getD i 0]⟩]) (enc' := PyData.str) (ls := List.range x.cps.size) (fun i => [⟨#[x.cps.getD i 0, y.cps.getD i 0]⟩]) (fun i _ => by
              have ht : atgt (relab scope sc) (.Tuple [.Name an anp, .Name bn bnp] kt tp) (.tuple [.str ⟨#[x.cps.getD i 0]⟩, .str ⟨#[y.cps.getD i 0]⟩]) (compRho scope ρ1) = some (((compRho scope ρ1).set an (.val (.str ⟨#[x.cps.getD i 0]⟩))).set bn (.val (.str ⟨#[y.cps.getD i 0]⟩))) := by
                show (if kindOk (relab scope sc) an = true ∧ kindOk (relab scope sc) bn = true ∧ an ≠ bn then _ else none) = _
                rw [if_pos hab]
              rw [ht]
              simp only
              rw [v_bin, v_name, v_name]
              have n1 : aname (((compRho scope ρ1).set an (.val (.str ⟨#[x.cps.getD i 0]⟩))).set bn (.val (.str ⟨#[y.cps.getD i 0]⟩))) an = some (.str ⟨#[x.cps.getD i 0]⟩) := by
                unfold aname; rw [if_neg (by rintro (q | q); exact hna.1 q; exact hna.2.1 q), set_other hab.2.2, set_same]
              have n2 : aname (((compRho scope ρ1).set an (.val (.str ⟨#[x.cps.getD i 0]⟩))).set bn (.val (.str ⟨#[y.cps.getD i 0]⟩))) bn = some (.str ⟨#[y.cps.getD i 0]⟩) := by
                unfold aname; rw [if_neg (by rintro (q | q); exact hna.2.2.1 q; exact hna.2.2.2 q), set_same]
              rw [n1, n2]
              simp only [abin_str]
              rw [if_pos (by show 1 + 1 ≤ LIM; decide)]
              rfl)
          rw [flat_single, List.map_map] at this
          exact this
        · cases h
      · cases h
    · cases h
  have outer : ∀ d ρa fl ρb, crossOut Φ (n + 3) sc (.Name jn jp) it2 (.Name on op) e1 e2 pn rest d ρa = some (fl, ρb) → ∃ ρ1, atgt sc (.Name jn jp) d ρa = some ρ1 ∧
      ExsOK prog w h₀ r sc [.For (.Name on op) it2 (.Assign [.Name pn pp] (.ListComp (.BinOp (.Name an ap1) .Add (.Name bn bp1) elp) [⟨.Tuple [.Name an anp, .Name bn bnp] kt tp, .Call (.Name "zip" zp) [e1, e2] [] zpos, [], 0⟩] scope cp) asp :: rest) [] p2] ρ1 fl ρb := by
    intro d ρa fl ρb h
    unfold crossOut at h
    split at h
    · rename_i ρ1 h1
      refine ⟨ρ1, h1, ?_⟩
      split at h
      · rename_i items2 hi2
        have hex := ex_for (pos := p2) ((snd_all C.base F (n + 3)).iter _ _ _ _ hi2 on op) h inner
        cases fl with
        | next => exact exs_cons hex exs_nil
        | brk => exact exs_stop hex (by simp)
        | ret v => exact exs_stop hex (by simp)
      · cases h
    · cases h
  have hex := ex_for (pos := p1) ((snd_all C.base F (n + 3)).iter _ _ _ _ hi jn jp) hloop outer
  rcases hfin with ⟨rfl, rfl⟩ | ⟨rfl, h⟩
  · exact exs_stop hex (by simp)
  · exact exs_cons hex ((sndS_all C.base F [] (n + 3)).exs _ _ _ _ _ h)
end
theorem aloop_any {α : Type} {f : PyData → REnv → Option (AFlow × REnv)} {I : REnv → Prop} {enc : α → PyData} {p : α → Bool} : ∀ (ls : List α), (∀ a ∈ ls, ∀ ρ, I ρ → ∃ ρ', f (enc a) ρ = some (if p a = true then .ret (.bool true) else .next, ρ') ∧ I ρ') →
    ∀ ρ, I ρ → ∃ ρ', aloop f (ls.map enc) ρ = some (if ls.any p = true then .ret (.bool true) else .next, ρ') ∧ I ρ'
  | [], _, ρ, h => ⟨ρ, rfl, h⟩
  | a :: r, hf, ρ, h => by
    obtain ⟨ρ', h1, h2⟩ := hf a (by simp) ρ h
    rw [List.map_cons, aloop, h1, List.any_cons]
    cases hp : p a with
    | true => exact ⟨ρ', by simp, h2⟩
    | false =>
      obtain ⟨ρ2, h3, h4⟩ := aloop_any r (fun b hb => hf b (by simp [hb])) ρ' h2
      exact ⟨ρ2, by simpa using h3, h4⟩
section
variable {prog : Program} {w : World} {h₀ : Heap} {mg mb : Str → Option Value}
theorem cross_shape' {r : Nat} {sc : Scope} {ρ : REnv} {Φ : Funs} (C : Ctx w h₀ mg mb) (F : FunOK prog w h₀ mg r Φ) {n : Nat} {jn on pn an bn : Str} {jp op pp anp bnp ap1 bp1 elp zp zpos cp asp p1 p2 tp fp : Pos} {kt kf : Nat} {it1 it2 e1 e2 : Expr} {scope : Scope} {rest : List Stmt} {fq : Pos} {b : Bool} {items : List PyData}
    (hz : sc.names.lookup ("zip" : Str) = some .globalImplicit) (hpk : kindOk sc pn = true)
    (hsc : scopeOk scope sc = true) (hT : (targetsOf [(⟨.Tuple [.Name an anp, .Name bn bnp] kt tp, .Call (.Name "zip" zp) [e1, e2] [] zpos, [], 0⟩ : Comprehension)]).all (fun x => scope.names.lookup x != some .free) = true)
    (hab : kindOk (relab scope sc) an = true ∧ kindOk (relab scope sc) bn = true ∧ an ≠ bn) (hna : an ≠ "__debug__" ∧ an ≠ "__classdict__" ∧ bn ≠ "__debug__" ∧ bn ≠ "__classdict__")
    (hfree : scope.names.lookup an ≠ some .free ∧ scope.names.lookup bn ≠ some .free) (hns : notStar e1 = true ∧ notStar e2 = true)
    (hi : aiter Φ (n + 3) sc it1 (frz (namesE 1 it1) ρ) = some items)
    (hloop : ∃ ρ1, aloop (crossOut Φ (n + 3) sc (.Name jn jp) it2 (.Name on op) e1 e2 pn rest) items (frz (namesE 1 it1) ρ) = some (if b = true then .ret (.bool true) else .next, ρ1)) :
    ∃ ρ', ExsOK prog w h₀ r sc [.For (.Name jn jp) it1 [.For (.Name on op) it2 (.Assign [.Name pn pp] (.ListComp (.BinOp (.Name an ap1) .Add (.Name bn bp1) elp) [⟨.Tuple [.Name an anp, .Name bn bnp] kt tp, .Call (.Name "zip" zp) [e1, e2] [] zpos, [], 0⟩] scope cp) asp :: rest) [] p2] [] p1, .Return (some (.Constant (.bool false) kf fp)) fq] ρ (.ret (.bool b)) ρ' := by
  obtain ⟨ρ1, hloop⟩ := hloop
  cases b with
  | true => exact ⟨ρ1, cross_shape C F hz hpk hsc hT hab hna hfree hns hi hloop (.inl ⟨rfl, rfl⟩)⟩
  | false => exact ⟨ρ1, cross_shape C F hz hpk hsc hT hab hna hfree hns hi hloop (.inr ⟨rfl, rfl⟩)⟩
theorem cross_ok (C : Ctx w h₀ mg mb) : ∀ ds d, crossFun ds = some d → CallOK prog w h₀ 3 119 ds d := by
  intro ds d h
  obtain ⟨xs, hx0, h'⟩ := Option.bind_eq_some_iff.mp h
  clear h
  have e0 := lst1_some hx0
  subst e0
  have h := h'
  clear hx0 h'
  · obtain ⟨ls, hl, h2⟩ := Option.bind_eq_some_iff.mp h
    clear h
    have hx := strsOf_eq hl
    subst hx
    split at h2
    · rename_i hw
      obtain ⟨hw, hall⟩ := hw
      cases h2
      have key : ∃ ρ', ExsOK prog w h₀ 2 (fn 119).scope (stmtsOf (fn 119)) (argRho ["sets"] [.list (ls.map .str)]) (.ret (.bool (crossS ls))) ρ' := by
        conv in stmtsOf (fn 119) => whnf
        have hLl : ls.length ≤ LIM := by unfold LIM; omega
        refine cross_shape' C (fun1 C) (n := 27) (items := (List.range ls.length).map fun i : Nat => PyData.int (i : Int)) (by with_unfolding_all rfl) (by with_unfolding_all decide) (by with_unfolding_all decide) (by with_unfolding_all decide) ⟨by with_unfolding_all decide, by with_unfolding_all decide, by decide⟩ ⟨by decide, by decide, by decide, by decide⟩ ⟨by with_unfolding_all decide, by with_unfolding_all decide⟩ ⟨rfl, rfl⟩ ?_ ?_
        · have e1 : (ls.map PyData.str).length ≤ LIM := by rw [List.length_map]; exact hLl
          have e2 : (-1000 : Int) ≤ ((ls.map PyData.str).length : Int) := by omega
          have e3 : ((ls.map PyData.str).length : Int) ≤ 1000 := by rw [List.length_map]; omega
          have e4 : rangeTo 0 ((ls.map PyData.str).length : Int) = (List.range ls.length).map fun i : Nat => PyData.int (i : Int) := by rw [List.length_map, rangeTo_nat]
          simp (config := {decide := true}) only [v_name, v_call, v_range, e_nil, e_cons, aname, set_same, argRho_1, ne_call, ne_zero, frz, if_true, if_false, and_self, List.flatMap_cons, List.flatMap_nil, List.append_nil, blt_len, ab_len, e1, e2, e3, e4]
        · refine Exists.imp (fun ρ' h => h.1) (aloop_any (enc := fun i : Nat => PyData.int (i : Int)) (p := fun j => (ls.take j).any fun o => crossP (ls.getD j "") o) (I := fun ρ => ρ "sets" = some (.val (.list (ls.map .str)))) (List.range ls.length) ?_ _ ?_)
          · intro j hj ρ hs
            have hj : j < ls.length := by simpa using hj
            have a1 := slice_upto ls j hLl
            unfold crossOut
            rw [atgt_name (by with_unfolding_all decide)]
            simp (config := {decide := true}) only [v_name, v_slice, v_itsub, p_none, p_some, aname, set_same, set_other, ne_sub, ne_zero, frz, if_false, ne_eq, hs, a1]
            have a2 : asub (.list (ls.map .str)) (.int (j : Int)) = some (.str (ls.getD j "")) := asub_list (by simp [hj]) (by omega)
            have hm : ls.getD j "" ∈ ls := by simp [List.getD, hj]
            have hx4 := List.all_eq_true.mp hall _ hm
            refine Exists.imp (fun ρ' h => ⟨h.1, h.2.1⟩) (aloop_any (enc := PyData.str) (p := fun o => crossP (ls.getD j "") o) (I := fun ρ => ρ "sets" = some (.val (.list (ls.map .str))) ∧ ρ "j" = some (.val (.int (j : Int)))) (ls.take j) ?_ _ ?_)
            · rintro o ho ρ2 ⟨i1, i2⟩
              have hy4 := List.all_eq_true.mp hall _ (List.mem_of_mem_take ho)
              unfold crossIn
              rw [atgt_name (by with_unfolding_all decide)]
              have hin1 := aIn_strs "11" (pairS (ls.getD j "") o)
              have hin2 := aIn_strs "10" (pairS (ls.getD j "") o)
              have hin3 := aIn_strs "01" (pairS (ls.getD j "") o)
              refine ⟨(ρ2.set "other" (.val (.str o))).set "pairs" (.val (.list ((pairS (ls.getD j "") o).map .str))), ?_, ?_⟩
              · simp (config := {decide := true}) only [x_nil, x_cons, x_if, x_ret, v_const, v_name, v_subn, v_in, t_bool, t_cmp, b_nil, b_and, ac_bool, ac_str, aname, set_same, set_other, ne_const, frz, if_true, if_false, ne_eq, and_self, beq_self_eq_true, i1, i2, a2, hx4, hy4, acmp_In, hin1, hin2, hin3]
                unfold crossP
                cases decide (("11" : Str) ∈ pairS (ls.getD j "") o) <;> cases decide (("10" : Str) ∈ pairS (ls.getD j "") o) <;> cases decide (("01" : Str) ∈ pairS (ls.getD j "") o) <;> rfl
              · refine ⟨?_, ?_⟩ <;> simp (config := {decide := true}) only [set_other, ne_eq, i1, i2]
            · refine ⟨?_, ?_⟩ <;> simp (config := {decide := true}) only [set_same, set_other, ne_eq, hs]
          · simp (config := {decide := true}) only [set_same, argRho_1, ne_call, ne_zero, frz, List.flatMap_cons, List.flatMap_nil, List.append_nil]
      obtain ⟨ρ', e⟩ := key
      exact call_exs C.d119 rfl e
    · cases h2
end
section
variable {prog : Program} {w : World} {A : Around} {E : Value → Shared → Prop} {s : Shared}
noncomputable def FreshExc (h h' : Heap) (e : Addr) (cls : String) (args : List Value) : Prop := (∀ b o, h.get? b = some o → h'.get? b = some o) ∧ h.get? e = none ∧
  ∃ t, h'.get? e = some { cls := .type cls, data := .fields #[.ref t, .none, .none, .none, .bool false, .none] } ∧ h.get? t = none ∧ h'.TupAt t args
theorem fresh_of_made {h h1 h' : Heap} {e : Addr} {cls : String} {args : List Value} (k : ∀ b o, h.get? b = some o → h1.get? b = some o) (x : Heap.MadeExc h1 h' e cls args) : FreshExc h h' e cls args := by
  obtain ⟨t, h1', h2, h3⟩ := x.there
  have back : ∀ b, h1.get? b = none → h.get? b = none := fun b hb => by
    cases e : h.get? b with
    | none => rfl
    | some o => rw [k b o e] at hb; cases hb
  exact ⟨fun b o e => x.keeps b o (k b o e), back _ x.new, t, h1', back _ h2, ⟨_, _, h3, rfl, rfl⟩⟩
/-- more than two values for two names -/
theorem unpack_many {t : Addr} {items : Array Value} {Q : List Value → Shared → Prop} (hh : A.handled = none) (ht : s.heap.IsList t items) (h3 : 2 < items.size)
    (hE : ∀ h' tk e args, FreshExc s.heap h' e "ValueError" args → E (.ref e) { s with heap := h', toks := tk }) : wpAny (model prog w) A (unpackItems (.ref t) 2 none) Q E s := by
  have hlt : t ≠ s.heap.objs.size := by obtain ⟨o, ho, _⟩ := ht; exact Nat.ne_of_lt (Heap.lt_size ho)
  unfold unpackItems
  refine wpAny_bind ?_
  · unfold notIterableAtAll
    refine wpAny_bind (wpAny_specialOf ht.typeIs slot_list_iter.lookup ?_)
    refine wpAny_pure ?_
    simp only [Bool.false_eq_true, if_false]
    refine wpAny_bind (wpAny_holding (wpAny_pyIter_list ht ?_))
    refine wpAny_bind (wpAny_holding (draw_list hlt 2 0 _ _ ⟨_, Heap.get?_push_size _ rfl, rfl, rfl⟩ (ht.push _) (by omega) fun h₁ hit₁ hs₁ => ?_))
    rw [if_neg (by rw [List.drop_zero, List.length_take]; simp; omega)]
    have ht₁ : h₁.IsList t items := (ht.push _).extBut hs₁.extBut hlt
    refine wpAny_bind (wpAny_holding (wpAny_pyNext_list_item hit₁ ht₁ (x := items[2]) (by simp [h3]) fun h₂ hit₂ hs₂ => ?_))
    simp only [Option.isSome_some, if_true]
    refine wpAny_bind (wpAny_rule ?_)
    have k2 : ∀ b o, s.heap.get? b = some o → h₂.get? b = some o := fun b o e => by
      have hb : b ≠ s.heap.objs.size := Nat.ne_of_lt (Heap.lt_size e)
      exact hs₂.extBut b o hb (hs₁.extBut b o hb (Heap.get?_push_of_some _ e))
    refine wpAny_bind ?_
    unfold raiseErrorMade
    refine wpAny_bind (wpAny_mkStr ?_)
    refine wpAny_bind (wpAny_newExc_plain plainExc_ValueError fun h' e hm => wpAny_raiseNew_none hh ?_)
    exact hE h' _ e _ (fresh_of_made k2 hm)
end
theorem entry_unchain : entryFor table "proto.unchain" = some Builtin.«proto.unchain» := entryFor_of_tree (by kernel_rfl)
section
variable {prog : Program} {w : World} {A : Around} {E : Value → Shared → Prop} {s : Shared} {env : Env}
theorem unchain_ok {e2 e1 : Addr} {o1 : Obj} {vs1 : Array Value} {Q : Value → Shared → Prop} (h1 : s.heap.get? e1 = some o1) (hd : o1.data = .fields vs1) (h2 : vs1[2]? = some .none) (hq : Q .none s) :
    wpAny (model prog w) A (runValue (.builtin "proto.unchain" ⟨[.ref e2, .ref e1, .ref e1, .bool false], []⟩)) Q E s := by
  refine wpAny_runValue (codeAny_builtin entry_unchain ?_)
  show wpAny _ _ (field (.ref e1) 2 >>= _) _ _ s
  refine wpAny_bind (wpAny_field h1 hd h2 ?_)
  show wpAny _ _ (ret Value.none) _ _ s
  exact wpAny_pure hq
noncomputable abbrev excObj (cls : String) (t : Addr) (ctx : Value) (sup : Bool) : Obj := { cls := .type cls, data := .fields #[.ref t, .none, ctx, .none, .bool sup, .none] }
theorem raise_from {cls : String} (F : ExcRaiseFacts cls) {x c : Sem Value} {e1 : Addr} {Q : Flow → Shared → Prop} (hh : A.handled = some (.ref e1))
    (h : wpAny (model prog w) A x (fun v s₁ => ∃ e2 t o1 vs1, v = .ref e2 ∧ s₁.heap.get? e2 = some (excObj cls t .none false) ∧ s₁.heap.get? e1 = some o1 ∧ o1.data = .fields vs1 ∧ vs1[2]? = some .none ∧ e1 ≠ e2 ∧
      wpAny (model prog w) A c (fun cv s₂ => cv = .none ∧ s₂ = s₁) E s₁ ∧ (∀ h', Heap.SameBut e2 s₁.heap h' → h'.get? e2 = some (excObj cls t (.ref e1) true) → E (.ref e2) { s₁ with heap := h' })) E s) :
    wpAny (model prog w) A (raiseStmt env (some x) (some c)) Q E s := by
  unfold raiseStmt
  refine wpAny_bind (wpAny_mono h (fun v s₁ h₁ => ?_) fun _ _ x => x)
  obtain ⟨e2, t, o1, vs1, rfl, he, h1, hd1, hv1, hne, hc, hE⟩ := h₁
  refine wpAny_bind (wpAny_holding (wpAny_mono hc (fun cv s₂ q => ?_) fun _ _ x => x))
  obtain ⟨rfl, rfl⟩ := q
  refine wpAny_bind (wpAny_pure ?_)
  obtain ⟨hp, g, d, tk, os⟩ := s₂
  have hsub := F.isExc
  have hmeta := F.plainMeta
  refine wpAny_bind (wpAny_holding ?_)
  unfold excFromValue isExcClass
  repeat (first | refine wpAny_loadPart he ?_ | wp_step)
  have he3 : ((hp.update e2 (Obj.mapFields fun x => x.setIfInBounds 3 Value.none)).update e2 (Obj.mapFields fun x => x.setIfInBounds 4 (Value.bool true))).get? e2 = some (excObj cls t .none true) := by
    have a1 : (hp.update e2 (Obj.mapFields fun x => x.setIfInBounds 3 Value.none)).get? e2 = some (excObj cls t .none false) := by
      rw [Heap.get?_update_self _ he rfl]; rfl
    rw [Heap.get?_update_self _ a1 rfl]; rfl
  have hsb : Heap.SameBut e2 hp ((hp.update e2 (Obj.mapFields fun x => x.setIfInBounds 3 Value.none)).update e2 (Obj.mapFields fun x => x.setIfInBounds 4 (Value.bool true))) := (Heap.SameBut.update ..).trans (Heap.SameBut.update ..)
  generalize (hp.update e2 (Obj.mapFields fun x => x.setIfInBounds 3 Value.none)).update e2 (Obj.mapFields fun x => x.setIfInBounds 4 (Value.bool true)) = H2 at *
  unfold raiseNew
  refine wpAny_bind (wpAny_handled ?_)
  rw [hh]
  have hne' : (Value.ref e1 != Value.ref e2) = true := by simp [hne]
  show wpAny _ _ (do
    if (Value.ref e1 != Value.ref e2) = true then do
      let _ ← holding [Value.ref e2] (runValue (.builtin "proto.unchain" ⟨[.ref e2, .ref e1, .ref e1, .bool false], []⟩))
      updateField e2 2 (.ref e1)
    throw (Value.ref e2)) _ _ _
  rw [if_pos hne']
  have h1' : H2.get? e1 = some o1 := hsb.extBut e1 o1 hne h1
  refine wpAny_bind (wpAny_holding (unchain_ok h1' hd1 hv1 ?_))
  refine wpAny_bind ?_
  unfold updateField
  refine wpAny_bind (wpAny_load he3 ?_)
  show wpAny _ _ (update e2 (Obj.mapFields (·.setIfInBounds 2 (Value.ref e1)))) _ _ _
  refine wpAny_update he3 (wpAny_throw (hE _ (hsb.trans (Heap.SameBut.update ..)) ?_))
  rw [Heap.get?_update_self _ he3 rfl]; rfl
end
noncomputable def wordsS : Str := "Locale must be None, a string, or an iterable of two strings -- language code, encoding."
theorem Ctx.te (C : Ctx w h₀ mg mb) : mg "TypeError" = none ∧ mb "TypeError" = some (.type "TypeError") := ⟨ns_none_of C.K C.g (by with_unfolding_all rfl), (C.bi _ (by decide)).trans (by with_unfolding_all rfl)⟩
theorem Ctx.ve (C : Ctx w h₀ mg mb) : mg "ValueError" = none ∧ mb "ValueError" = some (.type "ValueError") := ⟨ns_none_of C.K C.g (by with_unfolding_all rfl), (C.bi _ (by decide)).trans (by with_unfolding_all rfl)⟩
theorem Ctx.st (C : Ctx w h₀ mg mb) : mg "str" = none ∧ mb "str" = some (.type "str") := ⟨ns_none_of C.K C.g (by with_unfolding_all rfl), (C.bi _ (by decide)).trans (by with_unfolding_all rfl)⟩
section
variable {prog : Program} {w : World} {h₀ : Heap} {mg mb : Str → Option Value}
theorem load_b {M : Model} {A : Around} {s : Shared} {env : Env} {f : Str} {pos : Pos} {v : Value} {Q : Value → Shared → Prop} {E : Value → Shared → Prop} (C : Ctx w h₀ mg mb) (hk0 : ∀ b o, h₀.get? b = some o → s.heap.get? b = some o)
    (hfn : env.scope.kind = .function) (hg : env.globals = mainGlobals) (hb0 : env.builtins = builtinsNs)
    (hk : env.scope.names.lookup f = some .globalImplicit) (hd : f ≠ "__debug__") (hm : mg f = none ∧ mb f = some v) (hQ : Q v s) : wpAny M A (eval (.Name f pos) env) Q E s := by
  refine Calls.Name_function_global hfn hk (Calls.loadGlobal_builtin (mg := mg) (mb := mb) ?_ hm.1 ?_ hm.2 hQ) (beq_eq_false_iff_ne.mpr hd)
  · rw [hg]; exact C.g.keeps hk0
  · rw [hb0]; exact C.b.keeps hk0
theorem assign_one {a b : Expr} {k : Nat} {p : Pos} {env : Env} {v : Value} : assignStores env v none (List.map (fun x => x.snd) (assignEach [.Tuple [a, b] k p] env)) = (assign (.Tuple [a, b] k p) env v >>= fun _ => pure Flow.next) := rfl
noncomputable abbrev RaisedTE (base : Heap) (outer : List Env) (s : Shared) (e : Value) (s' : Shared) : Prop :=
  ∃ e2 h' tk t u, e = .ref e2 ∧ s' = { s with heap := h', toks := tk } ∧ Heap.FlyingW base outer e2 (.type "TypeError") (.ref t) h' ∧ h'.TupAt t [.str wordsS u] ∧ s.heap.UpToSlots h'
/-- an exception on its way, its whole object told -/
noncomputable def ExcSt (base : Heap) (l : List Env) (e : Addr) (cls : String) (t0 : Addr) (ctx : Value) (sup : Bool) (fl : Value) (h : Heap) : Prop :=
  base.StaysIn h ∧ base.get? e = none ∧ h.FunFrames base l ∧ ∃ T oT ts, h.get? e = some { cls := .type cls, data := .fields #[.ref t0, .ref T, ctx, .none, .bool sup, .none] } ∧ base.get? T = none ∧ T ≠ e ∧ h.get? T = some oT ∧ oT.data = .fields ts ∧ ts[3]? = some fl
theorem ExcSt.keeps {base : Heap} {l : List Env} {e : Addr} {cls : String} {t0 : Addr} {ctx fl : Value} {sup : Bool} {h h' : Heap} (x : ExcSt base l e cls t0 ctx sup fl h) (hk : ∀ b o, h.get? b = some o → h'.get? b = some o) : ExcSt base l e cls t0 ctx sup fl h' := by
  obtain ⟨a, b, c, T, oT, ts, he, h1, h2, h3, h4, h5⟩ := x
  exact ⟨fun q o e => hk q o (a q o e), b, c.of_keeps fun q o e _ => ⟨o, hk q o e, rfl⟩, T, oT, ts, hk _ _ he, h1, h2, hk _ _ h3, h4, h5⟩
theorem note_first2 {M : Model} {A : Around} {E : Value → Shared → Prop} {s : Shared} {base : Heap} {env : Env} {outer : List Env} {L e t0 : Addr} {cls : String} {ctx : Value} {sup : Bool} {Q : Unit → Shared → Prop}
    (hfr : A.frames = some (env :: outer)) (hl : s.heap.FunFrames base (env :: outer)) (hf : env.frame = some L)
    (he : s.heap.get? e = some (excObj cls t0 ctx sup)) (hkb : base.StaysIn s.heap) (hen : base.get? e = none)
    (h : ∀ h', ExcSt base (env :: outer) e cls t0 ctx sup (rawInt L) h' → s.heap.UpToSlots h' → Q () { s with heap := h' }) : wpAny M A (noteFrame (.ref e) env) Q E s := by
  have hene : e ∉ (env :: outer).filterMap (·.frame) := fun hm => by
    obtain ⟨_, o, ho, hnf⟩ := hl.mem hm
    rw [he] at ho; injection ho with ho; subst ho; exact hnf _ rfl
  unfold noteFrame
  simp only [hf]
  refine wpAny_bind (wpAny_field he rfl (x := .none) rfl ?_)
  rw [if_neg (by decide)]
  refine wpAny_bind (wpAny_frameOf_fun hfr hl hf fun h₁ hs₁ => ?_)
  refine wpAny_bind (wpAny_entryPlaceOf fun pl hpl => ?_)
  unfold EntryCells.newEntry newFields
  refine wpAny_bind (wpAny_newObj_type ?_ (hpl.sizeOk5 _ _ _ _ _))
  have he₁ : h₁.get? e = some (excObj cls t0 ctx sup) := (hs₁.2.1 e hene).trans he
  have kb₁ : base.StaysIn h₁ := fun b o hbo => (hs₁.2.1 b fun hm => by rw [(hl.mem hm).1] at hbo; cases hbo).trans (hkb b o hbo)
  generalize hTB : ({ cls := .type "traceback", dict := none, data := .fields ([Value.none, .ref L, .none, rawInt L, .none] ++ (if pl.isEmpty then List.replicate 6 Value.none else pl)).toArray } : Obj) = TB
  have he₂ := Heap.get?_push_of_some (h := h₁) TB he₁
  refine wpAny_setField he₂ rfl (by show 1 < 6; decide) (h _ ?_ ?_)
  · have hTe : h₁.objs.size ≠ e := Nat.ne_of_gt (Heap.lt_size he₁)
    have hT0 : (h₁.push TB).get? h₁.objs.size = some TB := Heap.get?_push_size h₁ (by subst hTB; rfl)
    refine ⟨fun b o hbo => ?_, hen, hl.of_keeps fun b o hb hnf => ?_, h₁.objs.size, TB, _, ?_, kb₁.fresh, hTe, ?_, by subst hTB; rfl, ?_⟩
    · have hbe : b ≠ e := fun q => by rw [q, hen] at hbo; cases hbo
      show Heap.get? _ b = _
      rw [Heap.get?_update_other _ _ (Ne.symm hbe)]
      exact Heap.get?_push_of_some _ (kb₁ b o hbo)
    · have hbe : b ≠ e := fun q => by rw [q, he] at hb; injection hb with hb; subst hb; exact hnf _ rfl
      obtain ⟨sl, hs⟩ := hs₁.2.2 b o hb
      refine ⟨{ o with slots := sl }, ?_, rfl⟩
      show Heap.get? _ b = _
      rw [Heap.get?_update_other _ _ (Ne.symm hbe)]
      exact Heap.get?_push_of_some _ hs
    · show Heap.get? _ e = _
      rw [Heap.get?_update_self _ he₂ rfl]; rfl
    · show Heap.get? _ _ = _
      rw [Heap.get?_update_other _ _ (Ne.symm hTe)]; exact hT0
    · rcases hpl with rfl | ⟨_, _, _, _, _, _, _, rfl⟩ <;> simp
  · intro b o hb hnf
    have hbe : b ≠ e := fun q => by rw [q, he] at hb; injection hb with hb; subst hb; exact hnf _ rfl
    obtain ⟨sl, hs⟩ := hs₁.2.2 b o hb
    refine ⟨sl, ?_⟩
    show Heap.get? _ b = _
    rw [Heap.get?_update_other _ _ (Ne.symm hbe)]
    exact Heap.get?_push_of_some _ hs
theorem lands2 {M : Model} {A : Around} {E : Value → Shared → Prop} {s : Shared} {base : Heap} {l : List Env} {e t0 : Addr} {cls : String} {ctx fl : Value} {sup : Bool} {Q : Unit → Shared → Prop} (x : ExcSt base l e cls t0 ctx sup fl s.heap)
    (h : ∀ h', ExcSt base l e cls t0 ctx sup .none h' → s.heap.UpToSlots h' → Q () { s with heap := h' }) : wpAny M A (setFlight (.ref e) none) Q E s := by
  obtain ⟨a, b, c, T, oT, ts, he, h1, h2, h3, h4, h5⟩ := x
  have hsz : 3 < ts.size := (Array.getElem?_eq_some_iff.mp h5).1
  have noRec : ∀ b o, s.heap.get? b = some o → (∀ vs, o.data ≠ .fields vs) → b ≠ T := fun b o hb hnf q => by
    rw [q, h3] at hb; injection hb with hb; subst hb; exact hnf ts h4
  have other : ∀ q, q ≠ T → (s.heap.update T (Obj.mapFields (·.setIfInBounds 3 Value.none))).get? q = s.heap.get? q := fun q hq => Heap.get?_update_other _ _ (Ne.symm hq)
  refine wpAny_setFlight_none he rfl rfl h3 h4 hsz (h _ ⟨fun q o e => ?_, b, c.of_keeps fun q o e hnf => ⟨o, (other q (noRec q o e hnf)).trans e, rfl⟩, T, _, _, (other e (Ne.symm h2)).trans he, h1, h2, Heap.get?_update_self _ h3 (Obj.isFreed_of_fields (Obj.data_mapFields h4 _)), Obj.data_mapFields h4 _, by simp [hsz]⟩ fun q o e hnf => ⟨o.slots, (other q (noRec q o e hnf)).trans e⟩)
  exact (other q fun hq => by rw [hq, h1] at e; cases e).trans (a q o e)
theorem build_raises (C : Ctx w h₀ mg mb) {A : Around} {outer : List Env} {base : Heap} {s : Shared} {l : Addr} {items : Array Value} {Q : Value → Shared → Prop} (ha : AOK 3 A) (hfr : A.frames = some outer)
    (hb0 : ∀ b o, h₀.get? b = some o → base.get? b = some o) (hkb : base.StaysIn s.heap) (hl : s.heap.FunFrames base outer) (hli : s.heap.IsList l items) (h3 : 2 < items.size) :
    wpAny (model prog w) A (call (.ref 78) [.ref l]) Q (RaisedTE base outer s) s := by
  obtain ⟨o, ho, hdat⟩ := C.d78.obj
  have hbase : ∀ b o, h₀.get? b = some o → s.heap.get? b = some o := fun b o e => hkb b o (hb0 b o e)
  refine wpAny_call (codeAny_call_cells (by have := ha.2.1; unfold recursionLimit; omega) (hbase 78 o ho) hdat (C.lim.keeps hbase) (C.d78.code.keeps hbase) C.d78.body (C.d78.bind [.ref l] rfl) C.d78.clo (fun p hp => ?_) (fun s₁ x => ?_) C.d78.co C.d78.gen C.d78.kind)
  · simp at hp; subst hp; exact .inl (by with_unfolding_all rfl)
  obtain ⟨⟨⟨h1, tk1, e1⟩, hns, hkeep, hfr1⟩, _, _, _⟩ := x
  subst e1
  have hN : base.get? s.heap.objs.size = none := hkb.fresh
  generalize hNN : s.heap.objs.size = N at *
  have hFF : h1.FunFrames base (callEnvC (fn 78) N 78 :: outer) := by
    refine ⟨by show (fn 78).scope.kind ≠ .module; rw [C.d78.kind]; simp, ?_, hl.of_keeps fun b o e _ => ⟨o, hkeep b o e, rfl⟩⟩
    obtain ⟨oN, es, ep, hoN, hdN, _⟩ := hns
    exact ⟨N, oN, rfl, hN, hoN, fun vs q => by rw [hdN] at q; cases q⟩
  have hkb1 : base.StaysIn h1 := fun b o e => hkeep b o (hkb b o e)
  have hframes : (A.deeper (callEnvC (fn 78) N 78)).frames = some (callEnvC (fn 78) N 78 :: outer) := Around.frames_deeper hfr
  conv in stmtsOf (fn 78) => whnf
  refine wpAny_execs_cons (wpAny_Try_except (wpAny_execs_cons ?_))
  rw [arm_exec_Assign]
  refine wpAny_bind (wpAny_standAt ?_)
  show wpAny _ _ ((pure false : Sem Bool) >>= _) _ _ _
  refine wpAny_bind (wpAny_pure ?_)
  simp only [Bool.false_eq_true, if_false]
  refine wpAny_bind (wpAny_Name (wpAny_loadName_local C.d78.kind (by with_unfolding_all rfl) hns (v := .ref l) (by with_unfolding_all rfl) ?_) (by decide))
  show wpAny _ _ ((pure none : Sem (Option (List Str))) >>= _) _ _ _
  refine wpAny_bind (wpAny_pure ?_)
  rw [assign_one]
  refine wpAny_bind ?_
  rw [arm_assign_Tuple]
  refine wpAny_bind (wpAny_standAt ?_)
  unfold unpack
  show wpAny _ _ (holding [Value.ref l] (unpackItems (Value.ref l) 2 none) >>= _) _ _ _
  have hli1 : h1.IsList l items := by obtain ⟨ol, hol, r⟩ := hli; exact ⟨ol, hkeep _ _ hol, r⟩
  refine wpAny_bind (wpAny_holding (unpack_many (s := { s with heap := h1, toks := tk1 }) ha.1 hli1 h3 fun h2 tk2 e args hfe => ?_))
  obtain ⟨k2, hen, t1, he, _, _⟩ := hfe
  dsimp only at k2 hen he
  have hkb2 : base.StaysIn h2 := fun b o e => k2 b o (hkb1 b o e)
  have hFF2 : h2.FunFrames base (callEnvC (fn 78) N 78 :: outer) := hFF.of_keeps fun b o e _ => ⟨o, k2 b o e, rfl⟩
  have heb : base.get? e = none := by
    cases q : base.get? e with
    | none => rfl
    | some o => have := hkb1 e o q; rw [hen] at this; cases this
  refine note_first2 (s := { s with heap := h2, toks := tk2 }) hframes hFF2 rfl he hkb2 heb fun h3' hheld3 hsm3 => ?_
  refine lands2 (s := { s with heap := h3', toks := tk2 }) hheld3 fun h4 hfl4 hsm4 => ?_
  have hsm : s.heap.UpToSlots h4 := ((Heap.UpToSlots.of_keeps hkeep).trans (Heap.UpToSlots.of_keeps k2)).trans (hsm3.trans hsm4)
  refine PyProof.Rows.wpAny_handleBy_tup2 (X := "ValueError") (T1 := "TypeError") (T2 := "ValueError") (b1 := false) (b2 := true) (by rw [isSubtype_type]; kernel_rfl) (by rw [isSubtype_type]; kernel_rfl) (by rw [isSubtype_type]; kernel_rfl) (by rw [isSubtype_type]; kernel_rfl) (by rw [isSubtype_type]; kernel_rfl) (by rw [isSubtype_type]; kernel_rfl) ?_
  have hk4 : ∀ b o, h₀.get? b = some o → h4.get? b = some o := fun b o e => hfl4.1 b o (hb0 b o e)
  refine Tuple_ ?_
  rw [backTo_plain rfl]
  refine Calls.spliced_cons (load_b C (s := { s with heap := h4, toks := tk2 }) hk4 C.d78.kind C.d78.glob C.d78.blt (by with_unfolding_all rfl) (by decide) C.te ?_)
  refine Calls.spliced_cons (load_b C (s := { s with heap := h4, toks := tk2 }) hk4 C.d78.kind C.d78.glob C.d78.blt (by with_unfolding_all rfl) (by decide) C.ve ?_)
  refine Calls.spliced_nil (wpAny_newObj_type ?_ (by show 2 ≤ sizeLine; decide))
  dsimp only
  generalize hH5 : h4.push { cls := .type "tuple", data := .seq #[Value.type "TypeError", Value.type "ValueError"] } = h5
  have k5 : ∀ b o, h4.get? b = some o → h5.get? b = some o := fun b o e => by rw [← hH5]; exact Heap.get?_push_of_some _ e
  have hfl5 := hfl4.keeps k5
  refine ⟨_, rfl, ⟨_, by rw [← hH5]; exact Heap.get?_push_size _ rfl, rfl, _, rfl⟩, ?_, ?_⟩
  · obtain ⟨_, _, _, T, oT, ts, hee, _⟩ := hfl5
    exact ⟨_, hee, rfl⟩
  show wpAny _ _ (setFlight (.ref e) none) _ _ _
  refine lands2 (s := { s with heap := h5, toks := tk2 }) hfl5 fun h6 hfl6 hsm6 => ?_
  have hk6 : ∀ b o, h₀.get? b = some o → h6.get? b = some o := fun b o e => hfl6.1 b o (hb0 b o e)
  refine wpAny_passesOwnAt (by passes_own) (wpAny_execs_cons ?_)
  rw [arm_exec_Raise]
  refine wpAny_bind (wpAny_standAt ?_)
  refine raise_from (s := { s with heap := h6, toks := tk2 }) PySem.F.excRaise_TypeError rfl ?_
  refine wpAny_bind (wpAny_Call_ofName (load_b C (s := { s with heap := h6, toks := tk2 }) hk6 C.d78.kind C.d78.glob C.d78.blt (by with_unfolding_all rfl) (by decide) C.te ?_))
  rw [backTo_plain rfl]
  refine callWith_excType rfl (evalArgs_list (Calls.spliced_cons ?_))
  rw [eval_Constant]
  refine wpAny_mkText (Calls.spliced_nil ?_)
  refine wpAny_call_exc PySem.F.excCall_TypeError fun h7 e2 hm => ?_
  refine wpAny_bind (wpAny_standAt (wpAny_pure ?_))
  obtain ⟨t2, he2, ht2n, ht2⟩ := hm.there
  have k7 := hm.keeps
  have e2new := hm.new
  obtain ⟨kb6, _, hFF6, T, oT, ts, he6, hT0, hTe, hT6, hTd, hT3⟩ := hfl6
  dsimp only at k7 e2new he2 ht2
  have ne2 : ∀ {b o}, h6.get? b = some o → b ≠ e2 := fun e q => by rw [q, e2new] at e; cases e
  have heb2 : base.get? e2 = none := by
    cases q : base.get? e2 with
    | none => rfl
    | some o => exact absurd rfl (ne2 (kb6 _ _ q))
  refine ⟨e2, t2, _, _, rfl, he2, k7 e _ he6, rfl, rfl, ne2 he6, ?_, fun h8 hsb he8 => ?_⟩
  · refine wpAny_bind ?_
    rw [eval_Constant]
    exact wpAny_pure (wpAny_bind (wpAny_standAt (wpAny_pure ⟨rfl, rfl⟩)))
  · have k8 : ∀ b o, h6.get? b = some o → h8.get? b = some o := fun b o e => hsb.extBut b o (ne2 e) (k7 b o e)
    have hu8 : h6.UpToSlots h8 := Heap.UpToSlots.of_keeps k8
    have hu : s.heap.UpToSlots h8 := ((hsm.trans (Heap.UpToSlots.of_keeps k5)).trans hsm6).trans hu8
    refine wpAny_leaving_firstW (a0 := .ref t2) hframes (hFF6.of_keeps fun b o e _ => ⟨o, k8 b o e, rfl⟩) rfl he8 (fun b o e => k8 b o (kb6 b o e)) heb2 rfl rfl rfl fun h9 hL => ?_
    obtain ⟨k1, ⟨_, _, k2'⟩, k3, k4⟩ := hL
    have ht8 : h8.TupAt t2 [.str wordsS tk2] := by
      have hne : t2 ≠ e2 := fun q => by rw [q, he2] at ht2; simp at ht2
      exact ⟨_, _, hsb.extBut t2 _ hne ht2, rfl, rfl⟩
    exact ⟨e2, h9, _, t2, tk2, rfl, rfl, ⟨k1, heb2, k2', k3⟩, ht8.of_slots k4, hu.trans k4⟩
end
section
variable {prog : Program} {w : World} {h₀ : Heap} {mg mb : Str → Option Value}
theorem load_g {M : Model} {A : Around} {s : Shared} {env : Env} {f : Str} {pos : Pos} {v : Value} {Q : Value → Shared → Prop} {E : Value → Shared → Prop} (C : Ctx w h₀ mg mb) (hk0 : ∀ b o, h₀.get? b = some o → s.heap.get? b = some o)
    (hfn : env.scope.kind = .function) (hg : env.globals = mainGlobals)
    (hk : env.scope.names.lookup f = some .globalImplicit) (hd : f ≠ "__debug__") (hm : mg f = some v) (hQ : Q v s) : wpAny M A (eval (.Name f pos) env) Q E s := by
  refine Calls.Name_function_global hfn hk (Calls.loadGlobal_global (mg := mg) ?_ hm hQ) (beq_eq_false_iff_ne.mpr hd)
  rw [hg]; exact C.g.keeps hk0
theorem joined_raises (C : Ctx w h₀ mg mb) {A : Around} {outer : List Env} {base : Heap} {s : Shared} {l : Addr} {items : Array Value} {E : Value → Shared → Prop} (ha : AOK 4 A) (hfr : A.frames = some outer)
    (hb0 : ∀ b o, h₀.get? b = some o → base.get? b = some o) (hkb : base.StaysIn s.heap) (hl : s.heap.FunFrames base outer) (hli : s.heap.IsList l items) (h3 : 2 < items.size) :
    wpAny (model prog w) A (call (.ref 99) [.ref l]) (fun v s' => ∃ h' tk u, v = .str wordsS u ∧ s' = { s with heap := h', toks := tk } ∧ base.StaysIn h' ∧ s.heap.UpToSlots h') E s := by
  obtain ⟨o, ho, hdat⟩ := C.d99.obj
  have hbase : ∀ b o, h₀.get? b = some o → s.heap.get? b = some o := fun b o e => hkb b o (hb0 b o e)
  refine wpAny_call (codeAny_call_cells (by have := ha.2.1; unfold recursionLimit; omega) (hbase 99 o ho) hdat (C.lim.keeps hbase) (C.d99.code.keeps hbase) C.d99.body (C.d99.bind [.ref l] rfl) C.d99.clo (fun p hp => ?_) (fun s₁ x => ?_) C.d99.co C.d99.gen C.d99.kind)
  · simp at hp; subst hp; exact .inl (by with_unfolding_all rfl)
  obtain ⟨⟨⟨h1, tk1, e1⟩, hns, hkeep, hfr1⟩, _, _, _⟩ := x
  subst e1
  have hN : base.get? s.heap.objs.size = none := hkb.fresh
  generalize hNN : s.heap.objs.size = N at *
  have hkb1 : base.StaysIn h1 := fun b o e => hkeep b o (hkb b o e)
  have hFF : h1.FunFrames base (callEnvC (fn 99) N 99 :: outer) := by
    refine ⟨by show (fn 99).scope.kind ≠ .module; rw [C.d99.kind]; simp, ?_, hl.of_keeps fun b o e _ => ⟨o, hkeep b o e, rfl⟩⟩
    obtain ⟨oN, es, ep, hoN, hdN, _⟩ := hns
    exact ⟨N, oN, rfl, hN, hoN, fun vs q => by rw [hdN] at q; cases q⟩
  have hframes : (A.deeper (callEnvC (fn 99) N 99)).frames = some (callEnvC (fn 99) N 99 :: outer) := Around.frames_deeper hfr
  have hk1 : ∀ b o, h₀.get? b = some o → h1.get? b = some o := fun b o e => hkb1 b o (hb0 b o e)
  have ha' : AOK 3 (A.deeper (callEnvC (fn 99) N 99)) := by
    obtain ⟨q1, q2, q3⟩ := ha
    refine ⟨q1, ?_, ?_⟩
    · show A.depth + 1 + 3 < 900; omega
    · show A.units + 3 + 4 * 3 + 20 < cLine; omega
  have hli1 : h1.IsList l items := by obtain ⟨ol, hol, r⟩ := hli; exact ⟨ol, hkeep _ _ hol, r⟩
  conv in stmtsOf (fn 99) => whnf
  refine wpAny_execs_cons (wpAny_Try_except (wpAny_execs_cons (wpAny_Return_some ?_)))
  refine wpAny_Call_NameR (load_g C (s := { s with heap := h1, toks := tk1 }) hk1 C.d99.kind C.d99.glob (by with_unfolding_all rfl) (by decide) C.m78 ?_)
  rw [backTo_plain rfl]
  obtain ⟨o78, ho78, hdat78⟩ := C.d78.obj
  refine Calls.callWith_function (o := o78) (fd := fn 78) (evalArgs_list (Calls.spliced_cons (wpAny_Name (wpAny_loadName_local C.d99.kind (by with_unfolding_all rfl) hns (v := .ref l) (by with_unfolding_all rfl) (Calls.spliced_nil ?_)) (by decide))))
  refine ⟨⟨hk1 _ _ ho78, hdat78⟩, ?_⟩
  refine wpAny_mono (build_raises C (Q := fun _ _ => False) ha' hframes hb0 hkb1 hFF hli1 h3) (fun _ _ x => x.elim) (fun e s' hr => ?_)
  obtain ⟨e2, h2, tk2, t, u, rfl, rfl, hfl, ht, hu⟩ := hr
  have hu12 : h1.UpToSlots h2 := hu
  refine wpAny_looks_onW (s := { s with heap := h2, toks := tk2 }) hframes rfl hfl fun h3' hheld hu3 => ?_
  refine wpAny_landsW (s := { s with heap := h3', toks := tk2 }) hheld fun h4 hfl4 hu4 => ?_
  have hk4 : ∀ b o, h₀.get? b = some o → h4.get? b = some o := fun b o e => hfl4.1 b o (hb0 b o e)
  refine wpAny_handleBy_builtin_as (X := "TypeError") (T := "TypeError") (b := true) (by rw [isSubtype_type]; kernel_rfl) (by rw [isSubtype_type]; kernel_rfl) (by rw [isSubtype_type]; kernel_rfl)
    (load_b C (s := { s with heap := h4, toks := tk2 }) hk4 C.d99.kind C.d99.glob C.d99.blt (by with_unfolding_all rfl) (by decide) C.te ⟨rfl, hfl4.there, ?_⟩)
  show wpAny _ _ (setFlight (.ref e2) none) _ _ _
  refine PyProof.Rows.lands_againW (s := { s with heap := h4, toks := tk2 }) hfl4 fun h5 hfl5 hu5 => ?_
  have hu15 : h1.UpToSlots h5 := ((hu12.trans hu3).trans hu4).trans hu5
  have ht5 : h5.TupAt t [.str wordsS u] := ((ht.of_slots hu3).of_slots hu4).of_slots hu5
  have hn5 := hu15.ns hns
  refine wpAny_storeName_local (by with_unfolding_all rfl) hn5 (fun h6 hn6 hs6 => ?_) (by rw [show (callEnvC (fn 99) N 99).scope.kind = .function from C.d99.kind]; rfl)
  have hne : ∀ b o, h5.get? b = some o → (∀ es n, o.data ≠ .dict es n) → b ≠ (callEnvC (fn 99) N 99).locals := fun b o e hnd q => by
    obtain ⟨oL, es, ep, hoL, hdL, _⟩ := hn5
    have e' : h5.get? (callEnvC (fn 99) N 99).locals = some o := by rw [← q]; exact e
    have e3 : some oL = some o := (show h5.get? (callEnvC (fn 99) N 99).locals = some oL from hoL).symm.trans e'
    cases e3
    exact hnd _ _ hdL
  have hk6 : ∀ b o, base.get? b = some o → h6.get? b = some o := fun b o e => hs6.extBut b o (fun q => by
    have q' : b = N := q
    rw [q', hN] at e; cases e) (hfl5.1 b o e)
  refine wpAny_execs_cons (wpAny_Return_some ?_)
  refine wpAny_Call_NameR (load_b C (s := { s with heap := h6, toks := tk2 + 1 }) (fun b o e => hk6 b o (hb0 b o e)) C.d99.kind C.d99.glob C.d99.blt (by with_unfolding_all rfl) (by decide) C.st ?_)
  rw [backTo_plain rfl]
  refine PySem.callWith_type any_plain (evalArgs_list (Calls.spliced_cons (wpAny_Name (wpAny_loadName_local C.d99.kind (by with_unfolding_all rfl) hn6 (v := .ref e2) (by simp) (Calls.spliced_nil ?_)) (by decide))))
  obtain ⟨oe, vs, hoe, hce, hde, h0⟩ := hfl5.first
  have hex : h6.ExcAt e2 "TypeError" (.ref t) := ⟨oe, vs, hs6.extBut _ _ (hne _ _ hoe (fun es n q => by rw [hde] at q; cases q)) hoe, hce, hde, h0⟩
  have ht6 : h6.TupAt t [.str wordsS u] := by
    obtain ⟨ot, n, hot, hc, hd⟩ := ht5
    exact ⟨ot, n, hs6.extBut _ _ (hne _ _ hot (fun es n q => by rw [hd] at q; cases q)) hot, hc, hd⟩
  refine P.str_of_exc_one (s := { s with heap := h6, toks := tk2 + 1 }) PySem.F.excStr_TypeError (by have := ha'.2.2; show (A.deeper (callEnvC (fn 99) N 99)).units + 2 < cLine; omega) hex ht6 ?_
  refine wpAny_nameGoes (s := { s with heap := h6, toks := tk2 + 1 }) (by with_unfolding_all rfl) hn6 (by rw [show (callEnvC (fn 99) N 99).scope.kind = .function from C.d99.kind]; rfl) fun h7 m7 hn7 hs7 => ?_
  refine ⟨h7, _, u, rfl, rfl, fun b o e => hs7.extBut b o (fun q => by
    have q' : b = N := q
    rw [q', hN] at e; cases e) (hk6 b o e), fun b o e hnf => ?_⟩
  obtain ⟨sl, h5b⟩ := hu15 b o (hkeep b o e) hnf
  have hbN : b ≠ N := by
    have := Heap.lt_size e
    rw [hNN] at this
    exact Nat.ne_of_lt this
  exact ⟨sl, hs7.extBut b _ hbN (hs6.extBut b _ hbN h5b)⟩
end
noncomputable def joinedFun : Fun1 := fun ds => (lst1 ds).bind fun xs => (two1 xs).bind fun p => buildF p.1 p.2
theorem joinedFun_mk {a b} : joinedFun [.list [a, b]] = buildF a b := rfl
section
variable {prog : Program} {w : World} {h₀ : Heap} {mg mb : Str → Option Value}
theorem joined_ok (C : Ctx w h₀ mg mb) : ∀ ds d, joinedFun ds = some d → CallOK prog w h₀ 2 99 ds d := by
  intro ds d h
  obtain ⟨xs, hx, h'⟩ := Option.bind_eq_some_iff.mp h
  obtain ⟨⟨a, b⟩, hy, h2⟩ := Option.bind_eq_some_iff.mp h'
  clear h h'
  have e1 : xs = [a, b] := two1_some hy
  subst e1
  have e0 := lst1_some hx
  subst e0
  have h : buildF a b = some d := h2
  clear h2 hy hx
  · have key : ∃ ρ', aexecs Φ0 [] 30 (fn 99).scope (stmtsOf (fn 99)) (argRho ["pieces"] [.list [a, b]]) = some (.ret d, ρ') := by
      conv in stmtsOf (fn 99) => whnf
      refine ⟨argRho ["pieces"] [.list [a, b]], ?_⟩
      simp (config := {decide := true}) only [x_cons, x_ret, x_try, v_name, v_call, e_nil, e_cons, aname, set_same, argRho_1, ne_name, ne_call, frz, frz1_same, if_true, if_false, List.flatMap_cons, List.flatMap_nil, List.append_nil, blt_build, ph0_build, buildFun_mk, h]
    obtain ⟨ρ', e⟩ := key
    exact call_ok C.base (fun0 C) C.d99 rfl e
noncomputable def Φ2 : Funs := (((((Φ1.add "_law_rows" rowsFun).add "_law_directory" directoryFun).add "_law_sets" setsFun).add "_law_cross" crossFun).add "_law_due" dueFun).add "_law_joined" joinedFun
theorem ph2_coll {ds : List PyData} : Φ2 "_strcoll" ds = collFun ds := by
  simp (config := {decide := true}) only [Φ2, Φ1, Φ0, Funs.add, if_true, if_false]
theorem ph2_udm {ds : List PyData} : Φ2 "user_domain_match" ds = udmFun ds := by
  simp (config := {decide := true}) only [Φ2, Φ1, Φ0, Funs.add, if_true, if_false]
theorem ph2_reach {ds : List PyData} : Φ2 "reach" ds = reachFun ds := by
  simp (config := {decide := true}) only [Φ2, Φ1, Φ0, Funs.add, if_true, if_false]
theorem ph2_named {ds : List PyData} : Φ2 "_law_named" ds = namedFun ds := by
  simp (config := {decide := true}) only [Φ2, Φ1, Φ0, Funs.add, if_true, if_false]
theorem ph2_rows {ds : List PyData} : Φ2 "_law_rows" ds = rowsFun ds := by
  simp (config := {decide := true}) only [Φ2, Φ1, Φ0, Funs.add, if_true, if_false]
theorem ph2_directory {ds : List PyData} : Φ2 "_law_directory" ds = directoryFun ds := by
  simp (config := {decide := true}) only [Φ2, Φ1, Φ0, Funs.add, if_true, if_false]
theorem ph2_sets {ds : List PyData} : Φ2 "_law_sets" ds = setsFun ds := by
  simp (config := {decide := true}) only [Φ2, Φ1, Φ0, Funs.add, if_true, if_false]
theorem ph2_cross {ds : List PyData} : Φ2 "_law_cross" ds = crossFun ds := by
  simp (config := {decide := true}) only [Φ2, Φ1, Φ0, Funs.add, if_true, if_false]
theorem ph2_due {ds : List PyData} : Φ2 "_law_due" ds = dueFun ds := by
  simp (config := {decide := true}) only [Φ2, Φ1, Φ0, Funs.add, if_true, if_false]
theorem ph2_joined {ds : List PyData} : Φ2 "_law_joined" ds = joinedFun ds := by
  simp (config := {decide := true}) only [Φ2, Φ1, Φ0, Funs.add, if_true, if_false]
theorem fun2 (C : Ctx w h₀ mg mb) : FunOK prog w h₀ mg 3 Φ2 :=
  (((((((fun1 C).mono (by omega)).add C.m85 C.d85 (rows_ok C)).add C.m114 C.d114 (directory_ok C)).add C.m109 C.d109 (sets_ok C)).add C.m119 C.d119 (cross_ok C)).add C.m124 C.d124 (due_ok C)).add C.m99 C.d99 (fun ds d h => (joined_ok C ds d h).mono (by omega))
end
noncomputable def cellsOf (sc : List Int) : List Int := sc.take 4 ++ ([776, 8066, 8236, 193] : List Int).drop (sc.take 4).length
noncomputable def nm (l : List Str) : Str := (namedS l).getD ""
noncomputable def hostsOf (cs : List Int) (d : Nat) : List Str := (rowOf cs d).map nm
noncomputable def every0 (T : Nat → List Str) : List Str := T 0 ++ (T 1 ++ T 2).flatMap fun s => if s ∈ T 0 then [] else [s]
noncomputable def every1 (l : List Str) : List Str := (List.range l.length).flatMap fun k => if l.getD k "" ∈ l.take k then [] else [l.getD k ""]
noncomputable def everyOf (T : Nat → List Str) : List Str := every1 (every0 T)
noncomputable def manyOf (T : Nat → List Str) (s : Str) : Nat := ((List.range 3).filter fun d => decide (s ∈ T d)).length
noncomputable def sharedOf (T : Nat → List Str) (m : Nat) : List Str := orderedS ((everyOf T).filter fun s => decide (m ≤ manyOf T s))
theorem cells_len (sc : List Int) : (cellsOf sc).length = 4 := by
  unfold cellsOf
  simp
  omega
theorem namedS_some (l : Str) (ls : List Str) : namedS (l :: ls) = some (nm (l :: ls)) := by
  have : ∀ (ls : List Str) (a : Str), ∃ n, ls.foldl (fun acc l => some (name1 acc l)) (some a) = some n := by
    intro ls
    induction ls with
    | nil => exact fun a => ⟨a, rfl⟩
    | cons x r ih => exact fun a => ih _
  unfold nm
  obtain ⟨n, hn⟩ := this ls l
  have e : namedS (l :: ls) = some n := hn
  rw [e]; rfl
theorem menu1_len (i : Nat) : (menu1.getD i "").length ≤ 5 := by
  match i with
  | 0 => decide
  | 1 => decide
  | 2 => decide
  | n + 3 => show (Str.ofString "").length ≤ 5; decide
theorem menu2_len (i : Nat) : (menu2.getD i "").length ≤ 5 := by
  match i with
  | 0 => decide
  | 1 => decide
  | 2 => decide
  | n + 3 => show (Str.ofString "").length ≤ 5; decide
theorem weigh_row (f k : Nat) : weigh (rowLabels f k) ≤ 20 := by
  have h1 := menu1_len (f / 3 % 3)
  have h2 := menu2_len (f / 9)
  have h3 : weigh ((innerS f).take (f % 3)) ≤ weigh (innerS f) := by
    conv => rhs; rw [← List.take_append_drop (f % 3) (innerS f)]
    exact weigh_le
  have h4 : weigh (innerS f) ≤ 12 := by
    show (menu1.getD (f / 3 % 3) "").length + 1 + ((menu2.getD (f / 9) "").length + 1 + 0) ≤ 12
    omega
  have e0 : rowLabels f k = [("local" : Str)] ++ ((innerS f).take (f % 3) ++ [ownS k]) := rfl
  have e1 : weigh [ownS k] = 2 := rfl
  have e2 : weigh [("local" : Str)] = 6 := by decide
  rw [e0, weigh_append, weigh_append, e1, e2]; omega
theorem named_row (f k : Nat) : namedFun [encL (rowLabels f k)] = some (.str (nm (rowLabels f k))) := by
  unfold encL
  simp only [namedFun_mk, strsOf_map, Option.bind_some]
  rw [if_pos (Nat.le_trans (weigh_row f k) (by decide))]
  have : namedS (rowLabels f k) = some (nm (rowLabels f k)) := namedS_some _ _
  rw [this]; rfl
theorem named_of_row {cs : List Int} {d : Nat} {l : List Str} (h : l ∈ rowOf cs d) : namedFun [encL l] = some (.str (nm l)) := by
  unfold rowOf at h
  obtain ⟨k, _, rfl⟩ := List.mem_map.mp h
  exact named_row _ _
theorem rowOf_len (cs : List Int) (d : Nat) : (rowOf cs d).length = 4 := by simp [rowOf]
/-- what the law's first names hold -/
structure LawRho (cs : List Int) (T : Nat → List Str) (ev : List Str) (ρ : REnv) : Prop where
  rows : ρ "rows" = some (.val (.list ((List.range 3).map fun d => .list ((rowOf cs d).map encL))))
  dirs : ρ "directories" = some (.val (.list ((List.range 3).map fun d => .list ((hostsOf cs d).map .str))))
  told : ρ "told" = some (.val (.list ((List.range 3).map fun d => .list ((T d).map .str))))
  every : ρ "every" = some (.val (.list (ev.map .str)))
section
variable {prog : Program} {w : World} {h₀ : Heap} {mg mb : Str → Option Value}
theorem law_pre (sc : List Int) (hsc : sc.length ≤ 63) (T : Nat → List Str) (hTl : ∀ d, (T d).length ≤ 20) (hT : ∀ d, d < 3 → setsFun [.list ((hostsOf (cellsOf sc) d).map .str)] = some (.list ((T d).map .str)))
    : ∃ ρ1, aexecs Φ2 [] 60 (fn 129).scope ((stmtsOf (fn 129)).take 4) (argRho ["script"] [.list (sc.map .int)]) = some (.next, ρ1) ∧ LawRho (cellsOf sc) T (every0 T) ρ1 := by
  conv in stmtsOf (fn 129) => whnf
  simp only [List.take_succ_cons, List.take_zero]
  have c1 : aslice (.list (sc.map .int)) none (some 4) none = some (.list ((sc.take 4).map .int)) := by
    show (if (0:Int) ≤ 4 ∧ (sc.map PyData.int).length ≤ LIM then _ else none) = _
    rw [if_pos ⟨by omega, by rw [List.length_map]; unfold LIM; omega⟩, List.map_take]; rfl
  have l1 : ((sc.take 4).map PyData.int).length ≤ LIM := by rw [List.length_map, List.length_take]; unfold LIM; omega
  have c2 : aslice (.list [.int 776, .int 8066, .int 8236, .int 193]) (some (((sc.take 4).map PyData.int).length : Int)) none none = some (.list ((([776, 8066, 8236, 193] : List Int).drop (sc.take 4).length).map .int)) := by
    show (if (0:Int) ≤ (((sc.take 4).map PyData.int).length : Int) ∧ [PyData.int 776, .int 8066, .int 8236, .int 193].length ≤ LIM then _ else none) = _
    rw [if_pos ⟨by omega, by decide⟩, List.map_drop, List.length_map]; rfl
  have c3 : abin .Add (.list ((sc.take 4).map .int)) (.list ((([776, 8066, 8236, 193] : List Int).drop (sc.take 4).length).map .int)) = some (.list ((cellsOf sc).map .int)) := by
    have := cells_len sc
    unfold cellsOf at this
    rw [List.length_append] at this
    show (if ((sc.take 4).map PyData.int).length + ((([776, 8066, 8236, 193] : List Int).drop (sc.take 4).length).map PyData.int).length ≤ LIM then _ else none) = _
    rw [if_pos (by rw [List.length_map, List.length_map]; unfold LIM; omega)]
    simp [cellsOf]
  have c4 : rowsFun [.list ((cellsOf sc).map .int)] = some (.list ((List.range 3).map fun d => .list ((rowOf (cellsOf sc) d).map encL))) := by
    simp only [rowsFun_mk, intsOf_map, Option.bind_some]
    rw [if_pos (cells_len sc)]
  generalize cellsOf sc = cs at *
  refine run_assign (P := NextWith (LawRho cs T (every0 T))) (d := .list ((List.range 3).map fun d => .list ((rowOf cs d).map encL))) ?_ (by with_unfolding_all decide) (by with_unfolding_all decide) ?_
  · simp (config := {decide := true}) only [v_const, v_name, v_bin, v_list, v_slice, v_call, e_nil, e_cons, p_none, p_some, ac_int, aname, set_same, argRho_1, if_true, if_false, blt_len, blt_rows, ph2_rows, c1, c2, c3, c4, ab_len, l1]
  refine run_assign (P := NextWith (LawRho cs T (every0 T))) (d := .list ((List.range 3).map fun d => .list ((hostsOf cs d).map .str)))
    (by rw [← flat_single (fun d => PyData.list ((hostsOf cs d).map .str)) (List.range 3), ← List.map_id (List.flatMap _ _)]
        exact comp1 (enc := fun d : Nat => PyData.list ((rowOf cs d).map encL)) (enc' := id) (ls := List.range 3) (fun d => [PyData.list ((hostsOf cs d).map .str)])
          (by simp (config := {decide := true}) only [v_name, v_itname, aname, set_same, argRho_1, if_false]) (by decide) (by rw [flat_single, List.length_map]; decide) (fun d _ => by
            rw [v_ifs0]
            simp only
            rw [show List.map PyData.str (hostsOf cs d) = ((rowOf cs d).flatMap (fun l => [nm l])).map PyData.str by rw [flat_single]; rfl]
            rw [comp1 (enc := encL) (enc' := PyData.str) (ls := rowOf cs d) (fun l => [nm l]) (by simp (config := {decide := true}) only [v_name, v_itname, aname, set_same, argRho_1, if_false]) (by rw [rowOf_len]; decide) (by rw [flat_single, List.length_map, rowOf_len]; decide) (fun l hl => by
              have := named_of_row hl
              simp (config := {decide := true}) only [v_name, v_call, v_ifs0, e_nil, e_cons, aname, set_same, argRho_1, if_true, if_false, Option.map_some, blt_named, ph2_named, this, List.map_cons, List.map_nil]) (by decide) (by with_unfolding_all decide) (by with_unfolding_all decide) (by with_unfolding_all decide)]
            rfl) (by decide) (by with_unfolding_all decide) (by with_unfolding_all decide) (by with_unfolding_all decide)) (by with_unfolding_all decide) (by with_unfolding_all decide) ?_
  refine run_assign (P := NextWith (LawRho cs T (every0 T))) (d := .list ((List.range 3).map fun d => .list ((T d).map .str)))
    (by rw [← flat_single (fun d => PyData.list ((T d).map .str)) (List.range 3), ← List.map_id (List.flatMap _ _)]
        exact comp1 (enc := fun d : Nat => PyData.list ((hostsOf cs d).map .str)) (enc' := id) (ls := List.range 3) (fun d => [PyData.list ((T d).map .str)])
          (by simp (config := {decide := true}) only [v_name, v_itname, aname, set_same, argRho_1, if_false]) (by decide) (by rw [flat_single, List.length_map]; decide) (fun d hd => by
            have := hT d (by simpa using hd)
            simp (config := {decide := true}) only [v_name, v_call, v_ifs0, e_nil, e_cons, aname, set_same, argRho_1, if_true, if_false, Option.map_some, blt_sets, ph2_sets, this, List.map_cons, List.map_nil, id]) (by decide) (by with_unfolding_all decide) (by with_unfolding_all decide) (by with_unfolding_all decide)) (by with_unfolding_all decide) (by with_unfolding_all decide) ?_
  have t0 : asub (.list ((List.range 3).map fun d => PyData.list ((T d).map .str))) (.int 0) = some (.list ((T 0).map .str)) := rfl
  have t1 : asub (.list ((List.range 3).map fun d => PyData.list ((T d).map .str))) (.int 1) = some (.list ((T 1).map .str)) := rfl
  have t2 : asub (.list ((List.range 3).map fun d => PyData.list ((T d).map .str))) (.int 2) = some (.list ((T 2).map .str)) := rfl
  have a12 : abin .Add (.list ((T 1).map .str)) (.list ((T 2).map .str)) = some (.list ((T 1 ++ T 2).map .str)) := by
    have h1 := hTl 1; have h2 := hTl 2
    show (if ((T 1).map PyData.str).length + ((T 2).map PyData.str).length ≤ LIM then _ else none) = _
    rw [if_pos (by rw [List.length_map, List.length_map]; unfold LIM; omega), List.map_append]
  have fl : ((T 1 ++ T 2).flatMap fun s => if s ∈ T 0 then [] else [s]).length ≤ 40 := by
    have : ∀ l : List Str, (l.flatMap fun s => if s ∈ T 0 then [] else [s]).length ≤ l.length := by
      intro l
      induction l with
      | nil => simp
      | cons x r ih =>
        rw [List.flatMap_cons, List.length_append, List.length_cons]
        split
        · simp only [List.length_nil]; omega
        · simp only [List.length_singleton]; omega
    have h1 := hTl 1; have h2 := hTl 2; have h3 := this (T 1 ++ T 2)
    rw [List.length_append] at h3; omega
  refine run_assign (P := NextWith (LawRho cs T (every0 T))) (d := .list ((every0 T).map .str))
    (bin1 (a := .list ((T 0).map .str)) (b := .list (((T 1 ++ T 2).flatMap fun s => if s ∈ T 0 then [] else [s]).map .str)) (by simp (config := {decide := true}) only [v_const, v_name, v_subc, ac_int, aname, set_same, argRho_1, if_false, t0])
      (comp1 (enc := PyData.str) (enc' := PyData.str) (ls := T 1 ++ T 2) (fun s => if s ∈ T 0 then [] else [s]) (by simp (config := {decide := true}) only [v_const, v_name, v_bin, v_subc, v_itbin, ac_int, aname, set_same, argRho_1, if_false, t1, t2, a12])
        (by have h1 := hTl 1; have h2 := hTl 2; rw [List.length_append]; unfold LIM; omega) (by unfold LIM; omega) (fun s _ => by
          have hin := aIn_strs s (T 0)
          by_cases hm : s ∈ T 0
          · rw [decide_eq_true hm] at hin
            simp (config := {decide := true}) only [v_const, v_name, v_subc, v_ifs, v_notinsub, t_cmp, ac_int, aname, set_same, set_other, argRho_1, if_true, if_false, ne_eq, Option.map_some, Bool.not_true, compRho, t0, acmp_NotIn, hin, hm, List.map_nil]
          · rw [decide_eq_false hm] at hin
            simp (config := {decide := true}) only [v_const, v_name, v_subc, v_ifs0, v_ifs, v_notinsub, t_cmp, ac_int, aname, set_same, set_other, argRho_1, if_true, if_false, ne_eq, Option.map_some, Bool.not_false, compRho, t0, acmp_NotIn, hin, hm, List.map_cons, List.map_nil])
        (by decide) (by with_unfolding_all decide) (by with_unfolding_all decide) (by with_unfolding_all decide)) (by
          have h0 := hTl 0
          show (if ((T 0).map PyData.str).length + (((T 1 ++ T 2).flatMap fun s => if s ∈ T 0 then [] else [s]).map PyData.str).length ≤ LIM then _ else none) = _
          rw [if_pos (by rw [List.length_map, List.length_map]; unfold LIM; omega)]
          simp [every0])) (by with_unfolding_all decide) (by with_unfolding_all decide) ?_
  rw [x_nil]
  refine ⟨_, rfl, ?_, ?_, ?_, ?_⟩ <;> simp (config := {decide := true}) only [set_same, set_other, argRho_1, ne_eq]
end
noncomputable def wordsS2 : Str := "Locale must be None, a string, or an iterable of two strings -- language code, encoding."
noncomputable def turnsL : List Int := [0, -1, -1, -1, 1, 0, -1, -1, 1, 1, 0, -1, 1, 1, 1, 0]
theorem count_three (a b c : Bool) : amethod .count (.list [.bool a, .bool b, .bool c]) [.bool true] = some (.int ((([a, b, c].filter id).length : Nat) : Int)) := by
  cases a <;> cases b <;> cases c <;> rfl
theorem many_three (T : Nat → List Str) (s : Str) : manyOf T s = ([decide (s ∈ T 0), decide (s ∈ T 1), decide (s ∈ T 2)].filter id).length := by
  unfold manyOf
  rw [show List.range 3 = [0, 1, 2] from rfl]
  simp only [List.filter_cons, List.filter_nil, id]
  cases decide (s ∈ T 0) <;> cases decide (s ∈ T 1) <;> cases decide (s ∈ T 2) <;> rfl
theorem flat_len {α β : Type} (g : α → List β) (hg : ∀ a, (g a).length ≤ 1) : ∀ l : List α, (l.flatMap g).length ≤ l.length
  | [] => by simp
  | x :: r => by
    rw [List.flatMap_cons, List.length_append, List.length_cons]
    have := flat_len g hg r; have := hg x; omega
theorem every0_len (T : Nat → List Str) (hTl : ∀ d, (T d).length ≤ 20) : (every0 T).length ≤ 60 := by
  unfold every0
  rw [List.length_append]
  have := flat_len (fun s => if s ∈ T 0 then [] else [s]) (fun s => by split <;> simp) (T 1 ++ T 2)
  rw [List.length_append] at this
  have h0 := hTl 0; have h1 := hTl 1; have h2 := hTl 2
  omega
theorem every1_len (l : List Str) : (every1 l).length ≤ l.length := by
  unfold every1
  have := flat_len (fun k => if l.getD k "" ∈ l.take k then [] else [l.getD k ""]) (fun s => by split <;> simp) (List.range l.length)
  rwa [List.length_range] at this
theorem filter_flat {α : Type} (p : α → Bool) (l : List α) : l.flatMap (fun x => if p x = true then [x] else []) = l.filter p := by
  induction l with
  | nil => rfl
  | cons x r ih => rw [List.flatMap_cons, List.filter_cons, ih]; cases p x <;> rfl
section
variable {prog : Program} {w : World} {h₀ : Heap} {mg mb : Str → Option Value}
structure LawMid (cs : List Int) (T : Nat → List Str) (ρ : REnv) : Prop where
  rows : ρ "rows" = some (.val (.list ((List.range 3).map fun d => .list ((rowOf cs d).map encL))))
  dirs : ρ "directories" = some (.val (.list ((List.range 3).map fun d => .list ((hostsOf cs d).map .str))))
  told : ρ "told" = some (.val (.list ((List.range 3).map fun d => .list ((T d).map .str))))
  words : ρ "words" = some (.val (.str wordsS2))
  turns : ρ "turns" = some (.val (.list (turnsL.map .int)))
theorem law_mid (cs : List Int) (T S : Nat → List Str) (H : Nat → List Str) (hTl : ∀ d, (T d).length ≤ 20)
    (hD : ∀ m, m = 1 ∨ m = 2 → directoryFun [.list ((sharedOf T m).map .str)] = some (.list ((H m).map .str)) ∧ setsFun [.list ((H m).map .str)] = some (.list ((S m).map .str)) ∧ crossFun [.list ((sharedOf T m).map .str)] = some (.bool (crossS (sharedOf T m))) ∧ decide (S m = sharedOf T m) = !crossS (sharedOf T m))
    (hX : crossS (sharedOf T 2) = false) (ρ : REnv) (hρ : LawRho cs T (every0 T) ρ)
    : ∃ ρ1, aexecs Φ2 [] 60 (fn 129).scope (((stmtsOf (fn 129)).drop 4).take 4) ρ = some (.next, ρ1) ∧ LawMid cs T ρ1 := by
  conv in stmtsOf (fn 129) => whnf
  simp only [List.take_succ_cons, List.take_zero, List.drop_succ_cons, List.drop_zero]
  obtain ⟨r1, r2, r3, r4⟩ := hρ
  have hl := every0_len T hTl
  have hl' : (everyOf T).length ≤ 60 := Nat.le_trans (every1_len _) hl
  refine run_assign (P := NextWith (LawMid cs T)) (d := .list ((everyOf T).map .str))
    (comp1 (enc := fun i : Nat => PyData.int (i : Int)) (enc' := PyData.str) (ls := List.range (every0 T).length) (fun k => if (every0 T).getD k "" ∈ (every0 T).take k then [] else [(every0 T).getD k ""])
      (by
        have e1 : ((every0 T).map PyData.str).length ≤ LIM := by rw [List.length_map]; unfold LIM; omega
        have e2 : (-1000 : Int) ≤ (((every0 T).map PyData.str).length : Int) := by omega
        have e3 : (((every0 T).map PyData.str).length : Int) ≤ 1000 := by rw [List.length_map]; omega
        have e4 : rangeTo 0 (((every0 T).map PyData.str).length : Int) = (List.range (every0 T).length).map fun i : Nat => PyData.int (i : Int) := by rw [List.length_map, rangeTo_nat]
        simp (config := {decide := true}) only [v_name, v_call, v_range, e_nil, e_cons, aname, if_true, if_false, and_self, blt_len, r4, ab_len, e1, e2, e3, e4])
      (by rw [List.length_range]; unfold LIM; omega) (by have := every1_len (every0 T); unfold every1 at this; unfold LIM; omega)
      (fun k hk => by
        have hk' : k < (every0 T).length := by simpa using hk
        have hin := aIn_strs ((every0 T).getD k "") ((every0 T).take k)
        have hs := slice_upto (every0 T) k (by unfold LIM; omega)
        have ha : asub (.list ((every0 T).map .str)) (.int (k : Int)) = some (.str ((every0 T).getD k "")) := asub_list (by simp [List.getElem?_eq_getElem hk']) (by omega)
        by_cases hm : (every0 T).getD k "" ∈ (every0 T).take k
        · rw [decide_eq_true hm] at hin
          simp (config := {decide := true}) only [v_name, v_slice, v_subn, v_ifs, v_notinsub, t_cmp, p_none, p_some, aname, set_same, set_other, if_true, if_false, ne_eq, Option.map_some, Bool.not_true, compRho, r4, hs, ha, acmp_NotIn, hin, hm, List.map_nil]
        · rw [decide_eq_false hm] at hin
          simp (config := {decide := true}) only [v_name, v_slice, v_subn, v_ifs0, v_ifs, v_notinsub, t_cmp, p_none, p_some, aname, set_same, set_other, if_true, if_false, ne_eq, Option.map_some, Bool.not_false, compRho, r4, hs, ha, acmp_NotIn, hin, hm, List.map_cons, List.map_nil])
      (by decide) (by with_unfolding_all decide) (by with_unfolding_all decide) (by with_unfolding_all decide)) (by with_unfolding_all decide) (by with_unfolding_all decide) ?_
  refine run_forN (P := NextWith (LawMid cs T)) (items := [.int 1, .int 2]) (fun done ρ => LawRho cs T (everyOf T) ρ) ?_ ?_ (by with_unfolding_all decide) ?_ ?_
  · simp (config := {decide := true}) only [v_const, v_list, v_itlist, e_nil, e_cons, ac_int, ne_list, frz, if_true]
  · refine ⟨?_, ?_, ?_, ?_⟩ <;> simp (config := {decide := true}) only [set_same, set_other, ne_list, frz, ne_eq, r1, r2, r3]
  · rintro done d rest ρ' e ⟨q1, q2, q3, q4⟩
    have hd : ∃ m : Nat, (m = 1 ∨ m = 2) ∧ d = .int (m : Int) := by
      have : d ∈ [PyData.int 1, .int 2] := by rw [e]; simp
      simp only [List.mem_cons, List.not_mem_nil, or_false] at this
      rcases this with rfl | rfl
      · exact ⟨1, .inl rfl, rfl⟩
      · exact ⟨2, .inr rfl, rfl⟩
    obtain ⟨m, hm, rfl⟩ := hd
    obtain ⟨d1, d2, d3, d4⟩ := hD m hm
    have hmo : ((everyOf T).filter fun s => decide (m ≤ manyOf T s)).length ≤ 60 := Nat.le_trans (List.length_filter_le _ _) hl'
    have hor : orderedFun [.list (((everyOf T).filter fun s => decide (m ≤ manyOf T s)).map .str)] = some (.list ((sharedOf T m).map .str)) := by
      simp only [orderedFun_mk, strsOf_map, Option.bind_some]
      rw [if_pos (by omega)]; rfl
    refine run_assign (P := NextWith _) (d := .list ((sharedOf T m).map .str))
      (call1 (ds := [.list (((everyOf T).filter fun s => decide (m ≤ manyOf T s)).map .str)]) (args1 (by
        rw [← filter_flat (fun s => decide (m ≤ manyOf T s))]
        exact comp1 (enc := PyData.str) (enc' := PyData.str) (ls := everyOf T) (fun s => if decide (m ≤ manyOf T s) = true then [s] else [])
          (by simp (config := {decide := true}) only [v_name, v_itname, aname, set_other, if_false, ne_eq, q4]) (by unfold LIM; omega) (by rw [filter_flat]; unfold LIM; omega) (fun s _ => by
            rw [v_ifs, t_cmp, v_acmp (by decide) (by decide)]
            rw [meth1 (mm := .count) (ds := [.bool true]) (a := .list [.bool (decide (s ∈ T 0)), .bool (decide (s ∈ T 1)), .bool (decide (s ∈ T 2))]) (by
                rw [show PyData.list [.bool (decide (s ∈ T 0)), .bool (decide (s ∈ T 1)), .bool (decide (s ∈ T 2))] = .list (((List.range 3).flatMap fun d => [decide (s ∈ T d)]).map .bool) from rfl]
                exact comp1 (enc := fun d : Nat => PyData.list ((T d).map .str)) (enc' := PyData.bool) (ls := List.range 3) (fun d => [decide (s ∈ T d)])
                  (by simp (config := {decide := true}) only [v_name, v_itname, aname, set_other, if_true, if_false, ne_eq, compRho, q3]) (by decide) (by rw [flat_single, List.length_map]; decide) (fun d _ => by
                    have hin := aIn_strs s (T d)
                    simp (config := {decide := true}) only [v_name, v_cmp, v_ifs0, v_in, aname, set_same, set_other, if_true, if_false, ne_eq, Option.map_some, compRho, acmp_In, hin, List.map_cons, List.map_nil])
                  (by decide) (by with_unfolding_all decide) (by with_unfolding_all decide) (by with_unfolding_all decide))
              (by simp (config := {decide := true}) only [v_const, e_nil, e_cons, ac_bool, if_true]) (count_three _ _ _) meth_count (by decide), ← many_three]
            have hge : acmp .GtE (.int ((manyOf T s : Nat) : Int)) (.int (m : Int)) = some (decide (m ≤ manyOf T s)) := by
              simp only [acmp_GtE, Option.some.injEq, decide_eq_decide]; omega
            by_cases hm2 : m ≤ manyOf T s
            · rw [decide_eq_true hm2] at hge
              simp (config := {decide := true}) only [v_name, v_ifs0, aname, set_same, set_other, if_true, if_false, ne_eq, Option.map_some, compRho, hge, hm2, decide_true, List.map_cons, List.map_nil]
            · rw [decide_eq_false hm2] at hge
              simp (config := {decide := true}) only [v_name, aname, set_same, set_other, if_true, if_false, ne_eq, Bool.false_eq_true, compRho, hge, hm2, decide_false, List.map_nil])
          (by decide) (by with_unfolding_all decide) (by with_unfolding_all decide) (by with_unfolding_all decide)) rfl (by decide)) hor (by with_unfolding_all decide) (by with_unfolding_all decide)) (by with_unfolding_all decide) (by with_unfolding_all decide) ?_
    refine run_assign (P := NextWith _) (d := .bool (crossS (sharedOf T m))) ?_ (by with_unfolding_all decide) (by with_unfolding_all decide) ?_
    · simp (config := {decide := true}) only [v_name, v_call, e_nil, e_cons, aname, set_same, if_true, if_false, blt_cross, ph2_cross, d3]
    have heq := eq_lists (S m) (sharedOf T m)
    rw [d4] at heq
    refine ⟨((ρ'.set "many" (.val (.int (m : Int)))).set "shared" (.val (.list ((sharedOf T m).map .str)))).set "cross" (.val (.bool (crossS (sharedOf T m)))), ?_, ?_⟩
    · have p1 : ∀ x y : PyData, acmp .Eq x y = aEq x y := fun _ _ => rfl
      have p2 : ∀ x y : PyData, acmp .Is x y = aIs x y := fun _ _ => rfl
      have p3 : aEq (.int ((1 : Nat) : Int)) (.int 2) = some false := by decide
      have p4 : aEq (.int ((2 : Nat) : Int)) (.int 2) = some true := by decide
      have p5 : ∀ b, aIs (.bool (!b)) (.bool b) = some false := by decide
      cases hc : crossS (sharedOf T m) with
      | false =>
        rw [hc] at heq
        have p6 : aIs (.bool true) (.bool false) = some false := by decide
        rcases hm with rfl | rfl <;> simp (config := {decide := true}) only [x_nil, x_cons, x_if, v_const, v_name, v_cmp, v_call, v_acmp, t_bool, t_cmp, t_name, b_nil, b_and, b_or, e_nil, e_cons, ac_int, aname, set_same, set_other, if_true, if_false, ne_eq, Option.map_some, Bool.not_false, blt_sets, blt_directory, ph2_directory, ph2_sets, d1, d2, heq, p1, p2, p3, p4, p6, or_and]
      | true =>
        rw [hc] at heq
        have p6 : aIs (.bool false) (.bool true) = some false := by decide
        rcases hm with rfl | rfl
        · simp (config := {decide := true}) only [x_nil, x_cons, x_if, v_const, v_name, v_cmp, v_call, v_acmp, t_bool, t_cmp, b_nil, b_and, b_or, e_nil, e_cons, ac_int, aname, set_same, set_other, if_true, if_false, ne_eq, Option.map_some, Bool.not_true, blt_sets, blt_directory, ph2_directory, ph2_sets, d1, d2, heq, p1, p2, p3, p6, or_and]
        · rw [hX] at hc; cases hc
    · refine ⟨?_, ?_, ?_, ?_⟩ <;> simp (config := {decide := true}) only [set_other, ne_eq, q1, q2, q3, q4]
  · rintro ρ2 ⟨q1, q2, q3, q4⟩
    refine run_assign (P := NextWith _) (d := .str wordsS2) ?_ (by with_unfolding_all decide) (by with_unfolding_all decide) ?_
    · simp (config := {decide := true}) only [v_const, ac_str]; rfl
    refine run_assign (P := NextWith _) (d := .list (turnsL.map .int)) ?_ (by with_unfolding_all decide) (by with_unfolding_all decide) ?_
    · simp (config := {decide := true}) only [v_const, v_neg, v_list, e_nil, e_cons, ac_int, if_true]; rfl
    rw [x_nil]
    refine ⟨_, rfl, ?_, ?_, ?_, ?_, ?_⟩ <;> simp (config := {decide := true}) only [set_same, set_other, ne_eq, q1, q2, q3]
end
theorem comp2 {Φ : Funs} {n : Nat} {sc scope : Scope} {elt it it1 : Expr} {x y : Str} {q q1 p : Pos} {ρ : REnv} {α γ β : Type} {enc : α → PyData} {enc1 : γ → PyData} {enc' : β → PyData} {ls : List α} {ls1 : List γ} (g : α → γ → List β)
    (hit : aiter Φ (n + 2) sc it ρ = some (ls.map enc)) (hl : ls.length ≤ LIM) (hl1 : ls1.length ≤ LIM) (hl' : (ls.flatMap fun a => ls1.flatMap (g a)).length ≤ LIM)
    (hit1 : ∀ a ∈ ls, aiter Φ (n + 1) (relab scope sc) it1 ((compRho scope ρ).set x (.val (enc a))) = some (ls1.map enc1))
    (h : ∀ a ∈ ls, ∀ b ∈ ls1, (match aifs Φ n (relab scope sc) [] (((compRho scope ρ).set x (.val (enc a))).set y (.val (enc1 b))) with
          | none => none
          | some false => some []
          | some true => (aeval Φ n (relab scope sc) elt (((compRho scope ρ).set x (.val (enc a))).set y (.val (enc1 b)))).map fun x => [x]) = some ((g a b).map enc'))
    (hsc : scopeOk scope sc = true) (ht : scope.names.lookup x ≠ some .free ∧ scope.names.lookup y ≠ some .free ∧ y ≠ x) (hk : ((relab scope sc).names.lookup x = some .local ∨ (relab scope sc).names.lookup x = some .cell) ∧ ((relab scope sc).names.lookup y = some .local ∨ (relab scope sc).names.lookup y = some .cell)) :
    aeval Φ (n + 4) sc (.ListComp elt [⟨.Name x q, it, [], 0⟩, ⟨.Name y q1, it1, [], 0⟩] scope p) ρ = some (.list ((ls.flatMap fun a => ls1.flatMap (g a)).map enc')) := by
  obtain ⟨hx, hy, hyx⟩ := ht
  have hT : (targetsOf [(⟨.Name x q, it, [], 0⟩ : Comprehension), ⟨.Name y q1, it1, [], 0⟩]).all (fun x => scope.names.lookup x != some .free) = true := by
    show (scope.names.lookup x != some .free && (scope.names.lookup y != some .free && true)) = true
    rw [Bool.and_true, Bool.and_eq_true]; exact ⟨bne_iff_ne.mpr hx, bne_iff_ne.mpr hy⟩
  have hnone : (compRho scope ρ x).isNone = true := by unfold compRho; rw [if_neg hx]; rfl
  have hnone1 : ∀ v, (((compRho scope ρ).set x v) y).isNone = true := by intro v; rw [set_other hyx]; unfold compRho; rw [if_neg hy]; rfl
  rw [v_comp, v_acomp, if_pos ⟨hsc, hT⟩, hit]
  simp only
  rw [v_loop2, if_pos ⟨rfl, by rw [List.length_map]; exact hl, hk.1, hnone⟩, concatM_list (enc := enc) (enc' := enc') (fun a => ls1.flatMap (g a)) (fun a ha => by
    rw [v_ifs0]
    simp only
    rw [hit1 a ha]
    simp only
    rw [v_loop1, if_pos ⟨rfl, by rw [List.length_map]; exact hl1, hk.2, hnone1 _⟩, concatM_list (enc := enc1) (enc' := enc') (g a) (h a ha)])]
  simp only
  rw [if_pos (by rw [List.length_map]; exact hl')]
noncomputable def bodyOf : Stmt → List Stmt
  | .For _ _ b _ _ => b
  | _ => []
theorem bodyOf_for {t i : Expr} {b o : List Stmt} {p : Pos} : bodyOf (.For t i b o p) = b := rfl
noncomputable def lawBody : List Stmt := bodyOf ((stmtsOf (fn 129)).getD 8 (.Pass ⟨0,0,0,0⟩))
/-- what the loop's body asks of one row -/
structure RowOK (row : List (List Str)) (hosts sets : List Str) : Prop where
  joins : ∀ l ∈ row, amethod .join (.str ".") [.list (l.reverse.map .str)] = some (.str (nm l)) ∧ l.length ≤ 100
  names : hosts = row.map nm
  len : row.length = 4
  due : dueFun [.list (row.map encL)] = some (.list (sets.map .str))
  turns : (hosts.flatMap fun a => hosts.flatMap fun b => [collF a b]) = turnsL
theorem body_1 (row : List (List Str)) (hosts sets : List Str) (R : RowOK row hosts sets) (ρ : REnv) (h1 : ρ "row" = some (.val (.list (row.map encL)))) (h2 : ρ "hosts" = some (.val (.list (hosts.map .str)))) (h3 : ρ "sets" = some (.val (.list (sets.map .str)))) :
    aexecs Φ2 [] 60 (fn 129).scope (lawBody.take 1) ρ = some (.next, ρ) := by
  unfold lawBody
  conv in stmtsOf (fn 129) => whnf
  simp only [List.getD_cons_succ, List.getD_cons_zero, bodyOf_for, List.take_succ_cons, List.take_zero]
  obtain ⟨j1, j2, j3, j4, j5⟩ := R
  have q1 : acmp .NotEq (.list (hosts.map .str)) (.list ((row.flatMap fun l => [nm l]).map .str)) = some false := by
    rw [flat_single, ← j2]
    show (aEq _ _).map not = _
    rw [eq_lists]; simp
  have q2 : acmp .NotEq (.list (sets.map .str)) (.list (sets.map .str)) = some false := by
    show (aEq _ _).map not = _
    rw [eq_lists]; simp
  rw [x_cons, x_if, t_bool, b_or, t_cmp, v_acmp (by decide) (by decide)]
  rw [comp1 (enc := encL) (enc' := PyData.str) (ls := row) (fun l => [nm l])
    (by simp (config := {decide := true}) only [v_name, v_itname, aname, if_false, h1]) (by unfold LIM; omega) (by rw [flat_single, List.length_map]; unfold LIM; omega) (fun l hl => by
      obtain ⟨k1, k2⟩ := j1 l hl
      have k3 : aslice (.list (l.map .str)) none none (some (-1)) = some (.list (l.reverse.map .str)) := by
        show (if (-1 : Int) = -1 ∧ (l.map PyData.str).length ≤ LIM then _ else none) = _
        rw [if_pos ⟨rfl, by rw [List.length_map]; unfold LIM; omega⟩, List.map_reverse]
      simp (config := {decide := true}) only [v_const, v_name, v_neg, v_slice, v_meth, v_ifs0, e_nil, e_cons, p_none, p_some, ac_int, ac_str, aname, set_same, if_true, if_false, Option.map_some, meth_join, encL, k1, k3, List.map_cons, List.map_nil]) (by decide) (by with_unfolding_all decide) (by with_unfolding_all decide) (by with_unfolding_all decide)]
  simp (config := {decide := true}) only [x_nil, v_name, v_call, v_acmp, t_cmp, b_nil, b_or, e_nil, e_cons, aname, if_true, if_false, ne_eq, blt_due, ph2_due, h2, h3, h1, j4, q1, q2, or_and]
noncomputable def joinD (l : List Str) : Str := Txt.join "." l
noncomputable def restOf (l : List Str) : List Str := (l.drop 1).reverse
/-- what the loop's body asks of the first host -/
structure SOK (l : List Str) (host : Str) : Prop where
  len : l.length ≤ 100 ∧ host.length ≤ 1000 ∧ (Txt.upper host).length ≤ 1000
  sum : ((restOf l).map (·.length)).sum ≤ 1000
  jl : (joinD ((restOf l).drop 1)).length ≤ 2000
  up : collF (Txt.upper host) host = -1
  m1 : udmF host (Txt.upper host) = some true
  m2 : udmF host ("." ++ host) = some false
  m3 : udmF ("w." ++ host) (Txt.upper host) = some false
  m4 : udmF (host ++ ".7") ".local.7" = some false
  m5 : udmF (host ++ ".7") (Txt.upper host ++ ".7") = some true
  r1 : reachF (joinD (restOf l)) = some (if 2 < (restOf l).length ∨ (restOf l).drop 1 = [("local" : Str)] then "." ++ joinD ((restOf l).drop 1) else joinD (restOf l))
  r2 : reachF (host ++ ".7") = some (host ++ ".7")
  r3 : reachF (host ++ ".") = some (host ++ ".")
  r4 : reachF ("w.7." ++ host) = some (".7." ++ host)
  j1 : buildF (.str "") (.str host) = some (.str ("." ++ host))
  j2 : buildF (.str host) (.str "") = some (.str (host ++ "."))
theorem joinD_ev (l : List Str) (h : l.length ≤ 100) (h' : (l.map (·.length)).sum ≤ 1000) : amethod .join (.str ".") [.list (l.map .str)] = some (.str (joinD l)) := by
  have e : (Str.ofString ".").length ≤ 16 := by decide
  simp only [am_join, strsOf_map, Option.bind_some, if_pos e]
  rw [if_pos (by unfold LIM; omega)]; rfl
theorem sum_drop (l : List Str) (k : Nat) : ((l.drop k).map (·.length)).sum ≤ (l.map (·.length)).sum := by
  induction l generalizing k with
  | nil => simp
  | cons x r ih =>
    cases k with
    | zero => simp
    | succ k =>
      rw [List.drop_succ_cons, List.map_cons, List.sum_cons]
      exact Nat.le_trans (ih k) (Nat.le_add_left _ _)
theorem x_if_ne {Φ : Funs} {ap : List Str} {n : Nat} {sc : Scope} {l r : Expr} {b : List Stmt} {p pos : Pos} {ρ : REnv} {x : Str} (hl : aeval Φ (n + 1) sc l ρ = some (.str x)) (hr : aeval Φ (n + 1) sc r ρ = some (.str x)) :
    aexec Φ ap (n + 4) sc (.If (.Compare l [.NotEq] [r] p) b [] pos) ρ = some (.next, ρ) := by
  have e : atrue Φ (n + 3) sc (.Compare l [.NotEq] [r] p) ρ = some false := by
    rw [t_cmp, v_acmp (by decide) (by decide), hl]
    simp only [hr]
    exact congrArg (fun b => some (!b)) (beq_self_eq_true x)
  rw [x_if, e]
  exact x_nil
theorem body_2 (l : List Str) (rr : List (List Str)) (host : Str) (hh : List Str) (hlen : hh.length = 3) (ht : ((host :: hh).flatMap fun a => (host :: hh).flatMap fun b => [collF a b]) = turnsL) (R : SOK l host) (ρ : REnv) (h1 : ρ "row" = some (.val (.list ((l :: rr).map encL)))) (h2 : ρ "hosts" = some (.val (.list ((host :: hh).map .str)))) (h3 : ρ "turns" = some (.val (.list (turnsL.map .int)))) :
    aexecs Φ2 [] 60 (fn 129).scope ((lawBody.drop 1).take 9) ρ = some (.next, (ρ.set "host" (.val (.str host))).set "rest" (.val (.list ((restOf l).map .str)))) := by
  unfold lawBody
  conv in stmtsOf (fn 129) => whnf
  simp only [List.getD_cons_succ, List.getD_cons_zero, bodyOf_for, List.take_succ_cons, List.take_zero, List.drop_succ_cons, List.drop_zero]
  obtain ⟨⟨n1, n2, n3⟩, n4, n5, up, m1, m2, m3, m4, m5, r1, r2, r3, r4, j1, j2⟩ := R
  have a1 : asub (.list (.str host :: hh.map .str)) (.int 0) = some (.str host) := rfl
  have a2 : asub (.list (PyData.list (l.map .str) :: rr.map encL)) (.int 0) = some (.list (l.map .str)) := rfl
  have a3 : aslice (.list (l.map .str)) none (some 0) (some (-1)) = some (.list ((restOf l).map .str)) := by
    show (if (0:Int) = 0 ∧ (-1 : Int) = -1 ∧ (l.map PyData.str).length ≤ LIM then some (PyData.list ((l.map PyData.str).drop 1).reverse) else none) = _
    rw [if_pos ⟨rfl, rfl, by rw [List.length_map]; unfold LIM; omega⟩, ← List.map_drop, ← List.map_reverse]; rfl
  have b1 : ∀ {x y : Str}, x.length ≤ 2000 → y.length ≤ 2000 → abin .Add (.str x) (.str y) = some (.str (x ++ y)) := fun {x y} h h' => by
    show (if x.length + y.length ≤ LIM then _ else none) = _
    rw [if_pos (by unfold LIM; omega)]
  have u1 : amethod .upper (.str host) [] = some (.str (Txt.upper host)) := by
    show (if (Txt.upper host).length ≤ LIM then _ else none) = _
    rw [if_pos (by unfold LIM; omega)]
  have z1 : abin .Add (.str ".") (.str host) = some (.str ("." ++ host)) := b1 (by decide) (by omega)
  have z2 : abin .Add (.str "w.") (.str host) = some (.str ("w." ++ host)) := b1 (by decide) (by omega)
  have z3 : abin .Add (.str host) (.str ".7") = some (.str (host ++ ".7")) := b1 (by omega) (by decide)
  have z4 : abin .Add (.str (Txt.upper host)) (.str ".7") = some (.str (Txt.upper host ++ ".7")) := b1 (by omega) (by decide)
  have z5 : abin .Add (.str host) (.str ".") = some (.str (host ++ ".")) := b1 (by omega) (by decide)
  have z6 : abin .Add (.str "w.7.") (.str host) = some (.str ("w.7." ++ host)) := b1 (by decide) (by omega)
  have z7 : abin .Add (.str ".7.") (.str host) = some (.str (".7." ++ host)) := b1 (by decide) (by omega)
  have z8 : ∀ x : Str, sEq (.str x) (.str x) = some true := fun x => congrArg some (beq_self_eq_true x)
  have w1 : acmp .IsNot (.bool true) (.bool true) = some false := by decide
  have w2 : acmp .IsNot (.bool false) (.bool false) = some false := by decide
  have ne : ∀ x : Str, acmp .NotEq (.str x) (.str x) = some false := fun x => congrArg (fun b => some (!b)) (beq_self_eq_true x)
  have q1 : (restOf l).length ≤ 100 := by unfold restOf; rw [List.length_reverse, List.length_drop]; omega
  have q2 : ((restOf l).map (·.length)).sum ≤ 1000 := n4
  have q3 : (joinD ((restOf l).drop 1)).length ≤ 2000 := n5
  generalize hρF : (ρ.set "host" (.val (.str host))).set "rest" (.val (.list ((restOf l).map .str))) = ρF
  have f1 : ρF "host" = some (.val (.str host)) := by rw [← hρF]; simp (config := {decide := true}) only [set_same, set_other, ne_eq]
  have f2 : ρF "rest" = some (.val (.list ((restOf l).map .str))) := by rw [← hρF]; simp (config := {decide := true}) only [set_same]
  have f3 : ρF "hosts" = some (.val (.list ((host :: hh).map .str))) := by rw [← hρF]; simp (config := {decide := true}) only [set_other, ne_eq, h2]
  have f4 : ρF "turns" = some (.val (.list (turnsL.map .int))) := by rw [← hρF]; simp (config := {decide := true}) only [set_other, ne_eq, h3]
  refine run_assign (P := fun r => r = some (.next, ρF)) (d := .str host) ?_ (by with_unfolding_all decide) (by with_unfolding_all decide) ?_
  · rw [List.map_cons] at h2
    simp (config := {decide := true}) only [v_const, v_name, v_subc, ac_int, aname, if_false, h2, a1]
  refine run_assign (P := fun r => r = some (.next, ρF)) (d := .list ((restOf l).map .str)) ?_ (by with_unfolding_all decide) (by with_unfolding_all decide) ?_
  · rw [List.map_cons] at h1
    simp (config := {decide := true}) only [v_const, v_name, v_neg, v_slice, v_subc, p_none, p_some, ac_int, aname, set_other, if_false, ne_eq, h1, a2, encL, a3]
  rw [hρF]
  refine run_next (P := fun r => r = some (.next, ρF)) ⟨ρF, ?_, ?_⟩
  · rw [x_if, t_bool, b_or, t_cmp, v_acmp (by decide) (by decide)]
    rw [comp2 (enc := PyData.str) (enc1 := PyData.str) (enc' := PyData.int) (ls := host :: hh) (ls1 := host :: hh) (fun a b => [collF a b])
      (by simp (config := {decide := true}) only [v_name, v_itname, aname, if_false, f3]) (by rw [List.length_cons]; unfold LIM; omega) (by rw [List.length_cons]; unfold LIM; omega) (by rw [ht]; decide)
      (fun a _ => by simp (config := {decide := true}) only [v_name, v_itname, aname, set_other, if_true, if_false, ne_eq, compRho, f3])
      (fun a _ b _ => by simp (config := {decide := true}) only [v_name, v_call, v_ifs0, e_nil, e_cons, aname, set_same, set_other, if_true, if_false, ne_eq, Option.map_some, blt_coll, ph2_coll, collFun_mk, List.map_cons, List.map_nil])
      (by with_unfolding_all decide) (by with_unfolding_all decide) (by with_unfolding_all decide)]
    rw [ht]
    have e1 : acmp .NotEq (.list (turnsL.map .int)) (.list (turnsL.map .int)) = some false := by decide
    have e2 : acmp .NotEq (.int (-1)) (.int (-1)) = some false := by decide
    simp (config := {decide := true}) only [x_nil, v_const, v_name, v_neg, v_meth, v_call, v_acmp, t_cmp, b_nil, b_or, e_nil, e_cons, ac_int, aname, if_true, if_false, ne_eq, meth_upper, blt_coll, ph2_coll, collFun_mk, u1, f1, f4, e1, e2, up, or_and]
  refine run_next (P := fun r => r = some (.next, ρF)) ⟨ρF, ?_, ?_⟩
  · simp (config := {decide := true}) only [x_nil, x_if, v_const, v_name, v_bin, v_meth, v_call, v_acmp, t_bool, t_cmp, b_nil, b_or, e_nil, e_cons, ac_bool, ac_str, aname, if_true, if_false, ne_eq, Option.map_some, meth_upper, blt_udm, ph2_udm, udmFun_mk, u1, f1, m1, m2, or_and, z1, w1, w2]
  refine run_next (P := fun r => r = some (.next, ρF)) ⟨ρF, ?_, ?_⟩
  · simp (config := {decide := true}) only [x_nil, x_if, v_const, v_name, v_bin, v_meth, v_call, v_acmp, t_bool, t_cmp, b_nil, b_or, e_nil, e_cons, ac_bool, ac_str, aname, if_true, if_false, ne_eq, Option.map_some, meth_upper, blt_udm, ph2_udm, udmFun_mk, u1, f1, m3, m4, or_and, z2, z3, w2]
  refine run_next (P := fun r => r = some (.next, ρF)) ⟨ρF, ?_, ?_⟩
  · simp (config := {decide := true}) only [x_nil, x_if, v_const, v_name, v_bin, v_meth, v_call, v_acmp, t_cmp, e_nil, e_cons, ac_bool, ac_str, aname, if_true, if_false, ne_eq, Option.map_some, meth_upper, blt_udm, ph2_udm, udmFun_mk, u1, f1, m5, z3, z4, w1]
  refine run_next (P := fun r => r = some (.next, ρF)) ⟨ρF, ?_, ?_⟩
  · have g1 : amethod .join (.str ".") [.list ((restOf l).map .str)] = some (.str (joinD (restOf l))) := joinD_ev _ q1 q2
    have g2 : amethod .join (.str ".") [.list (((restOf l).drop 1).map .str)] = some (.str (joinD ((restOf l).drop 1))) := joinD_ev _ (by rw [List.length_drop]; omega) (Nat.le_trans (sum_drop _ _) q2)
    have g3 : abuiltin .len [.list ((restOf l).map .str)] = some (.int ((restOf l).length : Int)) := len_list (by unfold LIM; omega)
    have g4 : acmp .Gt (.int ((restOf l).length : Int)) (.int 2) = some (decide (2 < (restOf l).length)) := gt_nat (restOf l).length 2
    have g5 : aslice (.list ((restOf l).map .str)) (some 1) none none = some (.list (((restOf l).drop 1).map .str)) := slice_from (restOf l) 1 (by unfold LIM; omega)
    have g6 : acmp .Eq (.list (((restOf l).drop 1).map .str)) (.list [.str "local"]) = some (decide ((restOf l).drop 1 = [("local" : Str)])) := eq_lists _ [("local" : Str)]
    have g7 : abin .Add (.str ".") (.str (joinD ((restOf l).drop 1))) = some (.str ("." ++ joinD ((restOf l).drop 1))) := b1 (by decide) q3
    generalize hRR : (if 2 < (restOf l).length ∨ (restOf l).drop 1 = [("local" : Str)] then "." ++ joinD ((restOf l).drop 1) else joinD (restOf l)) = RR at r1
    refine x_if_ne (x := RR) ?_ ?_
    · simp (config := {decide := true}) only [v_const, v_name, v_meth, v_call, e_nil, e_cons, ac_str, aname, if_true, if_false, Option.map_some, meth_join, blt_reach, ph2_reach, reachFun_mk, f2, r1, g1]
    · by_cases c1 : 2 < (restOf l).length
      · rw [if_pos (.inl c1)] at hRR
        rw [decide_eq_true c1] at g4
        simp (config := {decide := true}) only [v_const, v_name, v_bin, v_if, v_slice, v_meth, v_call, v_acmp, t_bool, t_cmp, b_or, e_nil, e_cons, p_none, p_some, ac_int, ac_str, aname, if_true, if_false, ne_eq, meth_join, blt_len, f2, g2, g3, g4, g7, g5, hRR]
      · rw [decide_eq_false c1] at g4
        by_cases c2 : (restOf l).drop 1 = [("local" : Str)]
        · rw [if_pos (.inr c2)] at hRR
          rw [decide_eq_true c2] at g6
          simp (config := {decide := true}) only [v_const, v_name, v_bin, v_if, v_list, v_slice, v_meth, v_call, v_acmp, t_bool, t_cmp, b_or, e_nil, e_cons, p_none, p_some, ac_int, ac_str, aname, if_true, if_false, ne_eq, meth_join, blt_len, f2, g2, g3, g4, g5, g6, g7, hRR]
        · rw [if_neg (fun h => h.elim c1 c2)] at hRR
          rw [decide_eq_false c2] at g6
          simp (config := {decide := true}) only [v_const, v_name, v_if, v_list, v_slice, v_meth, v_call, v_acmp, t_bool, t_cmp, b_nil, b_or, e_nil, e_cons, p_none, p_some, ac_int, ac_str, aname, if_true, if_false, ne_eq, meth_join, blt_len, f2, g1, g3, g4, g5, g6, or_and, hRR]
  refine run_next (P := fun r => r = some (.next, ρF)) ⟨ρF, ?_, ?_⟩
  · simp (config := {decide := true}) only [x_nil, x_if, v_const, v_name, v_bin, v_call, v_acmp, t_bool, t_cmp, b_nil, b_or, e_nil, e_cons, ac_str, aname, if_true, if_false, ne_eq, Option.map_some, blt_reach, ph2_reach, reachFun_mk, f1, r2, r3, r4, or_and, z3, z5, z6, z7, ne]
  refine run_next (P := fun r => r = some (.next, ρF)) ⟨ρF, ?_, ?_⟩
  · simp (config := {decide := true}) only [x_nil, x_if, v_const, v_name, v_bin, v_list, v_call, v_acmp, t_bool, t_cmp, b_nil, b_or, e_nil, e_cons, ac_str, aname, if_true, if_false, ne_eq, List.length_cons, List.length_nil, blt_joined, ph2_joined, joinedFun_mk, f1, j1, j2, or_and, z1, z5, ne]
  rw [x_nil]
section
variable {h₀ : Heap} {env : Env} {Av Avc : List Addr} {α : Str → Addr} {ρ : REnv} {h h' : Heap}
/-- the state when nothing but the slots of the own frame's object moved -/
theorem StE.slots (x : StE h₀ env Av α ρ h) (hw : h₀.get? env.locals = none) (hk : ∀ b o, b ≠ env.locals → h.get? b = some o → h'.get? b = some o)
    (hu : ∀ m, h.Ns env.locals m → h'.Ns env.locals m) (hav : AvOK Av h') : StE h₀ env Av α ρ h' := by
  obtain ⟨m, hm⟩ := x.ok.loc
  have hcell : ∀ {c v}, h.IsCell c v → h'.IsCell c v := fun {c v} hc => by
    have hne := ns_ne_cell hm hc
    obtain ⟨o, ho, hd⟩ := hc
    exact ⟨o, hk _ _ (Ne.symm hne) ho, hd⟩
  have hseq : ∀ a o, h.get? a = some o → SeqObj o → h'.get? a = some o := fun a o e hs => hk a o (fun e' => ns_not_seq hm (e' ▸ e) hs) e
  have hl : ∀ {y v}, Loads env h y v → Loads env h' y v := fun {y v} l => by
    cases l with
    | loc a b c => exact .loc a (hu _ b) c
    | cell a b c => exact .cell a b (hcell c)
    | free a b c => exact .free a b (hcell c)
  refine ⟨⟨x.ok.fn, x.ok.glob, x.ok.blt, ⟨m, hu m hm⟩, fun y hy => ?_, x.ok.inj⟩, fun b o e => hk b o (fun e' => by rw [e', hw] at e; cases e) (x.base b o e), hav, x.wr, fun y d e => ?_, fun y xs e => ?_, x.inj⟩
  · obtain ⟨c, v, a, b⟩ := x.ok.cell y hy
    exact ⟨c, v, a, hcell b⟩
  · obtain ⟨v, a, b⟩ := x.val y d e
    exact ⟨v, hl a, b.move (fun a o _ e hs => hseq a o e hs) (fun _ _ q _ _ => q)⟩
  · obtain ⟨items, n, a, b, b', c, d⟩ := x.own y xs e
    exact ⟨items, n, hl a, b, b', hseq _ _ c ⟨_, _, rfl⟩, d.move (fun a o _ e hs => hseq a o e hs) (fun _ _ q _ _ => q)⟩
end
section
variable {prog : Program} {w : World} {h₀ : Heap} {mg mb : Str → Option Value} {sc : Scope} {ρ : REnv}
/-- the last If of the law's loop, when the call raises inside and gives the words -/
theorem ex_raise_if (C : Ctx w h₀ mg mb) {A : Around} {env : Env} {r : Nat} (hs : env.scope = sc) (ha : AOK (r + 4) A) (hfr : A.frames = some [env]) (hfl : env.frame = some env.locals) (hloc : ∃ x, env.kindOf x = some .local) {arg rE : Expr} {fp p1 p2 p3 : Pos} {b : List Stmt} {ds : List PyData}
    (hk : sc.names.lookup ("_law_joined" : Str) = some .globalImplicit) (hn : notStar arg = true) (hm : behindInMarks .NotEq rE = false)
    (harg : EvOK prog w h₀ r sc ρ arg (.list ds)) (hlen : 2 < ds.length) (hr : EvOK prog w h₀ r sc ρ rE (.str wordsS)) :
    ExAt prog w h₀ A env (.If (.Compare (.Call (.Name "_law_joined" fp) [arg] [] p1) [.NotEq] [rE] p2) b [] p3) ρ .next ρ := fun s Avc Av α hst => by
  obtain ⟨x0, hx0⟩ := hloc
  have hw : h₀.get? env.locals = none := hst.st.wr x0 _ (.inl ⟨hx0, rfl⟩)
  have ha' : AOK r A := ⟨ha.1, by have := ha.2.1; omega, by have := ha.2.2; omega⟩
  have ha4 : AOK 4 A := ⟨ha.1, by have := ha.2.1; omega, by have := ha.2.2; omega⟩
  refine wpAny_If (wpAny_isTrue_Compare1 ?_ hm)
  have hargs := es_cons (prog := prog) (w := w) hn harg es_nil
  obtain ⟨o, ho, hdat⟩ := C.d99.obj
  subst hs
  refine wpAny_Call_NameR (load_glob C.base hst.st hk (by decide) C.m99 ?_)
  rw [backTo_plain hargs.1]
  refine Calls.callWith_function (o := o) (fd := fn 99) (evalArgs_list (wpAny_mono (hargs.2 env s Av α A rfl ha' hst.st) (fun vs s₁ h₁ => ?_) noE))
  obtain ⟨⟨h1, tk1, rfl, k1⟩, rv⟩ := h₁
  have st1 := hst.keeps k1
  refine ⟨⟨st1.st.base 99 o ho, hdat⟩, ?_⟩
  cases rv with
  | cons r1 r2 =>
  cases r2
  cases r1 with
  | @list a items n xs hA hget hall =>
  obtain ⟨m, hm0⟩ := st1.st.ok.loc
  have hm0' := hm0
  obtain ⟨o', es, ep, ho', hd', _⟩ := hm0'
  have hbase : ∀ b o, h₀.get? b = some o → (h1.hide env.locals).get? b = some o := fun b o e => by
    rw [Heap.hide_ne _ (fun e' => by rw [e', hw] at e; cases e)]; exact st1.st.base b o e
  have hFF : h1.FunFrames (h1.hide env.locals) [env] := by
    refine ⟨by rw [st1.st.ok.fn]; simp, ⟨env.locals, o', hfl, Heap.hide_self _ _, ho', fun vs e => by rw [hd'] at e; cases e⟩, ?_⟩
    first | trivial | exact True.intro
  refine wpAny_mono (joined_raises C (base := h1.hide env.locals) (outer := [env]) ha4 hfr hbase (fun b o e => Heap.of_hide e) hFF (items := items) ⟨_, hget, rfl, n, rfl⟩ (by rw [← Array.length_toList, hall.length]; exact hlen)) (fun v s₂ h₂ => ?_) noE
  obtain ⟨h2, tk2, u, rfl, rfl, hst2, hup⟩ := h₂
  have hkeep : ∀ b o, b ≠ env.locals → h1.get? b = some o → h2.get? b = some o := fun b o hb e => hst2 b o (by rw [Heap.hide_ne _ hb]; exact e)
  have hal : ∀ b o, h1.get? b = some o → ∃ o', h2.get? b = some o' := fun b o e => by
    by_cases hb : b = env.locals
    · subst hb
      obtain ⟨m2, hm2⟩ : ∃ m, h2.Ns env.locals m := ⟨m, hup.ns hm0⟩
      obtain ⟨o2, _, _, ho2, _⟩ := hm2
      exact ⟨o2, ho2⟩
    · exact ⟨o, hkeep b o hb e⟩
  have st2 : StE h₀ env Av α ρ h2 := st1.st.slots hw hkeep (fun m hm => hup.ns hm) (fun a ha => by
    obtain ⟨o, e⟩ := st1.st.av a ha
    exact hal a o e)
  refine wpAny_mono (hr env _ Av α A rfl ha' st2) (fun vb s₃ h₃ => ?_) noE
  obtain ⟨⟨h3, tk3, rfl, k3⟩, rv3⟩ := h₃
  refine acmp_ok (op := .NotEq) (Av := []) ha'.cmp (.str wordsS u) rv3 (k := false) (congrArg (fun b => some (!b)) (beq_self_eq_true wordsS)) ?_
  refine wpAny_truthy_bool ?_
  refine wpAny_execs_nil ⟨Av, α, h3, tk3, rfl, ⟨st2.keeps k3, hst.sub, hst.ownc⟩, .next, fun b o e hsa _ => ?_, fun x xs e => .inr ⟨x, xs, e, rfl⟩, fun b o e => ?_, fun a ha => .inl ha⟩
  · exact k3 b o (hkeep b o (fun e' => hsa x0 (.inl ⟨hx0, e'⟩)) (k1 b o e))
  · obtain ⟨o', ho'⟩ := hal b o (k1 b o e)
    exact ⟨o', k3 b o' ho'⟩
end
section
variable {prog : Program} {w : World} {h₀ : Heap} {mg mb : Str → Option Value}
theorem exs_at_of {r : Nat} {sc : Scope} {Φ : Funs} {ap : List Str} {n : Nat} {sts : List Stmt} {ρ ρ' : REnv} {fl : AFlow} (B : BaseOK h₀ mg mb) (F : FunOK prog w h₀ mg r Φ) {A : Around} {env : Env} (hs : env.scope = sc) (ha : AOK r A) (h : aexecs Φ ap n sc sts ρ = some (fl, ρ')) : ExsAt prog w h₀ A env sts ρ fl ρ' :=
  fun s Avc Av α st => (sndS_all B F ap n).exs _ _ _ _ _ h env s Avc Av α A hs ha st
theorem body_3 (C : Ctx w h₀ mg mb) {A : Around} {env : Env} (hs : env.scope = (fn 129).scope) (ha : AOK 7 A) (hfr : A.frames = some [env]) (hfl : env.frame = some env.locals) (l : List Str) (rr : List (List Str)) (h100 : l.length ≤ 100)
    (hl : l = [("local" : Str), ("s" : Str)] ∨ 2 < l.length) (ρ : REnv) (h1 : ρ "row" = some (.val (.list ((l :: rr).map encL)))) (h2 : ρ "words" = some (.val (.str wordsS2))) : ExsAt prog w h₀ A env (lawBody.drop 10) ρ .next ρ := by
  unfold lawBody
  conv in stmtsOf (fn 129) => whnf
  simp only [List.getD_cons_succ, List.getD_cons_zero, bodyOf_for, List.drop_succ_cons, List.drop_zero]
  have ha3 : AOK 3 A := ⟨ha.1, by have := ha.2.1; omega, by have := ha.2.2; omega⟩
  rw [List.map_cons] at h1
  have a2 : asub (.list (encL l :: rr.map encL)) (.int 0) = some (.list (l.map .str)) := rfl
  have a3 : abuiltin .len [.list (l.map .str)] = some (.int (l.length : Int)) := len_list (by unfold LIM; omega)
  rcases hl with rfl | hl
  · refine exs_at_of (Φ := Φ2) (ap := []) (n := 60) C.base (fun2 C) hs ha3 ?_
    have b1 : buildF (.str "local") (.str "s") = some (.str "local.s") := by
      have e : ("local" : Str) ++ "." ++ "s" = "local.s" := by decide
      show (if ("local" : Str).length ≤ 400000 ∧ ("s" : Str).length ≤ 400000 then some (PyData.str (("local" : Str) ++ "." ++ "s")) else none) = _
      rw [if_pos (by decide), e]
    have a4 : abuiltin .len [.list [.str "local", .str "s"]] = some (.int 2) := len_list (o := [("local" : Str), ("s" : Str)]) (by decide)
    have b2 : acmp .NotEq (.str "local.s") (.str "local.s") = some false := by decide
    have b3 : acmp .Eq (.int 2) (.int 2) = some true := by decide
    simp (config := {decide := true}) only [x_nil, x_cons, x_if, v_const, v_name, v_if, v_subc, v_call, v_acmp, t_cmp, e_nil, e_cons, ac_int, ac_str, aname, if_true, if_false, ne_eq, blt_len, blt_joined, ph2_joined, joinedFun_mk, h1, a2, a4, b1, b2, b3, List.map_cons, List.map_nil]
  · refine exs_at_cons ?_ exs_at_nil
    have b3 : acmp .Eq (.int (l.length : Int)) (.int 2) = some false := by
      show (some (decide ((l.length : Int) = 2)) : Option Bool) = _
      rw [decide_eq_false (by omega)]
    refine ex_raise_if (ds := l.map .str) C hs ha hfr hfl ⟨"row", ?_⟩ (by with_unfolding_all rfl) rfl (by decide) ?_ (by rw [List.length_map]; exact hl) ?_
    · show env.scope.names.lookup _ = _
      rw [hs]; with_unfolding_all rfl
    · refine (snd_all C.base (fun2 C) 30).ev _ _ _ _ ?_
      simp (config := {decide := true}) only [v_const, v_name, v_subc, ac_int, aname, if_false, h1, a2]
    · refine (snd_all C.base (fun2 C) 30).ev _ _ _ _ ?_
      simp (config := {decide := true}) only [v_const, v_name, v_if, v_subc, v_call, v_acmp, t_cmp, e_nil, e_cons, ac_int, aname, if_true, if_false, ne_eq, blt_len, h1, h2, a2, a3, b3]
      rfl
end
noncomputable def rowL (cs : List Int) (d k : Nat) : List Str := rowLabels (fig (cs.getD k 0) d) k
/-- what the plain law has to tell -/
structure Plain (cs : List Int) (T S H : Nat → List Str) : Prop where
  tl : ∀ d, (T d).length ≤ 20
  t : ∀ d, d < 3 → setsFun [.list ((hostsOf cs d).map .str)] = some (.list ((T d).map .str))
  d : ∀ m, m = 1 ∨ m = 2 → directoryFun [.list ((sharedOf T m).map .str)] = some (.list ((H m).map .str)) ∧ setsFun [.list ((H m).map .str)] = some (.list ((S m).map .str)) ∧ crossFun [.list ((sharedOf T m).map .str)] = some (.bool (crossS (sharedOf T m))) ∧ decide (S m = sharedOf T m) = !crossS (sharedOf T m)
  x : crossS (sharedOf T 2) = false
  row : ∀ d, d < 3 → RowOK (rowOf cs d) (hostsOf cs d) (T d)
  s : ∀ d, d < 3 → SOK (rowL cs d 0) (nm (rowL cs d 0))
  l : ∀ d, d < 3 → (rowL cs d 0).length ≤ 100 ∧ (rowL cs d 0 = [("local" : Str), ("s" : Str)] ∨ 2 < (rowL cs d 0).length)
section
variable {prog : Program} {w : World} {h₀ : Heap} {mg mb : Str → Option Value}
theorem body_all (C : Ctx w h₀ mg mb) {A : Around} {env : Env} (hs : env.scope = (fn 129).scope) (ha : AOK 7 A) (hfr : A.frames = some [env]) (hfl : env.frame = some env.locals) {cs : List Int} {T S H : Nat → List Str} (P : Plain cs T S H) (d : Nat) (hd : d < 3) (ρ : REnv) (M : LawMid cs T ρ) :
    ∃ ρ', ExsAt prog w h₀ A env lawBody (((ρ.set "row" (.val (.list ((rowOf cs d).map encL)))).set "hosts" (.val (.list ((hostsOf cs d).map .str)))).set "sets" (.val (.list ((T d).map .str)))) .next ρ' ∧ LawMid cs T ρ' := by
  obtain ⟨m1, m2, m3, m4, m5⟩ := M
  have er : rowOf cs d = rowL cs d 0 :: [rowL cs d 1, rowL cs d 2, rowL cs d 3] := rfl
  have eh : hostsOf cs d = nm (rowL cs d 0) :: [nm (rowL cs d 1), nm (rowL cs d 2), nm (rowL cs d 3)] := rfl
  generalize hρ1 : (((ρ.set "row" (.val (.list ((rowOf cs d).map encL)))).set "hosts" (.val (.list ((hostsOf cs d).map .str)))).set "sets" (.val (.list ((T d).map .str)))) = ρ1
  have r1 : ρ1 "row" = some (.val (.list ((rowOf cs d).map encL))) := by rw [← hρ1]; simp (config := {decide := true}) only [set_same, set_other, ne_eq]
  have r2 : ρ1 "hosts" = some (.val (.list ((hostsOf cs d).map .str))) := by rw [← hρ1]; simp (config := {decide := true}) only [set_same, set_other, ne_eq]
  have r3 : ρ1 "sets" = some (.val (.list ((T d).map .str))) := by rw [← hρ1]; simp (config := {decide := true}) only [set_same]
  have r4 : ρ1 "turns" = some (.val (.list (turnsL.map .int))) := by rw [← hρ1]; simp (config := {decide := true}) only [set_other, ne_eq, m5]
  have r5 : ρ1 "words" = some (.val (.str wordsS2)) := by rw [← hρ1]; simp (config := {decide := true}) only [set_other, ne_eq, m4]
  have r6 : ρ1 "rows" = some (.val (.list ((List.range 3).map fun d => .list ((rowOf cs d).map encL)))) := by rw [← hρ1]; simp (config := {decide := true}) only [set_other, ne_eq, m1]
  have r7 : ρ1 "directories" = some (.val (.list ((List.range 3).map fun d => .list ((hostsOf cs d).map .str)))) := by rw [← hρ1]; simp (config := {decide := true}) only [set_other, ne_eq, m2]
  have r8 : ρ1 "told" = some (.val (.list ((List.range 3).map fun d => .list ((T d).map .str)))) := by rw [← hρ1]; simp (config := {decide := true}) only [set_other, ne_eq, m3]
  have ha3 : AOK 3 A := ⟨ha.1, by have := ha.2.1; omega, by have := ha.2.2; omega⟩
  have b1 := body_1 (rowOf cs d) (hostsOf cs d) (T d) (P.row d hd) ρ1 r1 r2 r3
  have ht := (P.row d hd).turns
  rw [eh] at ht
  have r1' := r1
  rw [er] at r1'
  have r2' := r2
  rw [eh] at r2'
  have b2 := body_2 (rowL cs d 0) [rowL cs d 1, rowL cs d 2, rowL cs d 3] (nm (rowL cs d 0)) [nm (rowL cs d 1), nm (rowL cs d 2), nm (rowL cs d 3)] rfl ht (P.s d hd) ρ1 r1' r2' r4
  generalize hρ2 : (ρ1.set "host" (.val (.str (nm (rowL cs d 0))))).set "rest" (.val (.list ((restOf (rowL cs d 0)).map .str))) = ρ2 at b2
  have q1 : ρ2 "row" = some (.val (.list ((rowL cs d 0 :: [rowL cs d 1, rowL cs d 2, rowL cs d 3]).map encL))) := by rw [← hρ2]; simp (config := {decide := true}) only [set_other, ne_eq, r1']
  have q5 : ρ2 "words" = some (.val (.str wordsS2)) := by rw [← hρ2]; simp (config := {decide := true}) only [set_other, ne_eq, r5]
  have b3 := body_3 (prog := prog) (w := w) C hs ha hfr hfl (rowL cs d 0) [rowL cs d 1, rowL cs d 2, rowL cs d 3] (P.l d hd).1 (P.l d hd).2 ρ2 q1 q5
  refine ⟨ρ2, ?_, ?_⟩
  · have e : lawBody = lawBody.take 1 ++ ((lawBody.drop 1).take 9 ++ lawBody.drop 10) := by
      rw [show lawBody.drop 10 = (lawBody.drop 1).drop 9 by rw [List.drop_drop], List.take_append_drop, List.take_append_drop]
    rw [e]
    exact exs_at_pre C.base (fun2 C) hs ha3 (exs_at_pre C.base (fun2 C) hs ha3 b3 b2) b1
  · refine ⟨?_, ?_, ?_, ?_, ?_⟩ <;> rw [← hρ2] <;> simp (config := {decide := true}) only [set_other, ne_eq, r4, r5, r6, r7, r8]
open Classical in
noncomputable def stepF (prog : Program) (w : World) (h₀ : Heap) (A : Around) (env : Env) (sc : Scope) (t : Expr) (b : List Stmt) (I : REnv → Prop) (d : PyData) (ρ : REnv) : Option (AFlow × REnv) :=
  if h : ∃ ρb, (∃ ρ1, atgt sc t d ρ = some ρ1 ∧ ExsAt prog w h₀ A env b ρ1 .next ρb) ∧ I ρb then some (.next, h.choose) else none
theorem for_at {A : Around} {env : Env} {r : Nat} {sc : Scope} (hs : env.scope = sc) (ha : AOK r A) {t it : Expr} {b : List Stmt} {pos : Pos} {items : List PyData} {ρ : REnv} (I : REnv → Prop) (hi : IterOK prog w h₀ r sc ρ t it items)
    (hstep : ∀ d ∈ items, ∀ ρ, I ρ → ∃ ρ1 ρb, atgt sc t d ρ = some ρ1 ∧ ExsAt prog w h₀ A env b ρ1 .next ρb ∧ I ρb) (h0 : I ρ) : ∃ ρ', ExAt prog w h₀ A env (.For t it b [] pos) ρ .next ρ' ∧ I ρ' := by
  obtain ⟨ρ', h1, h2⟩ := aloop_inv (f := stepF prog w h₀ A env sc t b I) (I := fun _ ρ => I ρ) (all := items) (fun done d rest ρ e hI => by
    obtain ⟨ρ1, ρb, a1, a2, a3⟩ := hstep d (by rw [e]; simp) ρ hI
    have hex : ∃ ρb, (∃ ρ1, atgt sc t d ρ = some ρ1 ∧ ExsAt prog w h₀ A env b ρ1 .next ρb) ∧ I ρb := ⟨ρb, ⟨ρ1, a1, a2⟩, a3⟩
    exact ⟨hex.choose, by unfold stepF; rw [dif_pos hex], hex.choose_spec.2⟩) items [] ρ (by simp) h0
  refine ⟨ρ', ex_for_at (ys := []) (f := stepF prog w h₀ A env sc t b I) hs ha hi h1 (fun d ρa fl ρb h => ?_), h2⟩
  unfold stepF at h
  split at h
  · rename_i hex
    simp only [Option.some.injEq, Prod.mk.injEq] at h
    obtain ⟨rfl, rfl⟩ := h
    exact hex.choose_spec.1
  · cases h
theorem exs_at_ex {A : Around} {env : Env} {st : Stmt} {sts : List Stmt} {ρ : REnv} {fl : AFlow} (I : REnv → Prop) (h : ∃ ρ1, ExAt prog w h₀ A env st ρ .next ρ1 ∧ I ρ1) (h2 : ∀ ρ1, I ρ1 → ∃ ρ2, ExsAt prog w h₀ A env sts ρ1 fl ρ2) : ∃ ρ', ExsAt prog w h₀ A env (st :: sts) ρ fl ρ' := by
  obtain ⟨ρ1, a, b⟩ := h
  obtain ⟨ρ2, c⟩ := h2 ρ1 b
  exact ⟨ρ2, exs_at_cons a c⟩
theorem law_exs (C : Ctx w h₀ mg mb) {A : Around} {env : Env} (hs : env.scope = (fn 129).scope) (ha : AOK 7 A) (hfr : A.frames = some [env]) (hfl : env.frame = some env.locals) (sc : List Int) (hsc : sc.length ≤ 63) {T S H : Nat → List Str} (P : Plain (cellsOf sc) T S H) :
    ∃ ρ', ExsAt prog w h₀ A env (stmtsOf (fn 129)) (argRho ["script"] [.list (sc.map .int)]) (.ret (.bool true)) ρ' := by
  have ha3 : AOK 3 A := ⟨ha.1, by have := ha.2.1; omega, by have := ha.2.2; omega⟩
  obtain ⟨ρ1, e1, L1⟩ := law_pre sc hsc T P.tl P.t
  obtain ⟨ρ2, e2, L2⟩ := law_mid (cellsOf sc) T S H P.tl P.d P.x ρ1 L1
  have post : ∃ ρ', ExsAt prog w h₀ A env ((stmtsOf (fn 129)).drop 8) ρ2 (.ret (.bool true)) ρ' := by
    have hb := fun d hd ρ M => body_all (prog := prog) (w := w) C hs ha hfr hfl P d hd ρ M
    unfold lawBody at hb
    conv at hb in stmtsOf (fn 129) => whnf
    conv in stmtsOf (fn 129) => whnf
    simp only [List.getD_cons_succ, List.getD_cons_zero, bodyOf_for, List.drop_succ_cons, List.drop_zero] at hb ⊢
    obtain ⟨m1, m2, m3, m4, m5⟩ := id L2
    refine exs_at_ex (LawMid (cellsOf sc) T) ?_ (fun ρ1 _ => ⟨ρ1, ?_⟩)
    · refine for_at (sc := (fn 129).scope) (r := 3) (items := tripItems ((List.range 3).map fun d => .list ((rowOf (cellsOf sc) d).map encL)) ((List.range 3).map fun d => .list ((hostsOf (cellsOf sc) d).map .str)) ((List.range 3).map fun d => .list ((T d).map .str))) hs ha3 (LawMid (cellsOf sc) T) ?_ ?_ L2
      · refine it_zip_lists C (by with_unfolding_all rfl) ?_ rfl rfl
        refine es_cons rfl ((snd_all C.base (fun2 C) 30).ev _ _ _ _ ?_) (es_cons rfl ((snd_all C.base (fun2 C) 30).ev _ _ _ _ ?_) (es_cons rfl ((snd_all C.base (fun2 C) 30).ev _ _ _ _ ?_) es_nil))
        · simp (config := {decide := true}) only [v_name, aname, if_false, m1]
        · simp (config := {decide := true}) only [v_name, aname, if_false, m2]
        · simp (config := {decide := true}) only [v_name, aname, if_false, m3]
      · intro d hd ρ M
        have hdd : ∃ i, i < 3 ∧ d = .tuple [.list ((rowOf (cellsOf sc) i).map encL), .list ((hostsOf (cellsOf sc) i).map .str), .list ((T i).map .str)] := by
          have : d ∈ [0, 1, 2].map fun i => PyData.tuple [.list ((rowOf (cellsOf sc) i).map encL), .list ((hostsOf (cellsOf sc) i).map .str), .list ((T i).map .str)] := hd
          obtain ⟨i, hi, rfl⟩ := List.mem_map.mp this
          refine ⟨i, ?_, rfl⟩
          simp only [List.mem_cons, List.not_mem_nil, or_false] at hi
          omega
        obtain ⟨i, hi, rfl⟩ := hdd
        obtain ⟨ρb, hb1, hb2⟩ := hb i hi ρ M
        refine ⟨_, ρb, ?_, hb1, hb2⟩
        show (if kindOk (fn 129).scope "row" = true ∧ kindOk (fn 129).scope "hosts" = true ∧ kindOk (fn 129).scope "sets" = true ∧ ("row" : Str) ≠ "hosts" ∧ ("row" : Str) ≠ "sets" ∧ ("hosts" : Str) ≠ "sets" then some _ else none) = _
        rw [if_pos (by with_unfolding_all decide)]
    · exact exs_at_of (Φ := Φ2) (ap := []) (n := 30) C.base (fun2 C) hs ha3 (by simp (config := {decide := true}) only [x_cons, x_ret, v_const, ac_bool, ne_const, frz])
  obtain ⟨ρ', hp⟩ := post
  refine ⟨ρ', ?_⟩
  have e : stmtsOf (fn 129) = (stmtsOf (fn 129)).take 4 ++ (((stmtsOf (fn 129)).drop 4).take 4 ++ (stmtsOf (fn 129)).drop 8) := by
    rw [show (stmtsOf (fn 129)).drop 8 = ((stmtsOf (fn 129)).drop 4).drop 4 by rw [List.drop_drop], List.take_append_drop, List.take_append_drop]
  rw [e]
  exact exs_at_pre C.base (fun2 C) hs ha3 (exs_at_pre C.base (fun2 C) hs ha3 hp e2) e1
end
section
variable {prog : Program} {w : World} {h₀ : Heap} {r : Nat} {mg mb : Str → Option Value}
theorem call_at {a : Addr} {fd : FuncData} {body : List Stmt} {names : List Str} (D : DefAt h₀ a fd body names) {ds : List PyData} {d : PyData} {A : Around}
    (hlen : ds.length = names.length) (hex : ∀ L, ∃ ρ', ExsAt prog w h₀ (A.deeper (callEnvC fd L a)) (callEnvC fd L a) body (argRho names ds) (.ret d) ρ') (ha : AOK (r + 1) A)
    {s : Shared} {Av : List Addr} {vs : List Value} (hbase : ∀ b o, h₀.get? b = some o → s.heap.get? b = some o) (hav : AvOK Av s.heap) (rvs : RepAll Av s.heap vs ds) : wpAny (model prog w) A (call (.ref a) vs) (Post Av s d) NoE s := by
  obtain ⟨o, ho, hdat⟩ := D.obj
  have hvl : vs.length = names.length := by rw [rvs.length, hlen]
  have hpush : (s.heap.push { cls := .type "frame", data := .dict #[] }).objs.size = s.heap.objs.size + 1 := Heap.size_push ..
  obtain ⟨c1, c2, c3, c4⟩ := cellsFrom_spec (s.heap.objs.size + 1) fd.scope.names (s.heap.push { cls := .type "frame", data := .dict #[] }) [] (by rw [hpush]; exact Nat.le_refl _) (fun x c e => by simp at e) (fun x y c _ e => by simp at e)
  rw [hpush] at c1 c2 c3 c4
  have hmem : ∀ x k, fd.scope.names.lookup x = some k → (x, k) ∈ fd.scope.names := fun x k e => mem_of_lookup e
  refine wpAny_call (codeAny_call_cells (by have := ha.2.1; unfold recursionLimit; omega) (hbase a o ho) hdat (D.lim.keeps hbase) (D.code.keeps hbase) D.body (D.bind vs hvl) D.clo (fun p hp => ?_) (fun s₁ x => ?_) D.co D.gen D.kind)
  · have hx : p.1 ∈ names := (List.of_mem_zip hp).1
    rcases D.par p.1 hx with q | q
    · exact .inl q
    · obtain ⟨c, hc, _⟩ := c2 p.1 (hmem _ _ q)
      exact .inr ⟨q, by rw [hc]; rfl⟩
  · obtain ⟨⟨⟨h1, tk1, e1⟩, hns, hkeep, hfr⟩, hcell, hap, habove⟩ := x
    subst e1
    have hL : (callEnvC fd s.heap.objs.size a).locals = s.heap.objs.size := rfl
    have hcells : (callEnvC fd s.heap.objs.size a).cells = cellsFrom (s.heap.objs.size + 1) fd.scope.names [] := rfl
    have fresh0 : ∀ c, s.heap.objs.size ≤ c → h₀.get? c = none := fun c hc => by
      cases e : h₀.get? c with
      | none => rfl
      | some o => exact absurd (Heap.lt_size (hbase _ _ e)) (Nat.not_lt.mpr hc)
    have hst : StS h₀ Av (callEnvC fd s.heap.objs.size a) Av (fun _ => 0) (argRho names ds) h1 := by
      refine ⟨⟨⟨D.kind, D.glob, D.blt, ⟨_, hns⟩, fun y hy => ?_, fun y z c ey ez => ?_⟩, fun b o e => hkeep b o (hbase b o e), hav.keeps hkeep, fun y W hW => ?_, fun y dd e => ?_, fun y xs e => ?_, fun y z xs ys e => ?_⟩, fun _ q => q, fun y xs e => ?_⟩
      · rcases hy with hy | hy
        · obtain ⟨c, hc, _⟩ := c2 y (hmem _ _ hy)
          exact ⟨c, _, hc, hcell y c hc⟩
        · exact absurd rfl (D.nokey _ (hmem _ _ hy))
      · exact name_of_addr hap (mem_of_lookup ey) (mem_of_lookup ez)
      · rcases hW with ⟨_, rfl⟩ | ⟨_, hc⟩
        · exact fresh0 _ (Nat.le_refl _)
        · exact fresh0 _ (Nat.le_of_lt (habove y W (mem_of_lookup hc)))
      · unfold argRho at e
        obtain ⟨dd', hdd, e2⟩ := Option.map_eq_some_iff.mp e
        cases e2
        obtain ⟨v, hv, rv⟩ := zip_lookup (R := fun v d => Rep Av s.heap v d) rvs.length hdd (fun i v d h1 h2 => by
          obtain ⟨d', hd', rd⟩ := rvs.get h1
          rw [h2] at hd'; cases hd'; exact rd)
        have hx : y ∈ names := (List.of_mem_zip hv).1
        have hnd : ((names.zip vs).map (·.1)).Nodup := by
          rw [List.map_fst_zip (by omega)]; exact D.nodup
        refine ⟨v, ?_, rv.keeps hkeep⟩
        rcases D.par y hx with q | q
        · exact .loc q hns (bindL_some q _ _ hnd hv)
        · obtain ⟨c, hc, _⟩ := c2 y (hmem _ _ q)
          have hk : (callEnvC fd s.heap.objs.size a).kindOf y = some .cell := q
          have hne : (callEnvC fd s.heap.objs.size a).kindOf y ≠ some .local := by rw [hk]; intro e; cases e
          have hh := hcell y c hc
          rw [bindC_some hne _ _ hnd hv] at hh
          exact .cell hk hc hh
      · unfold argRho at e
        obtain ⟨dd', hdd, e2⟩ := Option.map_eq_some_iff.mp e
        cases e2
      · unfold argRho at e
        obtain ⟨dd', hdd, e2⟩ := Option.map_eq_some_iff.mp e
        cases e2
      · unfold argRho at e
        obtain ⟨dd', hdd, e2⟩ := Option.map_eq_some_iff.mp e
        cases e2
    obtain ⟨ρ', hex⟩ := hex s.heap.objs.size
    refine wpAny_mono (hex { s with heap := h1, toks := tk1 } Av Av (fun _ => 0) hst) (fun f s₂ q => ?_) noE
    obtain ⟨Av', α', h', tk', rfl, st', fr, kept, own, alive, avn⟩ := q
    cases fr with
    | ret rv =>
    refine ⟨⟨h', tk', rfl, fun b o e => kept b o (hkeep b o e) (fun y hW => ?_) (fun y xs e => ?_)⟩, rv.move (fun _ _ _ e _ => e) (fun b o hb _ _ hm => hb (st'.sub b hm))⟩
    · have hlt := Heap.lt_size e
      rcases hW with ⟨_, rfl⟩ | ⟨_, hc⟩
      · exact Nat.lt_irrefl _ hlt
      · exact absurd (habove y b (mem_of_lookup hc)) (Nat.not_lt.mpr (Nat.le_of_lt hlt))
    · unfold argRho at e
      obtain ⟨dd', hdd, e2⟩ := Option.map_eq_some_iff.mp e
      cases e2
theorem ints_rep {Av : List Addr} {h : Heap} {vs : List Value} {ns : List Int} (r : IntsAre vs ns) : RepAll Av h vs (ns.map .int) := by
  induction r with
  | nil => exact .nil
  | cons n t _ ih => exact .cons (.int n t) ih
theorem law_call (C : Ctx w h₀ mg mb) {l : Addr} {vs : List Value} {n : Nat} {ns : List Int} {s : Shared} (hlen : ns.length ≤ 63) (hl : s.heap.get? l = some (listObj vs.toArray n)) (hI : IntsAre vs ns) (hbase : ∀ b o, h₀.get? b = some o → s.heap.get? b = some o)
    (P : ∃ T S H, Plain (cellsOf ns) T S H) : wpAny (model prog w) callerA (call (.ref 129) [.ref l]) (Post [] s (.bool true)) NoE s := by
  obtain ⟨T, S, H, P⟩ := P
  refine call_at (r := 7) (names := ["script"]) (ds := [.list (ns.map .int)]) C.d129 rfl (fun L => ?_) ⟨rfl, by decide, by decide⟩ hbase (fun a ha => by simp at ha) (.cons (.list (by simp) hl (by simpa using ints_rep hI)) .nil)
  have ha : AOK 8 callerA := ⟨rfl, by decide, by decide⟩
  have ha' : AOK 7 (callerA.deeper (callEnvC (fn 129) L 129)) := by
    obtain ⟨q1, q2, q3⟩ := ha
    refine ⟨q1, ?_, ?_⟩
    · show callerA.depth + 1 + 7 < 900; omega
    · show callerA.units + 3 + 4 * 7 + 20 < cLine; omega
  exact law_exs C rfl ha' (Around.frames_deeper rfl) rfl ns hlen P
end
noncomputable def jn : List (List Nat) → List Nat
  | [] => []
  | [x] => x
  | x :: y :: r => x ++ 46 :: jn (y :: r)
theorem jn_cons {x : List Nat} {r : List (List Nat)} (h : r ≠ []) : jn (x :: r) = x ++ 46 :: jn r := by
  cases r with
  | nil => exact absurd rfl h
  | cons y r => rfl
theorem jn_map (f : Nat → Nat) (hf : f 46 = 46) : ∀ u : List (List Nat), jn (u.map (List.map f)) = (jn u).map f
  | [] => rfl
  | [x] => rfl
  | x :: y :: r => by
    have ih := jn_map f hf (y :: r)
    rw [List.map_cons, jn_cons (by simp), jn_cons (by simp), ih]
    simp [hf]
theorem split_dot : ∀ {x x' a b : List Nat}, 46 ∉ x → 46 ∉ x' → x ++ 46 :: a = x' ++ 46 :: b → x = x' ∧ a = b
  | [], [], a, b, _, _, h => by simpa using h
  | [], c :: x', a, b, _, h2, h => by
    simp at h; exact absurd (by simp [h.1]) h2
  | c :: x, [], a, b, h1, _, h => by
    simp at h; exact absurd (by simp [h.1]) h1
  | c :: x, c' :: x', a, b, h1, h2, h => by
    simp only [List.cons_append, List.cons.injEq] at h
    obtain ⟨e1, e2⟩ := split_dot (x := x) (x' := x') (fun q => h1 (by simp [q])) (fun q => h2 (by simp [q])) h.2
    exact ⟨by rw [h.1, e1], e2⟩
theorem jn_inj : ∀ {u v : List (List Nat)}, u ≠ [] → v ≠ [] → (∀ x ∈ u, 46 ∉ x) → (∀ x ∈ v, 46 ∉ x) → jn u = jn v → u = v
  | [], _, h, _, _, _, _ => absurd rfl h
  | _, [], _, h, _, _, _ => absurd rfl h
  | [x], [y], _, _, _, _, h => by rw [show x = y from h]
  | [x], y :: z :: r, _, _, h1, _, h => by
    rw [jn_cons (r := z :: r) (by simp)] at h
    exact absurd (show 46 ∈ x by rw [show x = _ from h]; simp) (h1 x (by simp))
  | x :: z :: r, [y], _, _, _, h2, h => by
    rw [jn_cons (r := z :: r) (by simp)] at h
    exact absurd (show 46 ∈ y by rw [show y = _ from h.symm]; simp) (h2 y (by simp))
  | x :: z :: r, y :: z' :: r', _, _, h1, h2, h => by
    rw [jn_cons (r := z :: r) (by simp), jn_cons (r := z' :: r') (by simp)] at h
    obtain ⟨e1, e2⟩ := split_dot (h1 x (by simp)) (h2 y (by simp)) h
    have := jn_inj (u := z :: r) (v := z' :: r') (by simp) (by simp) (fun q hq => h1 q (List.mem_cons_of_mem _ hq)) (fun q hq => h2 q (List.mem_cons_of_mem _ hq)) e2
    rw [e1, this]
theorem suffix_dotless {t b : List Nat} : ∀ {x : List Nat}, 46 ∉ x → ((46 :: t) <:+ (x ++ b) ↔ (46 :: t) <:+ b)
  | [], _ => Iff.rfl
  | c :: x, h => by
    rw [List.cons_append, List.suffix_cons_iff, suffix_dotless (x := x) fun q => h (List.mem_cons_of_mem _ q)]
    constructor
    · rintro (e | e)
      · have : 46 = c := by simp only [List.cons.injEq] at e; exact e.1
        exact absurd (by rw [this]; exact List.mem_cons_self) h
      · exact e
    · exact .inr
theorem suffix_jn {u : List (List Nat)} (hu : u ≠ []) (hu' : ∀ x ∈ u, 46 ∉ x) : ∀ {v : List (List Nat)}, v ≠ [] → (∀ x ∈ v, 46 ∉ x) → ((46 :: jn u) <:+ jn v ↔ ∃ w, w ≠ [] ∧ v = w ++ u)
  | [], h, _ => absurd rfl h
  | [x], _, h => by
    constructor
    · intro hs
      exact absurd (hs.subset (show 46 ∈ 46 :: jn u from List.mem_cons_self)) (h x (by simp))
    · rintro ⟨w, hw, e⟩
      have := congrArg List.length e
      have h1 := List.length_pos_iff.mpr hw
      have h2 := List.length_pos_iff.mpr hu
      rw [List.length_append, List.length_singleton] at this
      omega
  | x :: y :: r, _, h => by
    have hr : ∀ z ∈ y :: r, 46 ∉ z := fun z hz => h z (List.mem_cons_of_mem _ hz)
    rw [jn_cons (r := y :: r) (by simp), suffix_dotless (h x (by simp)), List.suffix_cons_iff, suffix_jn hu hu' (v := y :: r) (by simp) hr]
    constructor
    · rintro (e | ⟨w, hw, e⟩)
      · have e' : jn u = jn (y :: r) := by simpa using e
        exact ⟨[x], by simp, by rw [jn_inj hu (by simp) hu' hr e']; rfl⟩
      · exact ⟨x :: w, by simp, by rw [e]; rfl⟩
    · rintro ⟨w, hw, e⟩
      cases w with
      | nil => exact absurd rfl hw
      | cons a w =>
        simp only [List.cons_append, List.cons.injEq] at e
        by_cases hw' : w = []
        · subst hw'
          left; rw [e.2]; rfl
        · exact .inr ⟨w, hw', e.2⟩
theorem toList_inj {x y : Str} (h : x.cps.toList = y.cps.toList) : x = y := by
  obtain ⟨⟨a⟩⟩ := x; obtain ⟨⟨b⟩⟩ := y; simp at h; subst h; rfl
theorem ends_iff (x y : Str) : Txt.endswith x y = true ↔ y.cps.toList <:+ x.cps.toList := by
  have lx : x.cps.toList.length = x.length := Array.length_toList
  have ly : y.cps.toList.length = y.length := Array.length_toList
  unfold Txt.endswith
  simp only [Bool.and_eq_true, decide_eq_true_eq, Nat.zero_add]
  rw [StrLaws.subAt_eq, beq_iff_eq]
  constructor
  · rintro ⟨h1, h2⟩
    rw [List.take_of_length_le (by rw [List.length_drop, lx]; omega)] at h2
    exact ⟨_, by rw [← h2]; exact List.take_append_drop (x.length - y.length) _⟩
  · rintro ⟨t, ht⟩
    have hl := congrArg List.length ht
    rw [List.length_append, lx, ly] at hl
    refine ⟨by omega, ?_⟩
    rw [← ht, show x.length - y.length = t.length by omega, List.drop_left, ← ly, List.take_length]
theorem dot_toList : ("." : Str).cps.toList = [46] := by decide
theorem starts_dot (x : Str) : Txt.startswith x "." = (x.cps.toList.head? == some 46) := by
  have e : (Str.ofString ".").length = 1 := by decide
  have lx : x.cps.toList.length = x.length := Array.length_toList
  unfold Txt.startswith
  rw [StrLaws.subAt_eq, dot_toList, e, List.drop_zero]
  cases h : x.cps.toList with
  | nil => rw [h] at lx; simp at lx; simp [← lx]
  | cons a r =>
    rw [h] at lx; simp at lx
    have : (0 + 1 ≤ x.length) := by omega
    rw [decide_eq_true this, Bool.true_and, List.take_succ_cons, List.take_zero]
    show ([a] == [46]) = (a == 46)
    by_cases h2 : a = 46
    · subst h2; rfl
    · rw [beq_eq_false_iff_ne.mpr h2, beq_eq_false_iff_ne]; simpa using h2
theorem find_dot_none {x : Str} (h : 46 ∉ x.cps.toList) : Txt.find x "." = -1 := by
  rcases find_whole x "." with ⟨h1, _⟩ | ⟨i, _, hi, _⟩
  · exact h1
  · have : x.cps.toList[i]? = some 46 := (StrLaws.subAt_one x 46 i).mp (by
      have e : ("." : Str) = ⟨#[46]⟩ := by decide
      rw [e] at hi; exact hi)
    exact absurd (List.mem_of_getElem? this) h
theorem find_dot_some {x : Str} {a b : List Nat} (h : x.cps.toList = a ++ 46 :: b) (ha : 46 ∉ a) : Txt.find x "." = (a.length : Int) := by
  have e : ("." : Str) = ⟨#[46]⟩ := by decide
  have at0 : ∀ i, StrLaws.At x "." x.length i ↔ x.cps.toList[i]? = some 46 := fun i => by
    rw [e]; exact StrLaws.subAt_one x 46 i
  have ha0 : x.cps.toList[a.length]? = some 46 := by rw [h]; simp
  rcases find_whole x "." with ⟨_, hn⟩ | ⟨i, hf, hi, hlow⟩
  · exact absurd ((at0 _).mpr ha0) (hn _)
  · rw [hf]
    have h1 := (at0 i).mp hi
    rcases Nat.lt_trichotomy i a.length with hlt | heq | hgt
    · rw [h, List.getElem?_append_left hlt] at h1
      exact absurd (List.mem_of_getElem? h1) ha
    · rw [heq]
    · exact absurd ((at0 _).mpr ha0) (hlow _ hgt)
theorem find_dot_nonneg {x : Str} (h : 46 ∈ x.cps.toList) : 0 ≤ Txt.find x "." := by
  obtain ⟨i, hi⟩ := List.getElem?_of_mem h
  have e : ("." : Str) = ⟨#[46]⟩ := by decide
  rcases find_whole x "." with ⟨_, hn⟩ | ⟨i, hf, _, _⟩
  · exact absurd (show StrLaws.At x "." x.length i by rw [e]; exact (StrLaws.subAt_one x 46 i).mpr hi) (hn _)
  · rw [hf]; omega
theorem up_len {x : Str} (hA : ∀ c ∈ x.cps.toList, c < 128) : (Txt.upper x).length = x.length := by
  rw [upper_ascii hA]; simp [Str.length]
theorem lo_len {x : Str} (hA : ∀ c ∈ x.cps.toList, c < 128) : (Txt.lower x).length = x.length := by
  rw [lower_ascii hA]; simp [Str.length]
theorem up_list {x : Str} (hA : ∀ c ∈ x.cps.toList, c < 128) : (Txt.upper x).cps.toList = x.cps.toList.map up1 := by
  rw [upper_ascii hA]; simp
theorem lo_list {x : Str} (hA : ∀ c ∈ x.cps.toList, c < 128) : (Txt.lower x).cps.toList = x.cps.toList.map lo1 := by
  rw [lower_ascii hA]; simp
theorem up1_lt {c : Nat} (h : c < 128) : up1 c < 128 := by unfold up1; split <;> omega
theorem lo1_up1 (c : Nat) : lo1 (up1 c) = lo1 c := by
  unfold up1 lo1
  split
  · rename_i h
    rw [if_pos (by omega), if_neg (by omega)]; omega
  · rfl
theorem lo_up_list {x : Str} (hA : ∀ c ∈ x.cps.toList, c < 128) : (Txt.lower (Txt.upper x)).cps.toList = x.cps.toList.map lo1 := by
  have : ∀ c ∈ (Txt.upper x).cps.toList, c < 128 := by
    rw [up_list hA]
    intro c hc
    obtain ⟨d, hd, rfl⟩ := List.mem_map.mp hc
    exact up1_lt (hA d hd)
  rw [lo_list this, up_list hA, List.map_map]
  exact List.map_congr_left fun c _ => lo1_up1 c
noncomputable def ltS (x y : Str) : Prop := x.cps.toList < y.cps.toList
theorem ltS_irrefl (x : Str) : ¬ ltS x x := List.lt_irrefl _
theorem ltS_trans {x y z : Str} (h1 : ltS x y) (h2 : ltS y z) : ltS x z := List.lt_trans h1 h2
theorem ltS_or {x y : Str} (h : x ≠ y) : ltS x y ∨ ltS y x := by
  unfold ltS
  by_cases h1 : x.cps.toList < y.cps.toList
  · exact .inl h1
  · right
    have h2 : y.cps.toList ≤ x.cps.toList := List.not_lt.mp h1
    by_cases h3 : y.cps.toList < x.cps.toList
    · exact h3
    · have h4 : x.cps.toList ≤ y.cps.toList := List.not_lt.mp h3
      exact absurd (toList_inj (List.le_antisymm h4 h2)) h
theorem ltS_asymm {x y : Str} (h1 : ltS x y) (h2 : ltS y x) : False := ltS_irrefl _ (ltS_trans h1 h2)
theorem coll_minus {x y : Str} : collF x y = -1 ↔ ltS x y := by
  unfold collF b2i
  by_cases h1 : ltS x y
  · have h2 : ¬ ltS y x := fun q => ltS_asymm h1 q
    have e1 : decide (x.cps.toList < y.cps.toList) = true := decide_eq_true h1
    have e2 : decide (y.cps.toList < x.cps.toList) = false := decide_eq_false h2
    simp only [e1, e2, h1, iff_true]; decide
  · have e1 : decide (x.cps.toList < y.cps.toList) = false := decide_eq_false h1
    simp only [e1, h1, iff_false]
    cases decide (y.cps.toList < x.cps.toList) <;> decide
noncomputable def desc (l : List Str) : Prop := l.Pairwise fun x y => ltS y x
theorem desc_nodup {l : List Str} (h : desc l) : l.Nodup := h.imp fun {a b} q e => by subst e; exact ltS_irrefl _ q
theorem desc_ext : ∀ {l m : List Str}, desc l → desc m → (∀ x, x ∈ l ↔ x ∈ m) → l = m
  | [], [], _, _, _ => rfl
  | [], y :: m, _, _, h => absurd ((h y).mpr (by simp)) (by simp)
  | x :: l, [], _, _, h => absurd ((h x).mp (by simp)) (by simp)
  | x :: l, y :: m, h1, h2, h => by
    have a1 := List.pairwise_cons.mp h1
    have a2 := List.pairwise_cons.mp h2
    have e : x = y := by
      rcases List.mem_cons.mp ((h x).mp (by simp)) with e | e
      · exact e
      · rcases List.mem_cons.mp ((h y).mpr (by simp)) with e' | e'
        · exact e'.symm
        · exact absurd (ltS_trans (a2.1 x e) (a1.1 y e')) (ltS_irrefl _)
    subst e
    have : l = m := desc_ext a1.2 a2.2 fun z => by
      constructor
      · intro hz
        rcases List.mem_cons.mp ((h z).mp (by simp [hz])) with e | e
        · subst e; exact absurd (a1.1 z hz) (ltS_irrefl _)
        · exact e
      · intro hz
        rcases List.mem_cons.mp ((h z).mpr (by simp [hz])) with e | e
        · subst e; exact absurd (a2.1 z hz) (ltS_irrefl _)
        · exact e
    rw [this]
theorem aheadS_yes {one x : Str} {r : List Str} (h : ltS one x) : aheadS one (x :: r) = x :: aheadS one r := by
  unfold aheadS
  rw [List.flatMap_cons, if_pos (coll_minus.mpr h)]; rfl
theorem aheadS_no {one x : Str} {r : List Str} (h : ¬ ltS one x) : aheadS one (x :: r) = aheadS one r := by
  unfold aheadS
  rw [List.flatMap_cons, if_neg (fun q => h (coll_minus.mp q))]; rfl
theorem aheadS_none {one : Str} : ∀ {l : List Str}, (∀ x ∈ l, ¬ ltS one x) → aheadS one l = []
  | [], _ => rfl
  | x :: r, h => by rw [aheadS_no (h x (by simp)), aheadS_none fun y hy => h y (by simp [hy])]
theorem insS_cons {one x : Str} {r : List Str} (h : ltS one x) : insS (x :: r) one = x :: insS r one := by
  unfold insS
  rw [aheadS_yes h]
  simp
theorem insS_stop {one : Str} {l : List Str} (h : ∀ x ∈ l, ¬ ltS one x) : insS l one = one :: l := by
  unfold insS
  rw [aheadS_none h]
  simp
theorem insS_desc {one : Str} : ∀ {l : List Str}, desc l → one ∉ l → desc (insS l one) ∧ ∀ x, x ∈ insS l one ↔ x = one ∨ x ∈ l
  | [], _, _ => by rw [insS_stop (by simp)]; exact ⟨List.pairwise_singleton _ _, fun x => by simp⟩
  | x :: r, h, hn => by
    have a := List.pairwise_cons.mp h
    have hne : one ≠ x := fun e => hn (by simp [e])
    by_cases hl : ltS one x
    · rw [insS_cons hl]
      obtain ⟨h1, h2⟩ := insS_desc (one := one) a.2 (fun q => hn (List.mem_cons_of_mem _ q))
      refine ⟨List.pairwise_cons.mpr ⟨fun y hy => ?_, h1⟩, fun y => ?_⟩
      · rcases (h2 y).mp hy with e | e
        · subst e; exact hl
        · exact a.1 y e
      · rw [List.mem_cons, h2, List.mem_cons]
        constructor
        · rintro (e | e | e)
          · exact .inr (.inl e)
          · exact .inl e
          · exact .inr (.inr e)
        · rintro (e | e | e)
          · exact .inr (.inl e)
          · exact .inl e
          · exact .inr (.inr e)
    · have hx : ltS x one := (ltS_or hne).resolve_left hl
      rw [insS_stop (fun y hy => by
        rcases List.mem_cons.mp hy with e | e
        · subst e; exact hl
        · exact fun q => ltS_asymm (ltS_trans (a.1 y e) hx) q)]
      refine ⟨List.pairwise_cons.mpr ⟨fun y hy => ?_, h⟩, fun y => by simp⟩
      rcases List.mem_cons.mp hy with e | e
      · subst e; exact hx
      · exact ltS_trans (a.1 y e) hx
theorem orderedS_desc {l : List Str} (h : l.Nodup) : desc (orderedS l) ∧ ∀ x, x ∈ orderedS l ↔ x ∈ l := by
  have key : ∀ (l : List Str) (acc : List Str), desc acc → l.Nodup → (∀ x ∈ l, x ∉ acc) → desc (l.foldl insS acc) ∧ ∀ x, x ∈ l.foldl insS acc ↔ x ∈ acc ∨ x ∈ l := by
    intro l
    induction l with
    | nil => intro acc h _ _; exact ⟨h, fun x => by simp⟩
    | cons y r ih =>
      intro acc h hn hd
      have hn' := List.nodup_cons.mp hn
      obtain ⟨h1, h2⟩ := insS_desc h (hd y (by simp))
      obtain ⟨h3, h4⟩ := ih (insS acc y) h1 hn'.2 (fun x hx q => by
        rcases (h2 x).mp q with e | e
        · subst e; exact hn'.1 hx
        · exact hd x (by simp [hx]) e)
      refine ⟨h3, fun x => ?_⟩
      rw [List.foldl_cons, h4, h2, List.mem_cons]
      constructor
      · rintro ((e | e) | e)
        · exact .inr (.inl e)
        · exact .inl e
        · exact .inr (.inr e)
      · rintro (e | e | e)
        · exact .inl (.inr e)
        · exact .inl (.inl e)
        · exact .inr e
  obtain ⟨h1, h2⟩ := key l [] List.Pairwise.nil h (by simp)
  exact ⟨h1, fun x => by rw [orderedS, h2]; simp⟩
theorem sortS_desc {l : List Str} (h : l.Nodup) : desc (sortS l).reverse ∧ ∀ x, x ∈ (sortS l).reverse ↔ x ∈ l := by
  have hp : (sortS l).Perm l := List.mergeSort_perm l leS
  have hs : (sortS l).Pairwise fun a b => leS a b = true := List.pairwise_mergeSort leS_trans (fun a b => leS_total a b) l
  have hn : (sortS l).Nodup := (hp.nodup_iff).mpr h
  refine ⟨List.pairwise_reverse.mpr ?_, fun x => by rw [List.mem_reverse]; exact hp.mem_iff⟩
  have := List.Pairwise.and hs hn
  refine this.imp fun {a b} q => ?_
  obtain ⟨q1, q2⟩ := q
  rcases ltS_or q2 with e | e
  · exact e
  · rw [leS_iff, decide_eq_true_eq] at q1
    exact absurd e (List.not_lt.mpr q1)
theorem sort_due_eq {l m : List Str} (h1 : l.Nodup) (h2 : m.Nodup) (h : ∀ x, x ∈ l ↔ x ∈ m) : orderedS l = (sortS m).reverse := by
  obtain ⟨a1, a2⟩ := orderedS_desc h1
  obtain ⟨b1, b2⟩ := sortS_desc h2
  exact desc_ext a1 b1 fun x => by rw [a2, b2, h]
/-- a list without repeats is no longer than one that holds all its members -/
theorem nodup_len {α : Type} [DecidableEq α] : ∀ {l m : List α}, l.Nodup → (∀ x ∈ l, x ∈ m) → l.length ≤ m.length
  | [], _, _, _ => Nat.zero_le _
  | x :: r, m, h, hs => by
    have h' := List.nodup_cons.mp h
    have hm := hs x (by simp)
    have := nodup_len (l := r) (m := m.erase x) h'.2 (fun y hy => (List.mem_erase_of_ne (fun e => h'.1 (by rw [← e]; exact hy))).mpr (hs y (by simp [hy])))
    rw [List.length_erase_of_mem hm] at this
    have := List.length_pos_of_mem hm
    rw [List.length_cons]; omega
noncomputable def tl (x : Str) : List Nat := x.cps.toList
noncomputable def low (x : Str) : List Nat := (tl x).map lo1
noncomputable def letterC (c : Nat) : Prop := (65 ≤ c ∧ c ≤ 90) ∨ (97 ≤ c ∧ c ≤ 122)
structure Good (x : Str) : Prop where
  ne : tl x ≠ []
  let_ : ∀ c ∈ tl x, letterC c
structure Lab (l : List Str) : Prop where
  first : l.head? = some "local"
  good : ∀ x ∈ l, Good x
theorem Lab.ne {l : List Str} (h : Lab l) : l ≠ [] := fun e => by have := h.first; rw [e] at this; cases this
theorem Lab.init {l : List Str} {x : Str} (h : Lab (l ++ [x])) (hl : l ≠ []) : Lab l := ⟨by have := h.first; cases l with
  | nil => exact absurd rfl hl
  | cons a r => simpa using this, fun y hy => h.good y (by simp [hy])⟩
theorem Lab.take {l : List Str} (h : Lab l) {i : Nat} (hi : 0 < i) : Lab (l.take i) := by
  obtain ⟨h1, h2⟩ := h
  cases l with
  | nil => cases h1
  | cons a r =>
    cases i with
    | zero => omega
    | succ i => exact ⟨by simpa using h1, fun y hy => h2 y (List.mem_of_mem_take hy)⟩
theorem nm_one (x : Str) : nm [x] = x := rfl
theorem nm_snoc {l : List Str} (h : l ≠ []) (x : Str) : nm (l ++ [x]) = x ++ "." ++ nm l := by
  obtain ⟨a, r, rfl⟩ : ∃ a r, l = a :: r := by
    cases l with
    | nil => exact absurd rfl h
    | cons a r => exact ⟨a, r, rfl⟩
  have e1 := namedS_some a r
  have e2 : namedS ((a :: r) ++ [x]) = some (name1 (namedS (a :: r)) x) := namedS_snoc _ _
  rw [e1] at e2
  show (namedS ((a :: r) ++ [x])).getD "" = _
  rw [e2]; rfl
theorem tl_app (x y : Str) : tl (x ++ y) = tl x ++ tl y := cps_app x y
theorem tl_dot : tl "." = [46] := dot_toList
theorem tx : ∀ {l : List Str}, l ≠ [] → tl (nm l) = jn (l.reverse.map tl) := by
  intro l
  induction l using snocInd with
  | nil => intro h; exact absurd rfl h
  | snoc l x ih =>
    intro _
    by_cases hl : l = []
    · subst hl; rfl
    · rw [nm_snoc hl, tl_app, tl_app, tl_dot, ih hl, List.reverse_append, List.reverse_singleton]
      have : (l.reverse.map tl) ≠ [] := by simp [hl]
      show _ = jn (tl x :: l.reverse.map tl)
      rw [jn_cons this]; simp
theorem nm_len (l : List Str) : (nm l).length ≤ weigh l := by
  cases l with
  | nil => show (Str.ofString "").length ≤ _; exact Nat.le_trans (by decide) (Nat.zero_le _)
  | cons a r => exact namedS_len _ (namedS_some a r)
theorem mem_jn {c : Nat} : ∀ {u : List (List Nat)}, c ∈ jn u → c = 46 ∨ ∃ x ∈ u, c ∈ x
  | [], h => by simp [jn] at h
  | [x], h => .inr ⟨x, by simp, h⟩
  | x :: y :: r, h => by
    rw [jn_cons (by simp)] at h
    rcases List.mem_append.mp h with q | q
    · exact .inr ⟨x, by simp, q⟩
    · rcases List.mem_cons.mp q with q | q
      · exact .inl q
      · rcases mem_jn q with e | ⟨z, hz, hc⟩
        · exact .inl e
        · exact .inr ⟨z, by simp [List.mem_cons.mp hz], hc⟩
theorem nm_chars {l : List Str} (h : Lab l) : ∀ c ∈ tl (nm l), letterC c ∨ c = 46 := fun c hc => by
  rw [tx h.ne] at hc
  rcases mem_jn hc with e | ⟨x, hx, hc⟩
  · exact .inr e
  · obtain ⟨y, hy, rfl⟩ := List.mem_map.mp hx
    exact .inl ((h.good y (by simpa using hy)).let_ c hc)
theorem letter_lt {c : Nat} (h : letterC c ∨ c = 46) : c < 128 := by unfold letterC at h; omega
theorem letter_ne {c : Nat} (h : letterC c) : c ≠ 46 := by unfold letterC at h; omega
theorem lo1_letter {c : Nat} (h : letterC c ∨ c = 46) : letterC (lo1 c) ∨ lo1 c = 46 := by
  unfold letterC lo1 at *
  split <;> omega
theorem lo1_letter' {c : Nat} (h : letterC c) : letterC (lo1 c) := by
  unfold letterC lo1 at *
  split <;> omega
theorem digit_no : ∀ c, c < 128 → (c < 48 ∨ 57 < c) → Sre.isDigit c = false := by decide +kernel
theorem letter_digit {c : Nat} (h : letterC c ∨ c = 46) : Sre.isDigit c = false := digit_no c (letter_lt h) (by unfold letterC at h; omega)
theorem lib_true {x : Str} (hl : x.length ≤ LIM) (h : ∀ c ∈ tl x, letterC c ∨ c = 46) : libF x = some true := by
  unfold libF
  rw [ipv4_plain hl fun c hc => letter_digit (h c hc)]; rfl
theorem str_dot_ne (x : Str) : tl ("." ++ x) = 46 :: tl x := by rw [tl_app, tl_dot]; rfl
theorem len_tl (x : Str) : (tl x).length = x.length := Array.length_toList
/-- a name against a domain -/
theorem match_names {m p : List Str} (hm : Lab m) (hp : Lab p) (lm : weigh m ≤ 1000) (lp : weigh p ≤ 1000) :
    ∃ b, matchF (nm m) ("." ++ nm p) = some b ∧ (b = true ↔ ∃ w, w ≠ [] ∧ m.map low = p.map low ++ w) := by
  have am : ∀ c ∈ tl (nm m), c < 128 := fun c hc => letter_lt (nm_chars hm c hc)
  have ap : ∀ c ∈ tl ("." ++ nm p), letterC c ∨ c = 46 := fun c hc => by
    rw [str_dot_ne] at hc
    rcases List.mem_cons.mp hc with e | e
    · exact .inr e
    · exact nm_chars hp c e
  have ap' : ∀ c ∈ tl ("." ++ nm p), c < 128 := fun c hc => letter_lt (ap c hc)
  have l1 := nm_len m
  have l2 := nm_len p
  have l3 : ("." ++ nm p : Str).length ≤ 1001 := by
    rw [← len_tl, str_dot_ne, List.length_cons, len_tl]; omega
  have u1 : (Txt.upper (nm m)).length = (nm m).length := up_len am
  have au : ∀ c ∈ tl (Txt.upper (nm m)), c < 128 := by
    show ∀ c ∈ (Txt.upper (nm m)).cps.toList, c < 128
    rw [up_list am]
    intro c hc
    obtain ⟨d, hd, rfl⟩ := List.mem_map.mp hc
    exact up1_lt (am d hd)
  have u2 : (Txt.lower (Txt.upper (nm m))).length = (Txt.upper (nm m)).length := lo_len au
  have u3 : (Txt.lower ("." ++ nm p)).length = ("." ++ nm p : Str).length := lo_len ap'
  have t1 : tl (Txt.lower (Txt.upper (nm m))) = (tl (nm m)).map lo1 := lo_up_list am
  have t2 : tl (Txt.lower ("." ++ nm p)) = (tl ("." ++ nm p)).map lo1 := lo_list ap'
  have g1 : libF (Txt.lower (Txt.upper (nm m))) = some true := lib_true (by unfold LIM; omega) (by
    rw [t1]
    intro c hc
    obtain ⟨d, hd, rfl⟩ := List.mem_map.mp hc
    exact lo1_letter (nm_chars hm d hd))
  have g2 : libF (Txt.lower ("." ++ nm p)) = some true := lib_true (by unfold LIM; omega) (by
    rw [t2]
    intro c hc
    obtain ⟨d, hd, rfl⟩ := List.mem_map.mp hc
    exact lo1_letter (ap d hd))
  have g3 : Txt.startswith (Txt.lower ("." ++ nm p)) "." = true := by
    rw [starts_dot]
    show ((tl _).head? == some 46) = true
    rw [t2, str_dot_ne]; rfl
  refine ⟨Txt.endswith (Txt.lower (Txt.upper (nm m))) (Txt.lower ("." ++ nm p)), ?_, ?_⟩
  · unfold matchF udmF
    rw [if_pos (by unfold LIM; omega), if_pos ⟨by omega, by omega, by unfold LIM; omega, by unfold LIM; omega⟩, g1, g2]
    simp only [Bool.and_self, if_true, g3]
  · rw [ends_iff]
    show tl _ <:+ tl _ ↔ _
    rw [t1, t2, str_dot_ne, tx hm.ne, tx hp.ne, List.map_cons, show lo1 46 = 46 from rfl, ← jn_map lo1 rfl, ← jn_map lo1 rfl, List.map_map, List.map_map]
    have dl : ∀ {l : List Str}, Lab l → ∀ x ∈ l.reverse.map (List.map lo1 ∘ tl), 46 ∉ x := fun {l} hl x hx hc => by
      obtain ⟨y, hy, rfl⟩ := List.mem_map.mp hx
      obtain ⟨d, hd, e⟩ := List.mem_map.mp hc
      exact letter_ne (lo1_letter' ((hl.good y (by simpa using hy)).let_ d hd)) e
    have ne : ∀ {l : List Str}, Lab l → l.reverse.map (List.map lo1 ∘ tl) ≠ [] := fun hl => by simp [hl.ne]
    rw [suffix_jn (ne hp) (dl hp) (ne hm) (dl hm)]
    show (∃ w, w ≠ [] ∧ m.reverse.map low = w ++ p.reverse.map low) ↔ _
    constructor
    · rintro ⟨w, hw, e⟩
      refine ⟨w.reverse, by simpa using hw, ?_⟩
      have := congrArg List.reverse e
      simpa using this
    · rintro ⟨w, hw, e⟩
      refine ⟨w.reverse, by simpa using hw, ?_⟩
      have := congrArg List.reverse e
      simpa using this
theorem map_inj_on {α β : Type} {f : α → β} : ∀ {a b : List α}, (∀ x ∈ a, ∀ y ∈ b, f x = f y → x = y) → a.map f = b.map f → a = b
  | [], [], _, _ => rfl
  | [], y :: b, _, h => by simp at h
  | x :: a, [], _, h => by simp at h
  | x :: a, y :: b, hf, h => by
    simp only [List.map_cons, List.cons.injEq] at h
    rw [hf x (by simp) y (by simp) h.1, map_inj_on (fun u hu v hv => hf u (by simp [hu]) v (by simp [hv])) h.2]
/-- which lists' labels go on behind q -/
noncomputable def goesOn (q m : List Str) : Bool := decide (m.take q.length = q) && decide (q.length < m.length)
theorem match_take {m l : List Str} (hm : Lab m) (hl : Lab l) (lm : weigh m ≤ 1000) (ll : weigh l ≤ 1000) (hinj : ∀ x ∈ m, ∀ y ∈ l, low x = low y → x = y) {i : Nat} (h0 : 0 < i) (hi : i ≤ l.length) :
    matchF (nm m) ("." ++ nm (l.take i)) = some (goesOn (l.take i) m) := by
  have lt : weigh (l.take i) ≤ 1000 := by
    have := weigh_le (a := l.take i) (b := l.drop i)
    rw [List.take_append_drop] at this; omega
  obtain ⟨b, hb, hiff⟩ := match_names hm (hl.take h0) lm lt
  rw [hb]
  congr 1
  have len : (l.take i).length = i := by rw [List.length_take]; omega
  rw [Bool.eq_iff_iff, hiff]
  unfold goesOn
  rw [len]
  simp only [Bool.and_eq_true, decide_eq_true_eq]
  constructor
  · rintro ⟨w, hw, e⟩
    have hlen := congrArg List.length e
    rw [List.length_append, List.length_map, List.length_map, len] at hlen
    have hw' := List.length_pos_iff.mpr hw
    refine ⟨?_, by omega⟩
    have e2 := congrArg (List.take i) e
    rw [← List.map_take, List.take_left' (by rw [List.length_map, len])] at e2
    exact map_inj_on (fun x hx y hy => hinj x (List.mem_of_mem_take hx) y (List.mem_of_mem_take hy)) e2
  · rintro ⟨e, hlt⟩
    refine ⟨(m.drop i).map low, by simp; omega, ?_⟩
    rw [← e, ← List.map_append, List.take_append_drop]
noncomputable def rung (l : List Str) : Str := "." ++ nm l
theorem tl_rung (l : List Str) : tl (rung l) = 46 :: tl (nm l) := str_dot_ne _
theorem tl_inj {x y : Str} (h : tl x = tl y) : x = y := toList_inj h
theorem snoc_of {α : Type} {l : List α} (h : l ≠ []) : ∃ i x, l = i ++ [x] := ⟨l.dropLast, l.getLast h, (List.dropLast_concat_getLast h).symm⟩
theorem good_dotless {x : Str} (h : Good x) : 46 ∉ tl x := fun hc => letter_ne (h.let_ 46 hc) rfl
theorem nm_inj {l m : List Str} (hl : Lab l) (hm : Lab m) (h : nm l = nm m) : l = m := by
  have e : tl (nm l) = tl (nm m) := by rw [h]
  rw [tx hl.ne, tx hm.ne] at e
  have ne : ∀ {l : List Str}, Lab l → l.reverse.map tl ≠ [] := fun hl => by simp [hl.ne]
  have dl : ∀ {l : List Str}, Lab l → ∀ x ∈ l.reverse.map tl, 46 ∉ x := fun {l} hl x hx => by
    obtain ⟨y, hy, rfl⟩ := List.mem_map.mp hx
    exact good_dotless (hl.good y (by simpa using hy))
  have := jn_inj (ne hl) (ne hm) (dl hl) (dl hm) e
  have := map_inj_on (fun x _ y _ q => tl_inj q) this
  simpa using this
theorem rung_inj {l m : List Str} (hl : Lab l) (hm : Lab m) (h : rung l = rung m) : l = m := by
  have e : tl (rung l) = tl (rung m) := by rw [h]
  rw [tl_rung, tl_rung] at e
  simp only [List.cons.injEq, true_and] at e
  exact nm_inj hl hm (tl_inj e)
theorem nm_ge : ∀ {l : List Str}, (∀ x ∈ l, Good x) → l.length ≤ (nm l).length := by
  intro l
  induction l using snocInd with
  | nil => intro _; exact Nat.zero_le _
  | snoc l x ih =>
    intro h
    have hx := (h x (by simp)).ne
    have hx' : 0 < (tl x).length := List.length_pos_iff.mpr hx
    rw [len_tl] at hx'
    by_cases hl : l = []
    · subst hl
      show 1 ≤ x.length
      omega
    · rw [nm_snoc hl, Str.length_append, Str.length_append]
      have := ih fun y hy => h y (by simp [hy])
      have e : (Str.ofString ".").length = 1 := by decide
      rw [List.length_append, List.length_singleton, e]; omega
theorem nm_head {l : List Str} (h : Lab l) : ∃ c r, tl (nm l) = c :: r ∧ letterC c := by
  obtain ⟨i, x, rfl⟩ := snoc_of h.ne
  have hx := h.good x (by simp)
  have ht : ∃ t, tl (nm (i ++ [x])) = tl x ++ t := by
    by_cases hi : i = []
    · subst hi; exact ⟨[], by simp [nm_one]⟩
    · rw [nm_snoc hi, tl_app, tl_app]; exact ⟨_, List.append_assoc _ _ _⟩
  obtain ⟨t, ht⟩ := ht
  cases hc : tl x with
  | nil => exact absurd hc hx.ne
  | cons c r => exact ⟨c, r ++ t, by rw [ht, hc]; rfl, hx.let_ c (by rw [hc]; simp)⟩
theorem nm_last : ∀ {l : List Str}, Lab l → (tl (nm l)).getLast? = some 108 := by
  intro l
  induction l using snocInd with
  | nil => intro h; exact absurd rfl h.ne
  | snoc l x ih =>
    intro h
    by_cases hl : l = []
    · subst hl
      have := h.first
      simp at this; subst this
      decide
    · rw [nm_snoc hl, tl_app, List.getLast?_append, ih (h.init hl)]; rfl
theorem hdn_name {l : List Str} (h : Lab l) (hw : weigh l ≤ 1000) : hdnF (nm l) = some true := by
  have h1 := nm_len l
  unfold hdnF
  rw [ipv4_plain (x := nm l) (by show (nm l).length ≤ LIM; unfold LIM; omega) fun c hc => letter_digit (nm_chars h c hc)]
  obtain ⟨c, r, ht, hc⟩ := nm_head h
  have hne : (nm l == ("" : Str)) = false := beq_eq_false_iff_ne.mpr fun e => by rw [e] at ht; cases ht
  have hd : dotEnds (nm l) = false := by
    unfold dotEnds
    have e1 : (nm l).cps.toList = c :: r := ht
    have e2 : (nm l).cps.toList.getLast? = some 108 := nm_last h
    rw [e2, e1, List.head?_cons]
    have : (c == 46) = false := beq_eq_false_iff_ne.mpr (letter_ne hc)
    show ((c == 46) || ((108 : Nat) == 46)) = false
    rw [this]; rfl
  rw [hne, hd]; rfl
theorem reach_name {l : List Str} {x : Str} (hl : l ≠ []) (h : Lab (l ++ [x])) (hw : weigh (l ++ [x]) ≤ 1000) : reachF (nm (l ++ [x])) = some (rung l) := by
  have hx := h.good x (by simp)
  have ht : (nm (l ++ [x])).cps.toList = tl x ++ 46 :: tl (nm l) := by
    show tl _ = _
    rw [nm_snoc hl, tl_app, tl_app, tl_dot]; simp
  have hf := find_dot_some ht (good_dotless hx)
  have hb : behind (nm (l ++ [x])) (Txt.find (nm (l ++ [x])) ".") = nm l := by
    refine tl_inj ?_
    unfold behind
    rw [hf, ht]
    show List.drop _ _ = _
    rw [show (((tl x).length : Int) + 1).toNat = (tl x).length + 1 by omega]
    simp
  have hlen := nm_len (l ++ [x])
  unfold reachF
  rw [if_pos (by omega), if_pos (by rw [hf]; omega), hdn_name h hw]
  simp only
  rw [hb]
  have hc : (decide (0 ≤ Txt.find (nm l) ".") || nm l == ("local" : Str)) = true := by
    obtain ⟨i, y, rfl⟩ := snoc_of hl
    by_cases hi : i = []
    · subst hi
      have := h.first
      simp at this; subst this
      simp [nm_one]
    · have : 46 ∈ (nm (i ++ [y])).cps.toList := by
        show 46 ∈ tl _
        rw [nm_snoc hi, tl_app, tl_app, tl_dot]; simp
      rw [decide_eq_true (find_dot_nonneg this)]; rfl
  rw [hc]; rfl
theorem reach_local : reachF "local" = some ("local" : Str) := by
  unfold reachF
  rw [if_pos (by decide), if_neg (by rw [find_dot_none (by decide)]; decide)]
theorem tail_rung (l : List Str) : tail1 (rung l) = nm l := by
  refine tl_inj ?_
  unfold tail1
  show List.drop 1 (tl (rung l)) = _
  rw [tl_rung]; rfl
theorem dotted_rung (l : List Str) : dotted (rung l) = true := by
  unfold dotted
  show ((tl (rung l)).head? == some 46) = true
  rw [tl_rung]; rfl
theorem mem_rungs {Q : List (List Str)} {l : List Str} (hQ : ∀ q ∈ Q, Lab q) (hl : Lab l) : rung l ∈ Q.map rung ↔ l ∈ Q := by
  constructor
  · intro h
    obtain ⟨q, hq, e⟩ := List.mem_map.mp h
    rw [← rung_inj (hQ q hq) hl e]; exact hq
  · exact fun h => List.mem_map.mpr ⟨l, h, rfl⟩
theorem weigh_pre {l : List Str} {x : Str} : weigh l ≤ weigh (l ++ [x]) := weigh_le
theorem rung_len (l : List Str) : (rung l).length ≤ weigh l + 1 := by
  have := nm_len l
  rw [← len_tl, tl_rung, List.length_cons, len_tl]; omega
noncomputable def closedAt (Q : List (List Str)) (l : List Str) : Prop := ∀ i, 0 < i → i ≤ l.length → l.take i ∈ Q → ∀ j, 0 < j → j ≤ i → l.take j ∈ Q
theorem climb_ok : ∀ {l : List Str}, Lab l → weigh l ≤ 900 → ∀ n, l.length ≤ n → ∀ Q : List (List Str), (∀ q ∈ Q, Lab q) → Q.length + l.length ≤ 1000 →
    ∃ Q' : List (List Str), climb n (Q.map rung) (rung l) = some (Q'.map rung) ∧ (∀ q ∈ Q', Lab q) ∧ Q'.length ≤ Q.length + l.length ∧ (closedAt Q l → ∀ q, q ∈ Q' ↔ q ∈ Q ∨ ∃ i, 0 < i ∧ i ≤ l.length ∧ q = l.take i) := by
  intro l
  induction l using snocInd with
  | nil => intro h; exact absurd rfl h.ne
  | snoc l x ih =>
    intro h hw n hn Q hQ hlen
    have hl1 : (l ++ [x]).length = l.length + 1 := by simp
    rw [hl1] at hn hlen
    obtain ⟨n, rfl⟩ : ∃ k, n = k + 1 := ⟨n - 1, by omega⟩
    have hr := rung_len (l ++ [x])
    have hcond : (rung (l ++ [x])).length ≤ 1000 ∧ (Q.map rung).length ≤ 1000 := ⟨by omega, by rw [List.length_map]; omega⟩
    rw [climb, if_pos hcond]
    have hstop : stopC (Q.map rung) (rung (l ++ [x])) = decide (l ++ [x] ∈ Q) := by
      unfold stopC
      rw [dotted_rung, Bool.not_true, Bool.or_false]
      exact decide_eq_decide.mpr (mem_rungs hQ h)
    rw [hstop, tail_rung]
    by_cases hin : l ++ [x] ∈ Q
    · rw [decide_eq_true hin, if_pos rfl]
      refine ⟨Q, rfl, hQ, by omega, fun hc q => ⟨.inl, ?_⟩⟩
      rintro (e | ⟨i, h0, hi, rfl⟩)
      · exact e
      · exact hc (l ++ [x]).length (by omega) (Nat.le_refl _) (by rw [List.take_length]; exact hin) i h0 hi
    · rw [decide_eq_false hin, if_neg (by simp)]
      by_cases hl : l = []
      · subst hl
        have hx := h.first
        simp at hx; subst hx
        have e1 : nm ([] ++ [("local" : Str)]) = "local" := rfl
        rw [e1, reach_local]
        simp only
        have hQ' : ∀ q ∈ Q ++ [[] ++ [("local" : Str)]], Lab q := fun q hq => by
          rcases List.mem_append.mp hq with e | e
          · exact hQ q e
          · simp at e; subst e; exact h
        refine ⟨Q ++ [[] ++ [("local" : Str)]], ?_, hQ', by simp, fun _ q => ?_⟩
        · rw [show Q.map rung ++ [rung ([] ++ [("local" : Str)])] = (Q ++ [[] ++ [("local" : Str)]]).map rung by simp]
          cases n with
          | zero => rfl
          | succ n =>
            have hs : stopC ((Q ++ [[] ++ [("local" : Str)]]).map rung) "local" = true := by
              unfold stopC
              have : dotted "local" = false := by decide
              rw [this]; simp
            rw [climb, if_pos ⟨by decide, by simp at hlen ⊢; omega⟩, if_pos hs]
        · rw [List.mem_append, List.mem_singleton]
          constructor
          · rintro (e | e)
            · exact .inl e
            · exact .inr ⟨1, by omega, by simp, by rw [e]; rfl⟩
          · rintro (e | ⟨i, h0, hi, rfl⟩)
            · exact .inl e
            · have : i = 1 := by simp at hi; omega
              subst this; exact .inr rfl
      · rw [reach_name hl h (by omega)]
        simp only
        have hQ' : ∀ q ∈ Q ++ [l ++ [x]], Lab q := fun q hq => by
          rcases List.mem_append.mp hq with e | e
          · exact hQ q e
          · simp at e; subst e; exact h
        obtain ⟨Q', a1, a2, a3, a4⟩ := ih (h.init hl) (Nat.le_trans weigh_pre hw) n (by omega) (Q ++ [l ++ [x]]) hQ' (by simp; omega)
        refine ⟨Q', ?_, a2, by simp at a3 ⊢; omega, fun hc q => ?_⟩
        · rw [show Q.map rung ++ [rung (l ++ [x])] = (Q ++ [l ++ [x]]).map rung by simp]
          exact a1
        · have hcl : closedAt (Q ++ [l ++ [x]]) l := by
            intro i h0 hi hm j hj0 hji
            have hti : ∀ k, k ≤ l.length → l.take k = (l ++ [x]).take k := fun k hk => by rw [List.take_append_of_le_length hk]
            rcases List.mem_append.mp hm with e | e
            · rw [hti i hi] at e
              refine List.mem_append.mpr (.inl ?_)
              rw [hti j (by omega)]
              exact hc i h0 (by rw [hl1]; omega) e j hj0 hji
            · simp only [List.mem_singleton] at e
              have := congrArg List.length e
              rw [List.length_take, hl1] at this
              omega
          rw [a4 hcl, List.mem_append, List.mem_singleton]
          constructor
          · rintro ((e | e) | ⟨i, h0, hi, rfl⟩)
            · exact .inl e
            · exact .inr ⟨(l ++ [x]).length, by rw [hl1]; omega, Nat.le_refl _, by rw [List.take_length]; exact e⟩
            · exact .inr ⟨i, h0, by rw [hl1]; omega, by rw [List.take_append_of_le_length hi]⟩
          · rintro (e | ⟨i, h0, hi, rfl⟩)
            · exact .inl (.inl e)
            · rw [hl1] at hi
              by_cases he : i = l.length + 1
              · refine .inl (.inr ?_)
                rw [List.take_of_length_le (by rw [hl1]; omega)]
              · exact .inr ⟨i, h0, by omega, by rw [List.take_append_of_le_length (by omega)]⟩
structure RowsL (L : List (List Str)) : Prop where
  lab : ∀ l ∈ L, Lab l
  two : ∀ l ∈ L, 2 ≤ l.length
  w : ∀ l ∈ L, weigh l ≤ 80
  len : L.length ≤ 10
  inj : ∀ l ∈ L, ∀ m ∈ L, ∀ x ∈ l, ∀ y ∈ m, low x = low y → x = y
noncomputable def closedQ (Q : List (List Str)) : Prop := ∀ q ∈ Q, ∀ j, 0 < j → j ≤ q.length → q.take j ∈ Q
theorem rungs_ok : ∀ {L : List (List Str)}, (∀ l ∈ L, Lab l) → (∀ l ∈ L, 2 ≤ l.length) → (∀ l ∈ L, weigh l ≤ 80) → ∀ {Q : List (List Str)}, (∀ q ∈ Q, Lab q) → closedQ Q → Q.length + 80 * L.length ≤ 900 →
    ∃ Q' : List (List Str), (L.map nm).foldl rungsStep (some (Q.map rung)) = some (Q'.map rung) ∧ (∀ q ∈ Q', Lab q) ∧ Q'.length ≤ Q.length + 80 * L.length ∧ ∀ q, q ∈ Q' ↔ q ∈ Q ∨ ∃ l ∈ L, ∃ i, 0 < i ∧ i < l.length ∧ q = l.take i
  | [], _, _, _, Q, hQ, _, _ => ⟨Q, rfl, hQ, by simp, fun q => by simp⟩
  | l :: L, h1, h2, h3, Q, hQ, hc, hlen => by
    have hl := h1 l (by simp)
    have hw := h3 l (by simp)
    have h2l := h2 l (by simp)
    have hle := len_le_weigh l
    rw [List.length_cons] at hlen
    obtain ⟨i, x, hix⟩ := snoc_of hl.ne
    have hil : i.length + 1 = l.length := by rw [hix]; simp
    have hi : i ≠ [] := fun e => by rw [e] at hil; simp at hil; omega
    have hti : ∀ k, k ≤ i.length → i.take k = l.take k := fun k hk => by rw [hix, List.take_append_of_le_length hk]
    have hlab : Lab i := (hix ▸ hl : Lab (i ++ [x])).init hi
    have hwi : weigh i ≤ 900 := by have := weigh_pre (l := i) (x := x); rw [← hix] at this; omega
    have hr : reachF (nm l) = some (rung i) := by rw [hix]; exact reach_name hi (hix ▸ hl) (by rw [← hix]; omega)
    have hge := nm_ge (l := l) hl.good
    have hnl := nm_len l
    obtain ⟨Q1, a1, a2, a3, a4⟩ := climb_ok hlab hwi (nm l).length (by omega) Q hQ (by omega)
    have hcl : closedAt Q i := fun k h0 hk hm j hj0 hji => by
      have := hc _ hm j hj0 (by rw [List.length_take]; omega)
      rwa [List.take_take, Nat.min_eq_left hji] at this
    have a5 := a4 hcl
    have hc1 : closedQ Q1 := fun q hq j h0 hj => by
      rw [a5] at hq ⊢
      rcases hq with e | ⟨k, hk0, hk, rfl⟩
      · exact .inl (hc q e j h0 hj)
      · rw [List.length_take] at hj
        exact .inr ⟨j, h0, by omega, by rw [List.take_take, Nat.min_eq_left (by omega)]⟩
    obtain ⟨Q', b1, b2, b3, b4⟩ := rungs_ok (L := L) (fun m hm => h1 m (by simp [hm])) (fun m hm => h2 m (by simp [hm])) (fun m hm => h3 m (by simp [hm])) a2 hc1 (by omega)
    refine ⟨Q', ?_, b2, by rw [List.length_cons]; omega, fun q => ?_⟩
    · rw [List.map_cons, List.foldl_cons]
      have : rungsStep (some (Q.map rung)) (nm l) = some (Q1.map rung) := by
        unfold rungsStep
        simp only
        rw [if_pos (by omega), hr]
        exact a1
      rw [this]; exact b1
    · rw [b4, a5]
      constructor
      · rintro ((e | ⟨k, h0, hk, rfl⟩) | ⟨m, hm, k, h0, hk, rfl⟩)
        · exact .inl e
        · exact .inr ⟨l, by simp, k, h0, by omega, hti k hk⟩
        · exact .inr ⟨m, by simp [hm], k, h0, hk, rfl⟩
      · rintro (e | ⟨m, hm, k, h0, hk, rfl⟩)
        · exact .inl (.inl e)
        · rcases List.mem_cons.mp hm with e | e
          · subst e; exact .inl (.inr ⟨k, h0, by omega, (hti k (by omega)).symm⟩)
          · exact .inr ⟨m, e, k, h0, hk, rfl⟩
theorem vec_goes {L : List (List Str)} {l : List Str} {k : Nat} (hk : k ≤ l.length) : vecL L l k = L.map (goesOn (l.take k)) := by
  unfold vecL
  refine List.map_congr_left fun o _ => ?_
  unfold goesOn
  rw [List.length_take, Nat.min_eq_left hk]
theorem mem_due {L : List (List Str)} {x : Str} : x ∈ dueL L ↔ ∃ l ∈ L, ∃ i, 0 < i ∧ i < l.length ∧ x = bitsS (vecL L l i) := by
  unfold dueL
  rw [mem_foldl_addS, List.mem_flatMap]
  simp only [List.not_mem_nil, false_or]
  constructor
  · rintro ⟨l, hl, hx⟩
    obtain ⟨j, hj, rfl⟩ := List.mem_map.mp hx
    rw [List.mem_range] at hj
    exact ⟨l, hl, j + 1, by omega, by omega, rfl⟩
  · rintro ⟨l, hl, i, h0, hi, rfl⟩
    exact ⟨l, hl, List.mem_map.mpr ⟨i - 1, List.mem_range.mpr (by omega), by rw [show i - 1 + 1 = i by omega]⟩⟩
theorem due_nodup (L : List (List Str)) : (dueL L).Nodup := nodup_foldl_addS List.nodup_nil
theorem sets_due {L : List (List Str)} (R : RowsL L) : setsFun [.list ((L.map nm).map .str)] = some (.list ((sortS (dueL L)).reverse.map .str)) := by
  obtain ⟨r1, r2, r3, r4, r5⟩ := R
  obtain ⟨Q, q1, q2, q3, q4⟩ := rungs_ok r1 r2 r3 (Q := []) (by simp) (fun q hq => by simp at hq) (by simp; omega)
  have hR : rungsF (L.map nm) = some (Q.map rung) := q1
  have hmt : ∀ m ∈ L, ∀ q ∈ Q, matchF (nm m) (rung q) = some (goesOn q m) := fun m hm q hq => by
    rcases (q4 q).mp hq with e | ⟨l, hl, i, h0, hi, rfl⟩
    · simp at e
    · exact match_take (r1 m hm) (r1 l hl) (by have := r3 m hm; omega) (by have := r3 l hl; omega) (fun x hx y hy => r5 m hm l hl x hx y hy) h0 (by omega)
  have hone : ∀ q ∈ Q, oneB (L.map nm) (rung q) = L.map (goesOn q) := fun q hq => by
    unfold oneB
    rw [List.map_map]
    refine List.map_congr_left fun m hm => ?_
    show (matchF (nm m) (rung q)).getD false = _
    rw [hmt m hm q hq]; rfl
  simp only [setsFun_mk, strsOf_map, hR, Option.bind_some]
  have hall : ((Q.map rung).all fun r => (L.map nm).all fun h => (matchF h r).isSome) = true := by
    rw [List.all_eq_true]
    intro r hr
    obtain ⟨q, hq, rfl⟩ := List.mem_map.mp hr
    rw [List.all_eq_true]
    intro h hh
    obtain ⟨m, hm, rfl⟩ := List.mem_map.mp hh
    rw [hmt m hm q hq]; rfl
  rw [if_pos ⟨by rw [List.length_map]; simp at q3; omega, by rw [List.length_map]; omega, hall⟩]
  have key : orderedS ((onesF (L.map nm) (Q.map rung)).foldl addS []) = (sortS (dueL L)).reverse := by
    refine sort_due_eq (nodup_foldl_addS List.nodup_nil) (due_nodup L) fun x => ?_
    rw [mem_foldl_addS, mem_due]
    unfold onesF
    simp only [List.not_mem_nil, false_or, List.mem_map]
    constructor
    · rintro ⟨r, ⟨q, hq, rfl⟩, rfl⟩
      rw [hone q hq]
      rcases (q4 q).mp hq with e | ⟨l, hl, i, h0, hi, rfl⟩
      · simp at e
      · exact ⟨l, hl, i, h0, hi, by rw [vec_goes (by omega)]⟩
    · rintro ⟨l, hl, i, h0, hi, rfl⟩
      have hq : l.take i ∈ Q := (q4 _).mpr (.inr ⟨l, hl, i, h0, hi, rfl⟩)
      exact ⟨rung (l.take i), ⟨_, hq, rfl⟩, by rw [hone _ hq, vec_goes (by omega)]⟩
  rw [key]
structure Bits (x : Str) : Prop where
  len : (tl x).length = 4
  bin : ∀ c ∈ tl x, c = 48 ∨ c = 49
theorem bitAt_iff {x : Str} {k : Nat} : bitAt x k = true ↔ (tl x)[k]? = some 49 := by
  unfold bitAt; rw [beq_iff_eq]; rfl
theorem Bits.at {x : Str} (h : Bits x) {k : Nat} (hk : k < 4) : (tl x)[k]? = some (if bitAt x k = true then 49 else 48) := by
  have hk' : k < (tl x).length := by rw [h.len]; exact hk
  have e := List.getElem?_eq_getElem hk'
  rcases h.bin _ (List.getElem_mem hk') with q | q
  · rw [q] at e
    have : ¬ bitAt x k = true := fun hb => by rw [bitAt_iff, e] at hb; cases hb
    rw [if_neg this]; exact e
  · rw [q] at e
    rw [if_pos (bitAt_iff.mpr e)]; exact e
theorem bits_of {v : List Bool} (h : v.length = 4) : Bits (bitsS v) := by
  refine ⟨?_, fun c hc => ?_⟩
  · show (List.map _ v).toArray.toList.length = 4
    simp [h]
  · have hc' : c ∈ v.map fun b => if b = true then 49 else 48 := hc
    obtain ⟨b, _, rfl⟩ := List.mem_map.mp hc'
    cases b <;> simp
theorem bitAt_bits {v : List Bool} {k : Nat} : bitAt (bitsS v) k = true ↔ v[k]? = some true := by
  rw [bitAt_iff]
  show (v.map fun b => if b = true then 49 else 48)[k]? = some 49 ↔ _
  rw [List.getElem?_map]
  cases v[k]? with
  | none => simp
  | some b => cases b <;> simp
theorem Bits.ext {x y : Str} (hx : Bits x) (hy : Bits y) (h : ∀ k, k < 4 → (bitAt x k = true ↔ bitAt y k = true)) : x = y := by
  refine tl_inj (List.ext_getElem? fun k => ?_)
  by_cases hk : k < 4
  · rw [hx.at hk, hy.at hk]
    have := h k hk
    cases hb : bitAt x k <;> cases hb' : bitAt y k <;> simp [hb, hb'] at this ⊢
  · rw [List.getElem?_eq_none (by rw [hx.len]; omega), List.getElem?_eq_none (by rw [hy.len]; omega)]
theorem list_le : ∀ {l m : List Nat}, l.length = m.length → (∀ (i a b : Nat), l[i]? = some a → m[i]? = some b → a ≤ b) → l = m ∨ l < m
  | [], [], _, _ => .inl rfl
  | [], _ :: _, h, _ => by simp at h
  | _ :: _, [], h, _ => by simp at h
  | a :: l, b :: m, hl, h => by
    have hab := h 0 a b rfl rfl
    by_cases e : a = b
    · subst e
      rcases list_le (l := l) (m := m) (by simpa using hl) (fun i x y hx hy => h (i + 1) x y (by simpa using hx) (by simpa using hy)) with q | q
      · exact .inl (by rw [q])
      · exact .inr (List.cons_lt_cons_iff.mpr (.inr ⟨rfl, q⟩))
    · exact .inr (List.cons_lt_cons_iff.mpr (.inl (by omega)))
/-- a part of a set is written smaller -/
theorem Bits.le {x y : Str} (hx : Bits x) (hy : Bits y) (h : ∀ k, k < 4 → bitAt x k = true → bitAt y k = true) : x = y ∨ ltS x y := by
  rcases list_le (l := tl x) (m := tl y) (by rw [hx.len, hy.len]) (fun i a b ha hb => by
    have hi : i < 4 := by rw [← hx.len]; exact (List.getElem?_eq_some_iff.mp ha).1
    rw [hx.at hi] at ha
    rw [hy.at hi] at hb
    have := h i hi
    cases hxb : bitAt x i <;> cases hyb : bitAt y i <;> simp [hxb, hyb] at ha hb this <;> omega) with q | q
  · exact .inl (tl_inj q)
  · exact .inr q
noncomputable def Cr (x y : Str) : Prop := (∃ k, k < 4 ∧ bitAt x k = true ∧ bitAt y k = true) ∧ (∃ k, k < 4 ∧ bitAt x k = true ∧ ¬ bitAt y k = true) ∧ (∃ k, k < 4 ∧ ¬ bitAt x k = true ∧ bitAt y k = true)
theorem Cr.symm {x y : Str} (h : Cr x y) : Cr y x := by
  obtain ⟨⟨k, a, b, c⟩, ⟨k2, a2, b2, c2⟩, ⟨k3, a3, b3, c3⟩⟩ := h
  exact ⟨⟨k, a, c, b⟩, ⟨k3, a3, c3, b3⟩, ⟨k2, a2, c2, b2⟩⟩
theorem Cr.irrefl {x : Str} (h : Cr x x) : False := by
  obtain ⟨_, ⟨k2, a2, b2, c2⟩, _⟩ := h
  exact c2 b2
theorem pair_mem {x y : Str} (hx : Bits x) (hy : Bits y) (a b : Nat) : (⟨#[a, b]⟩ : Str) ∈ pairS x y ↔ ∃ k, k < 4 ∧ (if bitAt x k = true then 49 else 48) = a ∧ (if bitAt y k = true then 49 else 48) = b := by
  unfold pairS
  have hs : x.cps.size = 4 := by rw [← hx.len]; exact (len_tl x).symm
  rw [hs]
  have at_ : ∀ {x : Str}, Bits x → ∀ {k}, k < 4 → x.cps.getD k 0 = if bitAt x k = true then 49 else 48 := fun {x} h {k} hk => by
    have e := h.at hk
    have e2 : x.cps[k]? = some (if bitAt x k = true then 49 else 48) := by
      have : (tl x)[k]? = x.cps[k]? := by unfold tl; simp
      rw [← this]; exact e
    rw [Array.getD_eq_getD_getElem?, e2]; rfl
  rw [List.mem_map]
  constructor
  · rintro ⟨k, hk, e⟩
    rw [List.mem_range] at hk
    rw [at_ hx hk, at_ hy hk] at e
    have e' : [(if bitAt x k = true then 49 else 48), (if bitAt y k = true then 49 else 48)] = [a, b] := congrArg (fun s : Str => s.cps.toList) e
    simp only [List.cons.injEq, and_true] at e'
    exact ⟨k, hk, e'.1, e'.2⟩
  · rintro ⟨k, hk, rfl, rfl⟩
    exact ⟨k, List.mem_range.mpr hk, by rw [at_ hx hk, at_ hy hk]⟩
theorem crossP_iff {x y : Str} (hx : Bits x) (hy : Bits y) : crossP x y = true ↔ Cr x y := by
  unfold crossP Cr
  have e11 : ("11" : Str) = ⟨#[49, 49]⟩ := by decide
  have e10 : ("10" : Str) = ⟨#[49, 48]⟩ := by decide
  have e01 : ("01" : Str) = ⟨#[48, 49]⟩ := by decide
  have one : ∀ {b : Bool}, (if b = true then 49 else 48) = 49 ↔ b = true := fun {b} => by cases b <;> simp
  have zero : ∀ {b : Bool}, (if b = true then 49 else 48) = 48 ↔ ¬ b = true := fun {b} => by cases b <;> simp
  simp only [Bool.and_eq_true, decide_eq_true_eq, e11, e10, e01, pair_mem hx hy, one, zero]
  exact and_assoc
theorem crossS_iff {ls : List Str} (h : ∀ x ∈ ls, Bits x) : crossS ls = true ↔ ∃ x ∈ ls, ∃ y ∈ ls, Cr x y := by
  unfold crossS
  rw [List.any_eq_true]
  have gd : ∀ {j}, j < ls.length → ls.getD j "" ∈ ls ∧ ls[j]? = some (ls.getD j "") := fun {j} hj => by
    have : ls.getD j "" = ls[j] := by simp [List.getD, hj]
    rw [this]; exact ⟨List.getElem_mem hj, List.getElem?_eq_getElem hj⟩
  constructor
  · rintro ⟨j, hj, h2⟩
    rw [List.mem_range] at hj
    obtain ⟨o, ho, hc⟩ := List.any_eq_true.mp h2
    have ho' := List.mem_of_mem_take ho
    exact ⟨_, (gd hj).1, o, ho', (crossP_iff (h _ (gd hj).1) (h _ ho')).mp hc⟩
  · rintro ⟨x, hx, y, hy, hc⟩
    obtain ⟨i, hi⟩ := List.getElem?_of_mem hx
    obtain ⟨j, hj⟩ := List.getElem?_of_mem hy
    have hil := (List.getElem?_eq_some_iff.mp hi).1
    have hjl := (List.getElem?_eq_some_iff.mp hj).1
    have ei : ls.getD i "" = x := by rw [List.getD_eq_getElem?_getD, hi]; rfl
    have ej : ls.getD j "" = y := by rw [List.getD_eq_getElem?_getD, hj]; rfl
    rcases Nat.lt_trichotomy i j with q | q | q
    · refine ⟨j, List.mem_range.mpr hjl, List.any_eq_true.mpr ⟨x, ?_, ?_⟩⟩
      · exact List.mem_of_getElem? (i := i) (by rw [List.getElem?_take_of_lt q]; exact hi)
      · rw [ej]; exact (crossP_iff (h y hy) (h x hx)).mpr hc.symm
    · subst q; rw [hi] at hj; cases hj; exact hc.irrefl.elim
    · refine ⟨i, List.mem_range.mpr hil, List.any_eq_true.mpr ⟨y, ?_, ?_⟩⟩
      · exact List.mem_of_getElem? (i := j) (by rw [List.getElem?_take_of_lt q]; exact hj)
      · rw [ei]; exact (crossP_iff (h x hx) (h y hy)).mpr hc
theorem vec_bit {L : List (List Str)} {l : List Str} {i k : Nat} : bitAt (bitsS (vecL L l i)) k = true ↔ ∃ o, L[k]? = some o ∧ o.take i = l.take i ∧ i < o.length := by
  rw [bitAt_bits]
  unfold vecL
  rw [List.getElem?_map]
  cases L[k]? with
  | none => simp
  | some o => simp
theorem vec_nest {L : List (List Str)} {l m : List Str} {i j : Nat} (h : i ≤ j) : ¬ Cr (bitsS (vecL L l i)) (bitsS (vecL L m j)) := by
  rintro ⟨⟨k, _, a, b⟩, _, ⟨k3, _, c, d⟩⟩
  rw [vec_bit] at a b c d
  obtain ⟨o, ho, a1, a2⟩ := a
  obtain ⟨o', ho', b1, b2⟩ := b
  rw [ho] at ho'; cases ho'
  obtain ⟨p, hp, d1, d2⟩ := d
  refine c ⟨p, hp, ?_, by omega⟩
  have t : ∀ q : List Str, (q.take j).take i = q.take i := fun q => by rw [List.take_take, Nat.min_eq_left h]
  rw [← t p, d1, ← b1, t, a1]
theorem due_laminar {L : List (List Str)} {x y : Str} (hx : x ∈ dueL L) (hy : y ∈ dueL L) : ¬ Cr x y := by
  obtain ⟨l, _, i, _, _, rfl⟩ := mem_due.mp hx
  obtain ⟨m, _, j, _, _, rfl⟩ := mem_due.mp hy
  rcases Nat.le_total i j with h | h
  · exact vec_nest h
  · exact fun hc => vec_nest h hc.symm
theorem due_bits {L : List (List Str)} (h : L.length = 4) {x : Str} (hx : x ∈ dueL L) : Bits x ∧ ∃ k, k < 4 ∧ bitAt x k = true := by
  obtain ⟨l, hl, i, h0, hi, rfl⟩ := mem_due.mp hx
  refine ⟨bits_of (by unfold vecL; rw [List.length_map, h]), ?_⟩
  obtain ⟨k, hk⟩ := List.getElem?_of_mem hl
  exact ⟨k, by rw [← h]; exact (List.getElem?_eq_some_iff.mp hk).1, vec_bit.mpr ⟨l, hk, rfl, hi⟩⟩
noncomputable def fullS : Str := bitsS [true, true, true, true]
theorem full_bits : Bits fullS := bits_of rfl
theorem lt4 {k : Nat} (h : k < 4) : k = 0 ∨ k = 1 ∨ k = 2 ∨ k = 3 := by omega
theorem full_at {k : Nat} (h : k < 4) : bitAt fullS k = true := by
  unfold fullS
  rw [bitAt_bits]
  rcases lt4 h with rfl | rfl | rfl | rfl <;> rfl
theorem head_take {l : List Str} (h : l.head? = some ("local" : Str)) : l.take 1 = [("local" : Str)] := by
  cases l with
  | nil => cases h
  | cons a r => simp at h; subst h; rfl
theorem due_full {L : List (List Str)} (h : L.length = 4) (h1 : ∀ l ∈ L, l.head? = some ("local" : Str)) (h2 : ∀ l ∈ L, 2 ≤ l.length) : fullS ∈ dueL L := by
  have hp : 0 < L.length := by omega
  have hl := List.getElem_mem hp
  refine mem_due.mpr ⟨L[0], hl, 1, by omega, by have := h2 _ hl; omega, ?_⟩
  refine full_bits.ext (bits_of (by unfold vecL; rw [List.length_map, h])) fun k hk => ?_
  simp only [full_at hk, true_iff]
  have hk' : k < L.length := by omega
  have hm := List.getElem_mem hk'
  refine vec_bit.mpr ⟨L[k], List.getElem?_eq_getElem hk', ?_, by have := h2 _ hm; omega⟩
  rw [head_take (h1 _ hm), head_take (h1 _ hl)]
theorem filter_upto {P : Nat → Bool} : ∀ (n : Nat) {i j : Nat}, ((List.range n).filter P)[i]? = some j → ((List.range n).filter P).take (i + 1) = (List.range (j + 1)).filter P
  | 0, i, j, h => by simp at h
  | n + 1, i, j, h => by
    rw [List.range_succ, List.filter_append] at h ⊢
    by_cases hi : i < ((List.range n).filter P).length
    · rw [List.getElem?_append_left hi] at h
      rw [List.take_append_of_le_length (by omega)]
      exact filter_upto n h
    · rw [List.getElem?_append_right (by omega)] at h
      cases hp : P n with
      | false => simp [hp] at h
      | true =>
        have e : List.filter P [n] = [n] := by simp [hp]
        rw [e] at h ⊢
        have hi0 : i - ((List.range n).filter P).length = 0 := by
          have := (List.getElem?_eq_some_iff.mp h).1
          simp at this; omega
        rw [hi0] at h
        simp at h
        subst h
        rw [List.take_of_length_le (by rw [List.length_append, List.length_singleton]; omega), List.range_succ, List.filter_append, e]
theorem filter_class {P Q : Nat → Bool} {n i j : Nat} (hj : ((List.range n).filter P)[i]? = some j) :
    (i + 1 ≤ ((List.range n).filter Q).length ∧ ((List.range n).filter Q).take (i + 1) = ((List.range n).filter P).take (i + 1)) ↔ ∀ j', j' ≤ j → (Q j' = true ↔ P j' = true) := by
  have hP := filter_upto n hj
  have hin := List.mem_of_getElem? hj
  rw [List.mem_filter, List.mem_range] at hin
  obtain ⟨hjn, hPj⟩ := hin
  constructor
  · rintro ⟨h1, h2⟩
    obtain ⟨j2, hj2⟩ : ∃ j2, ((List.range n).filter Q)[i]? = some j2 := ⟨_, List.getElem?_eq_getElem (by omega)⟩
    have e : j2 = j := by
      have a1 : (((List.range n).filter Q).take (i + 1))[i]? = some j2 := by rw [List.getElem?_take_of_lt (by omega)]; exact hj2
      have a2 : (((List.range n).filter P).take (i + 1))[i]? = some j := by rw [List.getElem?_take_of_lt (by omega)]; exact hj
      rw [h2, a2] at a1; cases a1; rfl
    subst e
    have hQ := filter_upto n hj2
    intro j' hj'
    have hm : j' ∈ List.range (j2 + 1) := List.mem_range.mpr (by omega)
    have b1 : j' ∈ (List.range (j2 + 1)).filter Q ↔ Q j' = true := by rw [List.mem_filter]; exact and_iff_right hm
    have b2 : j' ∈ (List.range (j2 + 1)).filter P ↔ P j' = true := by rw [List.mem_filter]; exact and_iff_right hm
    rw [← b1, ← b2, ← hQ, ← hP, h2]
  · intro h
    have e : (List.range (j + 1)).filter Q = (List.range (j + 1)).filter P := by
      refine List.filter_congr fun x hx => ?_
      rw [List.mem_range] at hx
      have := h x (by omega)
      cases hq : Q x <;> cases hp : P x <;> simp [hq, hp] at this ⊢
    have hsplit : (List.range n).filter Q = (List.range (j + 1)).filter Q ++ ((List.range' (j + 1) (n - (j + 1))).filter Q) := by
      rw [← List.filter_append, List.range_eq_range', List.range_eq_range']
      congr 1
      have : List.range' 0 n = List.range' 0 (j + 1) ++ List.range' (0 + 1 * (j + 1)) (n - (j + 1)) := by
        rw [List.range'_append]; congr 1; omega
      rw [this]; congr 2; omega
    have hlen : ((List.range (j + 1)).filter P).length = i + 1 := by
      rw [← hP, List.length_take]
      have := (List.getElem?_eq_some_iff.mp hj).1
      omega
    rw [hsplit, e]
    refine ⟨by rw [List.length_append, hlen]; omega, ?_⟩
    rw [List.take_left' hlen, hP]
noncomputable def idxF (F : List Str) (k : Nat) : List Nat := (List.range F.length).filter fun j => bitAt (F.getD j "") k
theorem letters_idx (F : List Str) (k : Nat) : lettersOf F k = (idxF F k).map letterS := by
  unfold lettersOf idxF
  generalize List.range F.length = R
  induction R with
  | nil => rfl
  | cons j r ih =>
    rw [List.flatMap_cons, ih, List.filter_cons]
    cases bitAt (F.getD j "") k <;> rfl
theorem dir_idx (F : List Str) (k : Nat) : dirLabels F k = (("local" : Str) :: (idxF F k).map letterS) ++ [ownS k] := by
  unfold dirLabels; rw [letters_idx]
theorem dir_len (F : List Str) (k : Nat) : (dirLabels F k).length = (idxF F k).length + 2 := by rw [dir_idx]; simp
theorem letterS_inj {i j : Nat} (h : letterS i = letterS j) : i = j := by
  have : [97 + i] = [97 + j] := congrArg (fun s : Str => s.cps.toList) h
  simp at this; omega
theorem dir_take {F : List Str} {k i : Nat} (h : i ≤ (idxF F k).length) : (dirLabels F k).take (i + 1) = ("local" : Str) :: ((idxF F k).take i).map letterS := by
  rw [dir_idx, List.take_append_of_le_length (by simp; omega), List.take_succ_cons, List.map_take]
theorem dir_class {F : List Str} {k k' i : Nat} (h : i ≤ (idxF F k).length) : ((dirLabels F k').take (i + 1) = (dirLabels F k).take (i + 1) ∧ i + 1 < (dirLabels F k').length) ↔ (i ≤ (idxF F k').length ∧ (idxF F k').take i = (idxF F k).take i) := by
  rw [dir_len]
  constructor
  · rintro ⟨h1, h2⟩
    have h3 : i ≤ (idxF F k').length := by omega
    rw [dir_take h, dir_take h3] at h1
    simp only [List.cons.injEq, true_and] at h1
    exact ⟨h3, map_inj_on (fun x _ y _ q => letterS_inj q) h1⟩
  · rintro ⟨h3, h1⟩
    rw [dir_take h, dir_take h3, h1]
    exact ⟨rfl, by omega⟩
noncomputable def dirRows (F : List Str) : List (List Str) := (List.range 4).map (dirLabels F)
theorem dirRows_len (F : List Str) : (dirRows F).length = 4 := by simp [dirRows]
theorem dirRows_at (F : List Str) {k : Nat} (h : k < 4) : (dirRows F)[k]? = some (dirLabels F k) := by
  unfold dirRows
  rw [List.getElem?_map, List.getElem?_range h]; rfl
/-- a family of sets, in falling order, of four sites, with the set of all -/
structure Fam (F : List Str) : Prop where
  desc_ : desc F
  bits : ∀ x ∈ F, Bits x
  some_ : ∀ x ∈ F, ∃ k, k < 4 ∧ bitAt x k = true
  full : fullS ∈ F
theorem dir_vec {F : List Str} {k i k' : Nat} (h : i ≤ (idxF F k).length) (hk : k' < 4) : bitAt (bitsS (vecL (dirRows F) (dirLabels F k) (i + 1))) k' = true ↔ (i ≤ (idxF F k').length ∧ (idxF F k').take i = (idxF F k).take i) := by
  rw [vec_bit, dirRows_at F hk, ← dir_class h]
  constructor
  · rintro ⟨o, ho, h1⟩
    cases ho; exact h1
  · intro h1
    exact ⟨_, rfl, h1⟩
theorem dir_zero {F : List Str} (k : Nat) : bitsS (vecL (dirRows F) (dirLabels F k) (0 + 1)) = fullS := by
  refine (bits_of (by unfold vecL; rw [List.length_map, dirRows_len])).ext full_bits fun k' hk' => ?_
  simp only [full_at hk', iff_true]
  rw [dir_vec (Nat.zero_le _) hk']
  exact ⟨Nat.zero_le _, by rw [List.take_zero, List.take_zero]⟩
theorem fam_lt {F : List Str} (h : desc F) {i j : Nat} {x y : Str} (hij : i < j) (hx : F[i]? = some x) (hy : F[j]? = some y) : ltS y x := by
  obtain ⟨a, b⟩ := List.getElem?_eq_some_iff.mp hx
  obtain ⟨c, d⟩ := List.getElem?_eq_some_iff.mp hy
  have := List.pairwise_iff_getElem.mp h i j a c hij
  rwa [b, d] at this
theorem dir_set {F : List Str} (hF : Fam F) (hc : ∀ x ∈ F, ∀ y ∈ F, ¬ Cr x y) {k p j : Nat} (hk : k < 4) (hj : (idxF F k)[p]? = some j) : bitsS (vecL (dirRows F) (dirLabels F k) (p + 1 + 1)) = F.getD j "" := by
  have hin := List.mem_of_getElem? hj
  unfold idxF at hin
  rw [List.mem_filter, List.mem_range] at hin
  obtain ⟨hjn, hkj⟩ := hin
  have at_ : ∀ {j}, j < F.length → F[j]? = some (F.getD j "") ∧ F.getD j "" ∈ F := fun {j} h => by
    have : F.getD j "" = F[j] := by simp [List.getD, h]
    rw [this]; exact ⟨List.getElem?_eq_getElem h, List.getElem_mem h⟩
  have hp : p + 1 ≤ (idxF F k).length := (List.getElem?_eq_some_iff.mp hj).1
  refine (bits_of (by unfold vecL; rw [List.length_map, dirRows_len])).ext (hF.bits _ (at_ hjn).2) fun k' hk' => ?_
  rw [dir_vec hp hk']
  have := filter_class (P := fun j => bitAt (F.getD j "") k) (Q := fun j => bitAt (F.getD j "") k') (n := F.length) hj
  unfold idxF
  rw [this]
  constructor
  · intro h
    exact (h j (Nat.le_refl _)).mpr hkj
  · intro hk'j j' hj'
    by_cases e : j' = j
    · subst e; exact ⟨fun _ => hkj, fun _ => hk'j⟩
    have hlt : j' < j := by omega
    have a1 := at_ hjn
    have a2 := at_ (show j' < F.length by omega)
    have hgt := fam_lt hF.desc_ hlt a2.1 a1.1
    -- when the earlier set meets the later one it holds it whole
    have meet : (∃ q, q < 4 ∧ bitAt (F.getD j' "") q = true ∧ bitAt (F.getD j "") q = true) → ∀ q, q < 4 → bitAt (F.getD j "") q = true → bitAt (F.getD j' "") q = true := by
      intro hm q hq hqj
      refine Classical.byContradiction fun hno => ?_
      refine hc _ a2.2 _ a1.2 ⟨hm, ?_, ⟨q, hq, hno, hqj⟩⟩
      refine Classical.byContradiction fun hno2 => ?_
      have hsub : ∀ q, q < 4 → bitAt (F.getD j' "") q = true → bitAt (F.getD j "") q = true := fun q hq h1 => Classical.byContradiction fun h2 => hno2 ⟨q, hq, h1, h2⟩
      rcases (hF.bits _ a2.2).le (hF.bits _ a1.2) hsub with e | e
      · rw [e] at hgt; exact ltS_irrefl _ hgt
      · exact ltS_asymm e hgt
    constructor
    · intro h1
      exact meet ⟨k', hk', h1, hk'j⟩ k hk hkj
    · intro h1
      exact meet ⟨k, hk, h1, hkj⟩ k' hk' hk'j
theorem dir_due {F : List Str} (hF : Fam F) (hc : ∀ x ∈ F, ∀ y ∈ F, ¬ Cr x y) (x : Str) : x ∈ dueL (dirRows F) ↔ x ∈ F := by
  rw [mem_due]
  have mem : ∀ {l}, l ∈ dirRows F ↔ ∃ k, k < 4 ∧ l = dirLabels F k := fun {l} => by
    unfold dirRows
    rw [List.mem_map]
    constructor
    · rintro ⟨k, hk, rfl⟩; exact ⟨k, List.mem_range.mp hk, rfl⟩
    · rintro ⟨k, hk, rfl⟩; exact ⟨k, List.mem_range.mpr hk, rfl⟩
  constructor
  · rintro ⟨l, hl, i, h0, hi, rfl⟩
    obtain ⟨k, hk, rfl⟩ := mem.mp hl
    rw [dir_len] at hi
    match i, h0 with
    | 1, _ => rw [show (1 : Nat) = 0 + 1 from rfl, dir_zero]; exact hF.full
    | p + 2, _ =>
      obtain ⟨j, hj⟩ : ∃ j, (idxF F k)[p]? = some j := ⟨_, List.getElem?_eq_getElem (by omega)⟩
      rw [show p + 2 = p + 1 + 1 from rfl, dir_set hF hc hk hj]
      have hin := List.mem_of_getElem? hj
      unfold idxF at hin
      rw [List.mem_filter, List.mem_range] at hin
      have : F.getD j "" = F[j]'hin.1 := by simp [List.getD, hin.1]
      rw [this]; exact List.getElem_mem hin.1
  · intro hx
    obtain ⟨k, hk, hb⟩ := hF.some_ x hx
    obtain ⟨j, hj⟩ := List.getElem?_of_mem hx
    have hjl := (List.getElem?_eq_some_iff.mp hj).1
    have hd : F.getD j "" = x := by rw [List.getD_eq_getElem?_getD, hj]; rfl
    have hm : j ∈ idxF F k := by
      unfold idxF
      rw [List.mem_filter, List.mem_range]
      exact ⟨hjl, by rw [hd]; exact hb⟩
    obtain ⟨p, hp⟩ := List.getElem?_of_mem hm
    have hpl := (List.getElem?_eq_some_iff.mp hp).1
    exact ⟨dirLabels F k, mem.mpr ⟨k, hk, rfl⟩, p + 1 + 1, by omega, by rw [dir_len]; omega, by rw [dir_set hF hc hk hp, hd]⟩
noncomputable def upA (x : Str) : Str := ⟨x.cps.map up1⟩
noncomputable def loA (x : Str) : Str := ⟨x.cps.map lo1⟩
noncomputable def asc (x : Str) : Bool := x.cps.toList.all (· < 128)
theorem asc_iff {x : Str} : asc x = true ↔ ∀ c ∈ x.cps.toList, c < 128 := by
  unfold asc; rw [List.all_eq_true]; simp
noncomputable def udmA (A B : Str) : Option Bool :=
  if asc A = true ∧ asc B = true ∧ A.length ≤ 1000 ∧ B.length ≤ 1000 then
    match libF (loA A), libF (loA B) with
    | some a, some b => some (if a && b then (if Txt.startswith (loA B) "." then Txt.endswith (loA A) (loA B) else loA A == loA B) else loA A == loA B)
    | _, _ => none
  else none
theorem udmA_eq {A B : Str} {b : Bool} (h : udmA A B = some b) : udmF A B = some b := by
  unfold udmA at h
  split at h
  · rename_i hc
    obtain ⟨h1, h2, h3, h4⟩ := hc
    rw [asc_iff] at h1 h2
    have e1 : Txt.lower A = loA A := lower_ascii h1
    have e2 : Txt.lower B = loA B := lower_ascii h2
    have l1 : (Txt.lower A).length = A.length := lo_len h1
    have l2 : (Txt.lower B).length = B.length := lo_len h2
    unfold udmF
    rw [if_pos ⟨by omega, by omega, by unfold LIM; omega, by unfold LIM; omega⟩, e1, e2]
    exact h
  · cases h
noncomputable def sokB (l : List Str) (host : Str) : Bool :=
  asc host && decide (l.length ≤ 100 ∧ host.length ≤ 1000) && decide (((restOf l).map (·.length)).sum ≤ 1000) && decide ((joinD ((restOf l).drop 1)).length ≤ 2000) &&
  decide (collF (upA host) host = -1) && decide (udmA host (upA host) = some true) && decide (udmA host ("." ++ host) = some false) && decide (udmA ("w." ++ host) (upA host) = some false) &&
  decide (udmA (host ++ ".7") ".local.7" = some false) && decide (udmA (host ++ ".7") (upA host ++ ".7") = some true) &&
  decide (reachF (joinD (restOf l)) = some (if 2 < (restOf l).length ∨ (restOf l).drop 1 = [("local" : Str)] then "." ++ joinD ((restOf l).drop 1) else joinD (restOf l))) &&
  decide (reachF (host ++ ".7") = some (host ++ ".7")) && decide (reachF (host ++ ".") = some (host ++ ".")) && decide (reachF ("w.7." ++ host) = some (".7." ++ host))
theorem empty_left (x : Str) : ("" : Str) ++ x = x := tl_inj (by rw [tl_app]; rfl)
theorem empty_right (x : Str) : x ++ ("" : Str) = x := tl_inj (by rw [tl_app]; exact List.append_nil _)
theorem sok_of {l : List Str} {host : Str} (h : sokB l host = true) : SOK l host := by
  unfold sokB at h
  simp only [Bool.and_eq_true, decide_eq_true_eq] at h
  obtain ⟨⟨⟨⟨⟨⟨⟨⟨⟨⟨⟨⟨⟨a, b⟩, c⟩, d⟩, e⟩, f⟩, g⟩, i⟩, j⟩, k⟩, m⟩, n⟩, o⟩, p⟩ := h
  have hu : Txt.upper host = upA host := upper_ascii (asc_iff.mp a)
  have hl : (Txt.upper host).length = host.length := up_len (asc_iff.mp a)
  have z : (("" : Str)).length ≤ 400000 := by decide
  refine ⟨⟨b.1, b.2, by omega⟩, c, d, by rw [hu]; exact e, by rw [hu]; exact udmA_eq f, udmA_eq g, by rw [hu]; exact udmA_eq i, udmA_eq j, by rw [hu]; exact udmA_eq k, m, n, o, p, ?_, ?_⟩
  · show (if ("" : Str).length ≤ 400000 ∧ host.length ≤ 400000 then some (PyData.str (("" : Str) ++ "." ++ host)) else none) = _
    rw [if_pos ⟨z, by omega⟩, empty_left]
  · show (if host.length ≤ 400000 ∧ ("" : Str).length ≤ 400000 then some (PyData.str (host ++ "." ++ "")) else none) = _
    rw [if_pos ⟨by omega, z⟩, empty_right]
theorem sok_0 : sokB (rowLabels 0 0) (nm (rowLabels 0 0)) = true := by decide +kernel
theorem sok_1 : sokB (rowLabels 1 0) (nm (rowLabels 1 0)) = true := by decide +kernel
theorem sok_2 : sokB (rowLabels 2 0) (nm (rowLabels 2 0)) = true := by decide +kernel
theorem sok_4 : sokB (rowLabels 4 0) (nm (rowLabels 4 0)) = true := by decide +kernel
theorem sok_5 : sokB (rowLabels 5 0) (nm (rowLabels 5 0)) = true := by decide +kernel
theorem sok_7 : sokB (rowLabels 7 0) (nm (rowLabels 7 0)) = true := by decide +kernel
theorem sok_8 : sokB (rowLabels 8 0) (nm (rowLabels 8 0)) = true := by decide +kernel
theorem sok_11 : sokB (rowLabels 11 0) (nm (rowLabels 11 0)) = true := by decide +kernel
theorem sok_14 : sokB (rowLabels 14 0) (nm (rowLabels 14 0)) = true := by decide +kernel
theorem sok_17 : sokB (rowLabels 17 0) (nm (rowLabels 17 0)) = true := by decide +kernel
theorem sok_20 : sokB (rowLabels 20 0) (nm (rowLabels 20 0)) = true := by decide +kernel
theorem sok_23 : sokB (rowLabels 23 0) (nm (rowLabels 23 0)) = true := by decide +kernel
theorem sok_26 : sokB (rowLabels 26 0) (nm (rowLabels 26 0)) = true := by decide +kernel
noncomputable def reps : List Nat := [0, 1, 2, 4, 5, 7, 8, 11, 14, 17, 20, 23, 26]
theorem row_rep : ∀ f, f < 27 → ∃ r ∈ reps, rowLabels f 0 = rowLabels r 0 := by decide +kernel
theorem sok_all (f : Nat) (hf : f < 27) : SOK (rowLabels f 0) (nm (rowLabels f 0)) := by
  obtain ⟨r, hr, e⟩ := row_rep f hf
  rw [e]
  refine sok_of ?_
  unfold reps at hr
  simp only [List.mem_cons, List.not_mem_nil, or_false] at hr
  rcases hr with rfl | rfl | rfl | rfl | rfl | rfl | rfl | rfl | rfl | rfl | rfl | rfl | rfl
  · exact sok_0
  · exact sok_1
  · exact sok_2
  · exact sok_4
  · exact sok_5
  · exact sok_7
  · exact sok_8
  · exact sok_11
  · exact sok_14
  · exact sok_17
  · exact sok_20
  · exact sok_23
  · exact sok_26
theorem row_two : ∀ f, f < 27 → (rowLabels f 0 = [("local" : Str), ("s" : Str)] ∨ 2 < (rowLabels f 0).length) := by decide +kernel
noncomputable def labSet : List Str := ["local", "a", "ba", "C", "s", "t", "u", "v"]
theorem row_labs : ∀ f, f < 27 → ∀ k, k < 4 → ∀ x ∈ rowLabels f k, x ∈ labSet := by decide +kernel
theorem row_sizes : ∀ f, f < 27 → ∀ k, k < 4 → 2 ≤ (rowLabels f k).length ∧ (rowLabels f k).length ≤ 6 := by decide +kernel
noncomputable def goodB (x : Str) : Bool := !(tl x).isEmpty && (tl x).all fun c => (decide (65 ≤ c) && decide (c ≤ 90)) || (decide (97 ≤ c) && decide (c ≤ 122))
theorem good_of {x : Str} (h : goodB x = true) : Good x := by
  unfold goodB at h
  simp only [Bool.and_eq_true, Bool.not_eq_true', List.isEmpty_eq_false_iff, List.all_eq_true, Bool.or_eq_true, decide_eq_true_eq] at h
  exact ⟨h.1, fun c hc => h.2 c hc⟩
theorem lab_good : ∀ x ∈ labSet, goodB x = true := by decide +kernel
theorem lab_inj : ∀ x ∈ labSet, ∀ y ∈ labSet, low x = low y → x = y := by decide +kernel
theorem mem_row {cs : List Int} {d : Nat} {l : List Str} (h : l ∈ rowOf cs d) : ∃ f k, f < 27 ∧ k < 4 ∧ l = rowLabels f k := by
  unfold rowOf at h
  obtain ⟨k, hk, rfl⟩ := List.mem_map.mp h
  exact ⟨_, k, (fig_int _ _).2, List.mem_range.mp hk, rfl⟩
theorem rows_rowsL (cs : List Int) (d : Nat) : RowsL (rowOf cs d) := by
  refine ⟨fun l hl => ?_, fun l hl => ?_, fun l hl => ?_, by rw [rowOf_len]; omega, fun l hl m hm x hx y hy e => ?_⟩
  · obtain ⟨f, k, hf, hk, rfl⟩ := mem_row hl
    exact ⟨rfl, fun x hx => good_of (lab_good x (row_labs f hf k hk x hx))⟩
  · obtain ⟨f, k, hf, hk, rfl⟩ := mem_row hl
    exact (row_sizes f hf k hk).1
  · obtain ⟨f, k, hf, hk, rfl⟩ := mem_row hl
    have := weigh_row f k; omega
  · obtain ⟨f, k, hf, hk, rfl⟩ := mem_row hl
    obtain ⟨f', k', hf', hk', rfl⟩ := mem_row hm
    exact lab_inj x (row_labs f hf k hk x hx) y (row_labs f' hf' k' hk' y hy) e
noncomputable def toldOf (cs : List Int) (d : Nat) : List Str := (sortS (dueL (rowOf cs d))).reverse
theorem told_mem {cs : List Int} {d : Nat} {x : Str} : x ∈ toldOf cs d ↔ x ∈ dueL (rowOf cs d) := (sortS_desc (due_nodup _)).2 x
theorem due_row (cs : List Int) (d : Nat) : dueFun [.list ((rowOf cs d).map encL)] = some (.list ((toldOf cs d).map .str)) := by
  have hall : ((rowOf cs d).all fun l => decide (l.length ≤ 6)) = true := by
    rw [List.all_eq_true]
    intro l hl
    obtain ⟨f, k, hf, hk, rfl⟩ := mem_row hl
    exact decide_eq_true (row_sizes f hf k hk).2
  simp only [dueFun_mk, listsOf_map, Option.bind_some]
  rw [if_pos ⟨by rw [rowOf_len]; omega, hall⟩]; rfl
theorem join_nm : ∀ {l : List Str}, l ≠ [] → Txt.join "." l.reverse = nm l := by
  intro l
  induction l using snocInd with
  | nil => intro h; exact absurd rfl h
  | snoc l x ih =>
    intro _
    by_cases hl : l = []
    · subst hl
      show Builtin.Str.glued "." [x] = _
      rw [StrLaws.glued_eq_join]; rfl
    · have ih := ih hl
      rw [nm_snoc hl, ← ih, List.reverse_append, List.reverse_singleton]
      show Builtin.Str.glued "." (x :: l.reverse) = x ++ "." ++ Builtin.Str.glued "." l.reverse
      rw [StrLaws.glued_eq_join, StrLaws.glued_eq_join]
      cases h : l.reverse with
      | nil => exact absurd (by simpa using h) hl
      | cons a r => rfl
theorem row_first (f k : Nat) : ∃ r, tl (nm (rowLabels f k)) = (115 + k) :: r := by
  have e : rowLabels f k = (("local" : Str) :: (innerS f).take (f % 3)) ++ [ownS k] := rfl
  rw [e, nm_snoc (by simp), tl_app, tl_app]
  exact ⟨_, rfl⟩
theorem coll_first {x y : Str} {a b : Nat} {r t : List Nat} (hx : tl x = a :: r) (hy : tl y = b :: t) : (a < b → collF x y = -1) ∧ (b < a → collF x y = 1) := by
  unfold collF b2i
  show (a < b → (if decide (tl y < tl x) = true then (1 : Int) else 0) - (if decide (tl x < tl y) = true then (1 : Int) else 0) = -1) ∧ (b < a → (if decide (tl y < tl x) = true then (1 : Int) else 0) - (if decide (tl x < tl y) = true then (1 : Int) else 0) = 1)
  rw [hx, hy]
  constructor
  · intro h
    have h1 : a :: r < b :: t := List.cons_lt_cons_iff.mpr (.inl h)
    have h2 : ¬ b :: t < a :: r := fun q => List.lt_irrefl _ (List.lt_trans q h1)
    rw [decide_eq_true h1, decide_eq_false h2]; rfl
  · intro h
    have h1 : b :: t < a :: r := List.cons_lt_cons_iff.mpr (.inl h)
    have h2 : ¬ a :: r < b :: t := fun q => List.lt_irrefl _ (List.lt_trans q h1)
    rw [decide_eq_true h1, decide_eq_false h2]; rfl
theorem coll_self (x : Str) : collF x x = 0 := by
  unfold collF
  have : ¬ x.cps.toList < x.cps.toList := List.lt_irrefl _
  rw [decide_eq_false this]; rfl
theorem row_turns (cs : List Int) (d : Nat) : ((hostsOf cs d).flatMap fun a => (hostsOf cs d).flatMap fun b => [collF a b]) = turnsL := by
  have e : hostsOf cs d = [nm (rowL cs d 0), nm (rowL cs d 1), nm (rowL cs d 2), nm (rowL cs d 3)] := rfl
  rw [e]
  obtain ⟨r0, h0⟩ := row_first (fig (cs.getD 0 0) d) 0
  obtain ⟨r1, h1⟩ := row_first (fig (cs.getD 1 0) d) 1
  obtain ⟨r2, h2⟩ := row_first (fig (cs.getD 2 0) d) 2
  obtain ⟨r3, h3⟩ := row_first (fig (cs.getD 3 0) d) 3
  have c01 := coll_first h0 h1
  have c02 := coll_first h0 h2
  have c03 := coll_first h0 h3
  have c12 := coll_first h1 h2
  have c13 := coll_first h1 h3
  have c23 := coll_first h2 h3
  have c10 := coll_first h1 h0
  have c20 := coll_first h2 h0
  have c30 := coll_first h3 h0
  have c21 := coll_first h2 h1
  have c31 := coll_first h3 h1
  have c32 := coll_first h3 h2
  have g01 := c01.1 (by omega)
  have g02 := c02.1 (by omega)
  have g03 := c03.1 (by omega)
  have g12 := c12.1 (by omega)
  have g13 := c13.1 (by omega)
  have g23 := c23.1 (by omega)
  have g10 := c10.2 (by omega)
  have g20 := c20.2 (by omega)
  have g30 := c30.2 (by omega)
  have g21 := c21.2 (by omega)
  have g31 := c31.2 (by omega)
  have g32 := c32.2 (by omega)
  have ed : ∀ k, rowL cs d k = rowLabels (fig (cs.getD k 0) d) k := fun _ => rfl
  simp only [List.flatMap_cons, List.flatMap_nil, List.append_nil, List.cons_append, List.nil_append, ed, coll_self, g01, g02, g03, g12, g13, g23, g10, g20, g30, g21, g31, g32]
  rfl
theorem row_ok (cs : List Int) (d : Nat) : RowOK (rowOf cs d) (hostsOf cs d) (toldOf cs d) := by
  refine ⟨fun l hl => ?_, rfl, rowOf_len cs d, due_row cs d, row_turns cs d⟩
  have R := rows_rowsL cs d
  have hw := R.w l hl
  have hle := len_le_weigh l
  refine ⟨?_, by omega⟩
  have hj := joinD_ev l.reverse (by rw [List.length_reverse]; omega) (by
    have : (l.reverse.map (·.length)).sum = (l.map (·.length)).sum := by rw [List.map_reverse, List.sum_reverse]
    rw [this]
    have : ∀ l : List Str, (l.map (·.length)).sum ≤ weigh l := by
      intro l
      induction l with
      | nil => exact Nat.le_refl _
      | cons x r ih => simp [weigh] at ih ⊢; omega
    have := this l; omega)
  rw [hj]
  unfold joinD
  rw [join_nm (R.lab l hl).ne]
noncomputable def all15 : List Str := ((List.range 16).map fun n => bitsS [n.testBit 3, n.testBit 2, n.testBit 1, n.testBit 0]).drop 1
theorem bits_cases : ∀ a b c d : Bool, (a || b || c || d) = true → bitsS [a, b, c, d] ∈ all15 := by decide +kernel
theorem mem_all15 {x : Str} (h : Bits x) (hs : ∃ k, k < 4 ∧ bitAt x k = true) : x ∈ all15 := by
  have e : x = bitsS [bitAt x 0, bitAt x 1, bitAt x 2, bitAt x 3] := h.ext (bits_of rfl) fun k hk => by
    rw [bitAt_bits]
    rcases lt4 hk with rfl | rfl | rfl | rfl <;> simp
  rw [e]
  refine bits_cases _ _ _ _ ?_
  obtain ⟨k, hk, hb⟩ := hs
  rcases lt4 hk with rfl | rfl | rfl | rfl <;> simp [hb]
theorem Fam.len {F : List Str} (h : Fam F) : F.length ≤ 15 := by
  have := nodup_len (desc_nodup h.desc_) (m := all15) fun x hx => mem_all15 (h.bits x hx) (h.some_ x hx)
  exact Nat.le_trans this (by decide)
theorem low_fix {x : Str} (h : ∀ c ∈ tl x, 97 ≤ c) : low x = tl x := by
  unfold low
  conv => rhs; rw [← List.map_id (tl x)]
  refine List.map_congr_left fun c hc => ?_
  have := h c hc
  unfold lo1
  rw [if_neg (by omega)]; rfl
theorem dir_labels {F : List Str} (hF : F.length ≤ 15) {k : Nat} (hk : k < 4) : ∀ x ∈ dirLabels F k, tl x ≠ [] ∧ ∀ c ∈ tl x, 97 ≤ c ∧ c ≤ 122 := by
  intro x hx
  rw [dir_idx] at hx
  rcases List.mem_append.mp hx with h | h
  · rcases List.mem_cons.mp h with h | h
    · subst h; exact ⟨by decide, by decide⟩
    · obtain ⟨j, hj, rfl⟩ := List.mem_map.mp h
      unfold idxF at hj
      rw [List.mem_filter, List.mem_range] at hj
      have e : tl (letterS j) = [97 + j] := rfl
      rw [e]
      exact ⟨by simp, fun c hc => by simp at hc; omega⟩
  · simp at h; subst h
    have e : tl (ownS k) = [115 + k] := rfl
    rw [e]
    exact ⟨by simp, fun c hc => by simp at hc; omega⟩
theorem mem_dir {F : List Str} {l : List Str} : l ∈ dirRows F ↔ ∃ k, k < 4 ∧ l = dirLabels F k := by
  unfold dirRows
  rw [List.mem_map]
  constructor
  · rintro ⟨k, hk, rfl⟩; exact ⟨k, List.mem_range.mp hk, rfl⟩
  · rintro ⟨k, hk, rfl⟩; exact ⟨k, List.mem_range.mpr hk, rfl⟩
theorem dir_head (F : List Str) (k : Nat) : (dirLabels F k).head? = some ("local" : Str) := rfl
theorem dir_rowsL {F : List Str} (hF : F.length ≤ 15) : RowsL (dirRows F) := by
  refine ⟨fun l hl => ?_, fun l hl => ?_, fun l hl => ?_, by rw [dirRows_len]; omega, fun l hl m hm x hx y hy e => ?_⟩
  · obtain ⟨k, hk, rfl⟩ := mem_dir.mp hl
    refine ⟨dir_head F k, fun x hx => ?_⟩
    obtain ⟨h1, h2⟩ := dir_labels hF hk x hx
    exact ⟨h1, fun c hc => .inr (h2 c hc)⟩
  · obtain ⟨k, hk, rfl⟩ := mem_dir.mp hl
    rw [dir_len]; omega
  · obtain ⟨k, hk, rfl⟩ := mem_dir.mp hl
    obtain ⟨w1, w2⟩ := letters_weigh F k
    have e0 : dirLabels F k = [("local" : Str)] ++ (lettersOf F k ++ [ownS k]) := rfl
    have e1 : weigh [ownS k] = 2 := rfl
    have e2 : weigh [("local" : Str)] = 6 := by decide
    rw [e0, weigh_append, weigh_append, e1, e2]; omega
  · obtain ⟨k, hk, rfl⟩ := mem_dir.mp hl
    obtain ⟨k', hk', rfl⟩ := mem_dir.mp hm
    rw [low_fix fun c hc => ((dir_labels hF hk x hx).2 c hc).1, low_fix fun c hc => ((dir_labels hF hk' y hy).2 c hc).1] at e
    exact tl_inj e
noncomputable def setsOf (F : List Str) : List Str := (sortS (dueL (dirRows F))).reverse
theorem fam_directory {F : List Str} (h : Fam F) : directoryFun [.list (F.map .str)] = some (.list (((dirRows F).map nm).map .str)) := by
  have hall : (F.all fun x => x.length == 4) = true := by
    rw [List.all_eq_true]
    intro x hx
    rw [beq_iff_eq, ← len_tl]
    exact (h.bits x hx).len
  simp only [directoryFun_mk, strsOf_map, Option.bind_some]
  rw [if_pos ⟨h.len, hall⟩]
  unfold dirRows
  rw [List.map_map, List.map_map]
  congr 2
  refine List.map_congr_left fun k _ => ?_
  have e : namedS (dirLabels F k) = some (nm (dirLabels F k)) := namedS_some _ _
  rw [e]; rfl
theorem fam_cross {F : List Str} (h : Fam F) : crossFun [.list (F.map .str)] = some (.bool (crossS F)) := by
  have hall : (F.all ascii4) = true := by
    rw [List.all_eq_true]
    intro x hx
    have hb := h.bits x hx
    unfold ascii4
    rw [Bool.and_eq_true, beq_iff_eq]
    refine ⟨?_, by have := hb.len; rw [len_tl] at this; exact this⟩
    rw [← Array.all_toList, List.all_eq_true]
    intro c hc
    have := hb.bin c hc
    exact decide_eq_true (by omega)
  simp only [crossFun_mk, strsOf_map, Option.bind_some]
  rw [if_pos ⟨by have := h.len; omega, hall⟩]
theorem fam_iff {F : List Str} (h : Fam F) : decide (setsOf F = F) = !crossS F := by
  have ds := sortS_desc (due_nodup (dirRows F))
  cases hc : crossS F with
  | false =>
    have hno : ∀ x ∈ F, ∀ y ∈ F, ¬ Cr x y := fun x hx y hy q => by
      have := (crossS_iff h.bits).mpr ⟨x, hx, y, hy, q⟩
      rw [hc] at this; cases this
    refine decide_eq_true ?_
    exact desc_ext ds.1 h.desc_ fun x => (ds.2 x).trans (dir_due h hno x)
  | true =>
    refine decide_eq_false fun e => ?_
    obtain ⟨x, hx, y, hy, q⟩ := (crossS_iff h.bits).mp hc
    rw [← e] at hx hy
    exact due_laminar ((ds.2 x).mp hx) ((ds.2 y).mp hy) q
theorem every1_snoc (l : List Str) (x : Str) : every1 (l ++ [x]) = every1 l ++ (if x ∈ l then [] else [x]) := by
  unfold every1
  rw [List.length_append, List.length_singleton, List.range_succ, List.flatMap_append]
  congr 1
  · have : ∀ R : List Nat, (∀ k ∈ R, k < l.length) → R.flatMap (fun k => if (l ++ [x]).getD k "" ∈ (l ++ [x]).take k then [] else [(l ++ [x]).getD k ""]) = R.flatMap (fun k => if l.getD k "" ∈ l.take k then [] else [l.getD k ""]) := by
      intro R hR
      induction R with
      | nil => rfl
      | cons k r ih =>
        have hk := hR k (by simp)
        rw [List.flatMap_cons, List.flatMap_cons, ih fun j hj => hR j (by simp [hj])]
        have e1 : (l ++ [x]).getD k "" = l.getD k "" := by
          rw [List.getD_eq_getElem?_getD, List.getD_eq_getElem?_getD, List.getElem?_append_left hk]
        have e2 : (l ++ [x]).take k = l.take k := List.take_append_of_le_length (Nat.le_of_lt hk)
        rw [e1, e2]
    exact this _ fun k hk => List.mem_range.mp hk
  · have e1 : (l ++ [x]).getD l.length "" = x := by rw [List.getD_eq_getElem?_getD]; simp
    have e2 : (l ++ [x]).take l.length = l := List.take_left' rfl
    rw [List.flatMap_cons, List.flatMap_nil, List.append_nil, e1, e2]
theorem every1_add (l : List Str) : every1 l = l.foldl addS [] := by
  induction l using snocInd with
  | nil => rfl
  | snoc l x ih =>
    rw [every1_snoc, List.foldl_append, List.foldl_cons, List.foldl_nil, ih]
    have hm : x ∈ l.foldl addS [] ↔ x ∈ l := by rw [mem_foldl_addS]; simp
    unfold addS at hm ⊢
    by_cases h : x ∈ l
    · rw [if_pos h, if_pos (hm.mpr h), List.append_nil]
    · rw [if_neg h, if_neg (fun q => h (hm.mp q))]
theorem every_nodup (T : Nat → List Str) : (everyOf T).Nodup := by
  unfold everyOf
  rw [every1_add]
  exact nodup_foldl_addS List.nodup_nil
theorem every_mem {T : Nat → List Str} {x : Str} : x ∈ everyOf T ↔ x ∈ T 0 ∨ x ∈ T 1 ∨ x ∈ T 2 := by
  unfold everyOf
  rw [every1_add, mem_foldl_addS]
  unfold every0
  rw [List.mem_append, List.mem_flatMap]
  simp only [List.not_mem_nil, false_or]
  constructor
  · rintro (h | ⟨s, hs, h⟩)
    · exact .inl h
    · split at h
      · simp at h
      · simp at h; subst h
        exact .inr (List.mem_append.mp hs)
  · rintro (h | h)
    · exact .inl h
    · by_cases h0 : x ∈ T 0
      · exact .inl h0
      · exact .inr ⟨x, List.mem_append.mpr h, by rw [if_neg h0]; simp⟩
theorem shared_mem {T : Nat → List Str} {m : Nat} {x : Str} : x ∈ sharedOf T m ↔ x ∈ everyOf T ∧ m ≤ manyOf T x := by
  unfold sharedOf
  rw [(orderedS_desc ((every_nodup T).filter _)).2, List.mem_filter, decide_eq_true_eq]
theorem shared_desc (T : Nat → List Str) (m : Nat) : desc (sharedOf T m) := (orderedS_desc ((every_nodup T).filter _)).1
theorem two_of_three : ∀ a b c p q r : Bool, 2 ≤ ([a, b, c].filter id).length → 2 ≤ ([p, q, r].filter id).length → (a && p) = true ∨ (b && q) = true ∨ (c && r) = true := by decide
section
variable (cs : List Int)
theorem told_full (d : Nat) : fullS ∈ toldOf cs d := told_mem.mpr (due_full (rowOf_len cs d) (fun l hl => ((rows_rowsL cs d).lab l hl).first) (rows_rowsL cs d).two)
theorem shared_fam {m : Nat} (hm : m ≤ 3) : Fam (sharedOf (toldOf cs) m) := by
  have src : ∀ x ∈ sharedOf (toldOf cs) m, ∃ d, x ∈ dueL (rowOf cs d) := fun x hx => by
    rcases every_mem.mp (shared_mem.mp hx).1 with h | h | h
    · exact ⟨0, told_mem.mp h⟩
    · exact ⟨1, told_mem.mp h⟩
    · exact ⟨2, told_mem.mp h⟩
  refine ⟨shared_desc _ _, fun x hx => ?_, fun x hx => ?_, ?_⟩
  · obtain ⟨d, hd⟩ := src x hx
    exact (due_bits (rowOf_len cs d) hd).1
  · obtain ⟨d, hd⟩ := src x hx
    exact (due_bits (rowOf_len cs d) hd).2
  · refine shared_mem.mpr ⟨every_mem.mpr (.inl (told_full cs 0)), ?_⟩
    rw [many_three, decide_eq_true (told_full cs 0), decide_eq_true (told_full cs 1), decide_eq_true (told_full cs 2)]
    exact hm
theorem majority : crossS (sharedOf (toldOf cs) 2) = false := by
  have hF := shared_fam cs (m := 2) (by omega)
  cases hc : crossS (sharedOf (toldOf cs) 2) with
  | false => rfl
  | true =>
    obtain ⟨x, hx, y, hy, q⟩ := (crossS_iff hF.bits).mp hc
    have h1 := (shared_mem.mp hx).2
    have h2 := (shared_mem.mp hy).2
    rw [many_three] at h1 h2
    have := two_of_three _ _ _ _ _ _ h1 h2
    simp only [Bool.and_eq_true, decide_eq_true_eq] at this
    rcases this with ⟨a, b⟩ | ⟨a, b⟩ | ⟨a, b⟩
    · exact absurd q (due_laminar (told_mem.mp a) (told_mem.mp b))
    · exact absurd q (due_laminar (told_mem.mp a) (told_mem.mp b))
    · exact absurd q (due_laminar (told_mem.mp a) (told_mem.mp b))
theorem told_len (d : Nat) : (toldOf cs d).length ≤ 20 := by
  have h1 : (toldOf cs d).Nodup := desc_nodup (sortS_desc (due_nodup _)).1
  have := nodup_len h1 (m := all15) fun x hx => by
    have := due_bits (rowOf_len cs d) (told_mem.mp hx)
    exact mem_all15 this.1 this.2
  exact Nat.le_trans this (by decide)
theorem plain_law : ∃ T S H, Plain cs T S H := by
  refine ⟨toldOf cs, fun m => setsOf (sharedOf (toldOf cs) m), fun m => (dirRows (sharedOf (toldOf cs) m)).map nm, ⟨told_len cs, fun d _ => sets_due (rows_rowsL cs d), fun m hm => ?_, majority cs, fun d _ => row_ok cs d, fun d _ => sok_all _ (fig_int _ _).2, fun d _ => ⟨?_, row_two _ (fig_int _ _).2⟩⟩⟩
  · have hF := shared_fam cs (m := m) (by omega)
    exact ⟨fam_directory hF, sets_due (dir_rowsL hF.len), fam_cross hF, fam_iff hF⟩
  · have := (row_sizes _ (fig_int (cs.getD 0 0) d).2 0 (by omega)).2
    unfold rowL
    omega
end
theorem well_list {P : Params} {h : Heap} {l : Addr} {ns : List Int} (W : Well P h (.ref l) (ofPy (.list (ns.map .int)))) {vs : List Value} (hL : h.IsList l vs.toArray) : ∃ n, h.get? l = some (listObj vs.toArray n) := by
  generalize hd : ofPy (.list (ns.map .int)) = d at W
  cases W with
  | list h1 _ =>
    obtain ⟨o, ho, hc, n, hdt⟩ := hL
    rw [h1] at ho; cases ho
    simp only [Data.seq.injEq] at hdt
    rw [hdt.1] at h1
    exact ⟨_, h1⟩
  | _ => all_goals (simp [ofPy] at hd)
theorem whole : PySem.Challenge.rw_rs0054_01.Holds := hd (by
  k_fill
  intro w s₀ s₁ mg mb G Y fa o pm cd doc dV kV ho hdd hcd hD hmg hg args vals as hpre hlay hrd hwl hlo
  have KX := kIn_of Y
  refine Ground.open G ?_
  intro T B D TE TW
  wrow_args hpre hlay hrd hwl hlo
  rename_i ns _ _ _ _ _ _ _ l vs _ hL _ W _ hI _ hc _
  have C : Ctx w s₁.heap mg mb := ⟨KX, T.g, T.b, T.nolimit, T.builtins⟩
  have hm := C.m129
  have hfa : fa = 129 := by
    have hmg' : mg "law" = some (.ref fa) := hmg
    rw [hmg'] at hm; cases hm; rfl
  obtain ⟨n, hl⟩ := well_list W hL
  rw [hfa]
  refine wpAny_mono (law_call C (by omega) hl hI (fun _ _ e => e) (plain_law (cellsOf ns))) (fun v s' h => ?_) fun _ _ x => x.elim
  obtain ⟨⟨h', tk, rfl, kk⟩, rv⟩ := h
  cases rv
  refine ⟨.inl ⟨.bool true, .bool true, [], rfl, fun _ => rfl, .bool true, ?_, fun _ => ⟨List.nodup_nil, fun a ha => absurd ha (List.not_mem_nil)⟩⟩, ?_, rfl, ?_⟩
  · first
    | with_unfolding_all rfl
    | kernel_rfl
    | (simp [RowW.claim, OpenLaw.row, PySem.Challenge.rw_rs0054_01, WShape.has, WShape.arms, WTm.holds, WTm.value]; done)
  · exact OldK.of_keep kk
  · exact AllBare.of_eq hg)
end Mine
theorem PySem.Challenge.cw_rs0054_01_holds : PySem.Challenge.rw_rs0054_01.Holds :=
  Mine.whole
