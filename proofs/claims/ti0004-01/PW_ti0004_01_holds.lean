import PyProof.Rows.All
import Wide.All
import OpenK.AllK
import Wide.FinOn
import Lean
import PySem.Challenge.RW_ti0004_01
set_option Elab.async false
set_option linter.all false

section
open PySem PySem.W PyProof.Rows
set_option maxRecDepth 100000
namespace Mp

/-- tree values of the small language -/
inductive D where
  | none
  | bool (b : Bool)
  | int (i : Int)
  | flt (x : UInt64)
  | str (x : Str)
  | strt (x : Str) (t : Tok)
  | list (l : List D)
  | tup (l : List D)

noncomputable abbrev lob (vs : List Value) (n : Nat) : Obj := { cls := .type "list", data := .seq vs.toArray n }
noncomputable abbrev tob (vs : List Value) (n : Nat) : Obj := { cls := .type "tuple", data := .seq vs.toArray n }

/-- a goal may hide behind a variable while its facts are taken apart -/
theorem cps {G : Prop} (h : ∀ P : Prop, (G → P) → P) : G := h G id

/-- what every step keeps -/
structure Kp (s s' : Shared) : Prop where
  hp : ∀ b o, s.heap.get? b = some o → s'.heap.get? b = some o
  tk : s.toks ≤ s'.toks
  os : s'.os = s.os
  gn : ∃ t : List GenState, s'.gens.toList = s.gens.toList ++ t ∧ ∀ y ∈ t, y.bare = true

theorem Kp.refl (s : Shared) : Kp s s := ⟨fun _ _ e => e, Nat.le_refl _, rfl, [], by simp, by simp⟩
theorem Kp.trans {a b c : Shared} (x : Kp a b) (y : Kp b c) : Kp a c := by
  obtain ⟨t, ht, hb⟩ := x.gn
  obtain ⟨u, hu, hc⟩ := y.gn
  refine ⟨fun k o e => y.hp _ _ (x.hp _ _ e), Nat.le_trans x.tk y.tk, y.os.trans x.os, t ++ u, by rw [hu, ht, List.append_assoc], fun z hz => ?_⟩
  rcases List.mem_append.mp hz with h | h
  · exact hb z h
  · exact hc z h
theorem Kp.of {s : Shared} {h : Heap} {tk : Nat} (hk : ∀ b o, s.heap.get? b = some o → h.get? b = some o) (ht : s.toks ≤ tk) : Kp s { s with heap := h, toks := tk } :=
  ⟨hk, ht, rfl, [], by simp, by simp⟩
theorem Kp.tok (s : Shared) (k : Nat) : Kp s { s with toks := s.toks + k } := Kp.of (h := s.heap) (fun _ _ e => e) (Nat.le_add_right _ _)

mutual
inductive VR (s : Shared) (F : Addr → Prop) : Value → D → Prop where
  | none : VR s F .none .none
  | bool (b) : VR s F (.bool b) (.bool b)
  | int (i t) : VR s F (.int i t) (.int i)
  | flt (x t) : VR s F (.float x t) (.flt x)
  | str (x t) : VR s F (.str x t) (.str x)
  | strt (x t) : t ≠ 0 → t < s.toks → VR s F (.str x t) (.strt x t)
  | list (a n vs ds) : s.heap.get? a = some (lob vs n) → ¬ F a → VRs s F vs ds → VR s F (.ref a) (.list ds)
  | tup (a n vs ds) : s.heap.get? a = some (tob vs n) → ¬ F a → VRs s F vs ds → VR s F (.ref a) (.tup ds)
inductive VRs (s : Shared) (F : Addr → Prop) : List Value → List D → Prop where
  | nil : VRs s F [] []
  | cons {v d vs ds} : VR s F v d → VRs s F vs ds → VRs s F (v :: vs) (d :: ds)
end

mutual
theorem VR.mono {s s' : Shared} {F F' : Addr → Prop} (k : Kp s s') (hf : ∀ a o, s.heap.get? a = some o → F' a → F a) : ∀ {v d}, VR s F v d → VR s' F' v d
  | _, _, .none => .none
  | _, _, .bool b => .bool b
  | _, _, .int i t => .int i t
  | _, _, .flt i t => .flt i t
  | _, _, .str i t => .str i t
  | _, _, .strt i t h0 h1 => .strt i t h0 (Nat.lt_of_lt_of_le h1 k.tk)
  | _, _, .list a n vs ds e nf r => .list a n vs ds (k.hp _ _ e) (fun x => nf (hf _ _ e x)) (VRs.mono k hf r)
  | _, _, .tup a n vs ds e nf r => .tup a n vs ds (k.hp _ _ e) (fun x => nf (hf _ _ e x)) (VRs.mono k hf r)
theorem VRs.mono {s s' : Shared} {F F' : Addr → Prop} (k : Kp s s') (hf : ∀ a o, s.heap.get? a = some o → F' a → F a) : ∀ {vs ds}, VRs s F vs ds → VRs s' F' vs ds
  | _, _, .nil => .nil
  | _, _, .cons x r => .cons (VR.mono k hf x) (VRs.mono k hf r)
end
theorem VR.up {s s' : Shared} {F : Addr → Prop} (k : Kp s s') {v d} (x : VR s F v d) : VR s' F v d := x.mono k fun _ _ _ h => h
theorem VRs.up {s s' : Shared} {F : Addr → Prop} (k : Kp s s') {v d} (x : VRs s F v d) : VRs s' F v d := x.mono k fun _ _ _ h => h
theorem VRs.length {s : Shared} {F : Addr → Prop} : ∀ {vs ds}, VRs s F vs ds → vs.length = ds.length
  | _, _, .nil => rfl
  | _, _, .cons _ r => by rw [List.length_cons, List.length_cons, VRs.length r]
theorem VRs.append {s : Shared} {F : Addr → Prop} : ∀ {vs ds vs' ds'}, VRs s F vs ds → VRs s F vs' ds' → VRs s F (vs ++ vs') (ds ++ ds')
  | _, _, _, _, .nil, y => y
  | _, _, _, _, .cons x r, y => .cons x (VRs.append r y)
theorem VRs.get {s : Shared} {F : Addr → Prop} : ∀ {vs ds}, VRs s F vs ds → ∀ (i : Nat) (d : D), ds[i]? = some d → ∃ v, vs[i]? = some v ∧ VR s F v d
  | _, _, .nil, i, d, e => by simp at e
  | _, _, .cons (v := v) x r, 0, d, e => by
    simp at e; subst e; exact ⟨v, by simp, x⟩
  | _, _, .cons x r, i + 1, d, e => by
    simp at e
    obtain ⟨v, h1, h2⟩ := VRs.get r i d e
    exact ⟨v, by simpa using h1, h2⟩
theorem VRs.get' {s : Shared} {F : Addr → Prop} : ∀ {vs ds}, VRs s F vs ds → ∀ (i : Nat) (v : Value), vs[i]? = some v → ∃ d, ds[i]? = some d ∧ VR s F v d
  | _, _, .nil, i, d, e => by simp at e
  | _, _, .cons (d := d) x r, 0, v, e => by
    simp at e; subst e; exact ⟨d, by simp, x⟩
  | _, _, .cons x r, i + 1, v, e => by
    simp at e
    obtain ⟨d, h1, h2⟩ := VRs.get' r i v e
    exact ⟨d, by simpa using h1, h2⟩
theorem VRs.take {s : Shared} {F : Addr → Prop} : ∀ {vs ds}, VRs s F vs ds → ∀ k : Nat, VRs s F (vs.take k) (ds.take k)
  | _, _, _, 0 => by simpa using .nil
  | _, _, .nil, k + 1 => by simpa using .nil
  | _, _, .cons x r, k + 1 => by simpa using .cons x (VRs.take r k)
theorem VRs.drop {s : Shared} {F : Addr → Prop} : ∀ {vs ds}, VRs s F vs ds → ∀ k : Nat, VRs s F (vs.drop k) (ds.drop k)
  | _, _, x, 0 => by simpa using x
  | _, _, .nil, k + 1 => by simpa using .nil
  | _, _, .cons _ r, k + 1 => by simpa using VRs.drop r k

/-- what an evaluation hands on -/
noncomputable def Post (s : Shared) (F : Addr → Prop) (Q : D → Prop) (v : Value) (s' : Shared) : Prop := ∃ d, Q d ∧ VR s' F v d ∧ Kp s s'
theorem Post.mono {s : Shared} {F : Addr → Prop} {Q Q' : D → Prop} {v : Value} {s' : Shared} (x : Post s F Q v s') (h : ∀ d, Q d → Q' d) : Post s F Q' v s' :=
  let ⟨d, q, r⟩ := x; ⟨d, h d q, r⟩


section
variable {prog : Program} {w : World} {A : Around} {E : Value → Shared → Prop} {s : Shared} {F : Addr → Prop} {Q : D → Prop}

theorem post_tok {v : Value} {d : D} {k : Nat} (q : Q d) (h : VR { s with toks := s.toks + k } F v d) : Post s F Q v { s with toks := s.toks + k } := ⟨d, q, h, Kp.tok s k⟩
theorem post_here {v : Value} {d : D} (q : Q d) (h : VR s F v d) : Post s F Q v s := ⟨d, q, h, Kp.refl s⟩
theorem post_of {v : Value} {d : D} {h : Heap} {tk : Nat} (q : Q d) (hk : ∀ b o, s.heap.get? b = some o → h.get? b = some o) (ht : s.toks ≤ tk) (x : VR { s with heap := h, toks := tk } F v d) : Post s F Q v { s with heap := h, toks := tk } := ⟨d, q, x, Kp.of hk ht⟩

/-- monotone tokens for a rule that says nothing of them -/
theorem with_tk {α : Type} {t : Sem α} {Q : α → Shared → Prop} (h : wpAny (model prog w) A t (fun a s' => s.toks ≤ s'.toks → Q a s') E s) : wpAny (model prog w) A t Q E s :=
  wpAny_with_toks (Nat.le_refl _) (wpAny_mono h (fun _ _ x => x) fun _ _ x _ => x)

noncomputable def small (x : Int) : Prop := x.natAbs < 1073741824

noncomputable def bint (b : Bool) : Int := if b = true then 1 else 0

noncomputable def D.text : D → Option Str
  | .str x => Option.some x
  | .strt x _ => Option.some x
  | _ => Option.none

theorem VR.text {v : Value} {d : D} {x : Str} (h : VR s F v d) (e : d.text = some x) : ∃ t, v = .str x t := by
  cases h <;> simp [D.text] at e <;> subst e <;> exact ⟨_, rfl⟩

theorem push_keeps (o : Obj) : ∀ b o', s.heap.get? b = some o' → (s.heap.push o).get? b = some o' := fun _ _ e => Heap.get?_push_of_some _ e
theorem fresh_none : s.heap.get? s.heap.objs.size = none := by
  cases e : s.heap.get? s.heap.objs.size with
  | none => rfl
  | some o => exact absurd (Heap.lt_size e) (Nat.lt_irrefl _)

/-- the addresses that must not be met are all live -/
noncomputable def Live (s : Shared) (F : Addr → Prop) : Prop := ∀ a, F a → ∃ o, s.heap.get? a = some o
theorem Live.up {s' : Shared} (h : Live s F) (k : Kp s s') : Live s' F := fun a x => let ⟨o, e⟩ := h a x; ⟨o, k.hp _ _ e⟩
theorem Live.fresh (h : Live s F) : ¬ F s.heap.objs.size := fun x => by
  obtain ⟨o, e⟩ := h _ x
  exact absurd (Heap.lt_size e) (Nat.lt_irrefl _)

/-- a new list -/
theorem post_list {vs : List Value} {ds : List D} (hF : Live s F) (r : VRs s F vs ds) (q : Q (.list ds)) : Post s F Q (.ref s.heap.objs.size) { s with heap := s.heap.push (lob vs 0) } := by
  have k : Kp s { s with heap := s.heap.push (lob vs 0) } := Kp.of (push_keeps _) (Nat.le_refl _)
  exact ⟨_, q, .list _ 0 vs ds (Heap.get?_push_size _ rfl) hF.fresh (r.up k), k⟩
theorem post_tup {vs : List Value} {ds : List D} (hF : Live s F) (r : VRs s F vs ds) (q : Q (.tup ds)) : Post s F Q (.ref s.heap.objs.size) { s with heap := s.heap.push (tob vs 0) } := by
  have k : Kp s { s with heap := s.heap.push (tob vs 0) } := Kp.of (push_keeps _) (Nat.le_refl _)
  exact ⟨_, q, .tup _ 0 vs ds (Heap.get?_push_size _ rfl) hF.fresh (r.up k), k⟩

theorem mul_ok {x y : Int} (h : small x) : IntMulOk x y := IntMulOk.of_left (intBits_le_64 (by unfold small at h; omega) (by unfold small at h; omega))

/-! ## binary operators -/
noncomputable def pbin (op : Operator) (a b : D) (Q : D → Prop) : Prop := match op, a, b with
  | .Add, .int x, .int y => Q (.int (x + y))
  | .Sub, .int x, .int y => Q (.int (x - y))
  | .Mult, .int x, .int y => small x ∧ Q (.int (x * y))
  | .FloorDiv, .int x, .int y => (y ≠ 0 ∧ small y) ∧ Q (.int (x.fdiv y))
  | .Mod, .int x, .int y => y ≠ 0 ∧ Q (.int (x.fmod y))
  | .Div, .int x, .int y => (y ≠ 0 ∧ Float64.isInf (Float64.ofFrac (decide (x < 0) != decide (y < 0)) x.natAbs y.natAbs) = false) ∧ Q (.flt (Float64.ofFrac (decide (x < 0) != decide (y < 0)) x.natAbs y.natAbs))
  | .Sub, .bool x, .bool y => Q (.int (bint x - bint y))
  | .Add, .flt x, .flt y => Q (.flt (Float64.add x y))
  | .Sub, .flt x, .flt y => Q (.flt (Float64.sub x y))
  | .Mult, .flt x, .flt y => Q (.flt (Float64.mul x y))
  | .Div, .flt x, .flt y => Float64.isZero y = false ∧ Q (.flt (Float64.div x y))
  | .Mod, .flt x, .flt y => Float64.isZero y = false ∧ Q (.flt (Float64.divmod x y).snd)
  | .Sub, .flt x, .int y => small y ∧ Q (.flt (Float64.sub x (Float64.ofInt y)))
  | .Mult, .flt x, .int y => small y ∧ Q (.flt (Float64.mul x (Float64.ofInt y)))
  | .Add, .list x, .list y => x.length + y.length ≤ 1048576 ∧ Q (.list (x ++ y))
  | .Mult, .list x, .int y => (0 ≤ y ∧ y ≤ 1048576 ∧ x.length = 1) ∧ Q (.list (List.replicate y.toNat x).flatten)
  | .Add, a, b => (match a.text, b.text with | some x, some y => x.length + y.length ≤ 1048576 ∧ Q (.str (x ++ y)) | _, _ => False)
  | _, _, _ => False


theorem VRs.rep {vs : List Value} {ds : List D} (r : VRs s F vs ds) : ∀ k : Nat, VRs s F (List.replicate k vs).flatten (List.replicate k ds).flatten
  | 0 => by simpa using .nil
  | k + 1 => by
    rw [List.replicate_succ, List.replicate_succ, List.flatten_cons, List.flatten_cons]
    exact r.append (VRs.rep r k)

theorem fold_app (vs : List Value) : ∀ (k : Nat) (acc : Array Value), List.foldl (fun x1 x2 => x1 ++ x2) acc (List.replicate k vs.toArray) = acc ++ (List.replicate k vs).flatten.toArray
  | 0, acc => by simp
  | k + 1, acc => by
    rw [List.replicate_succ, List.foldl_cons, fold_app vs k, List.replicate_succ, List.flatten_cons]
    simp

theorem mul_list1 {l : Addr} {vs : List Value} {n : Nat} {x : Int} {u : Tok} {Q : Value → Shared → Prop} (hl : s.heap.get? l = some (lob vs n)) (h0 : 0 ≤ x) (h1 : x < 2 ^ 63) (hne : vs.length = 1) (hsz : vs.length * x.toNat ≤ 2 ^ 24)
    (h : Q (.ref s.heap.objs.size) { s with heap := s.heap.push (lob (List.replicate x.toNat vs).flatten 0) }) : wpAny (model prog w) A (binaryOp .Mult (.ref l) (.int x u)) Q E s := by
  have hem : vs.toArray.isEmpty = false := by
    cases vs with
    | nil => cases hne
    | cons a b => simp
  have e : (List.foldl (fun x1 x2 => x1 ++ x2) #[] (List.replicate (if vs.toArray.isEmpty = true then 0 else x.toNat) vs.toArray)) = (List.replicate x.toNat vs).flatten.toArray := by
    rw [hem, fold_app]; simp
  refine wpAny_binaryOp_repeat_ref (T := "list") (U := "int") (by decide) ⟨_, hl, rfl⟩ (fun s' => typeIs_int s' x u) noFill_list_mul F.fills_int_mul F.slot_int_rmul repeat_list F.slot_int_index.lookup
    (call_meets F.slot_int_rmul (typeIs_int s x u) F.entry_int_rmul (F.args_int_rmul_2 _ _) (int___rmul___int_list x u l vs.toArray n)
      ⟨hl, rfl, ⟨_, hl, rfl⟩, call_meets F.slot_list_mul ⟨_, hl, rfl⟩ F.entry_list_mul (F.args_list_mul_2 _ _)
        (AutoListH.list___mul___list_int_3 l vs.toArray n x u (by simp [Builtin.List.listFitsIndex]; omega) (by rw [List.size_toArray]; omega) (by simp [Builtin.List.listTooLong, sizeLine]; simp at hsz; omega))
        ⟨hl, ?_⟩⟩)
  rw [e]; exact h

theorem VR.int_inv {v : Value} {x : Int} (h : VR s F v (.int x)) : ∃ t, v = .int x t := by cases h; exact ⟨_, rfl⟩
theorem VR.flt_inv {v : Value} {x : UInt64} (h : VR s F v (.flt x)) : ∃ t, v = .float x t := by cases h; exact ⟨_, rfl⟩
theorem VR.bool_inv {v : Value} {x : Bool} (h : VR s F v (.bool x)) : v = .bool x := by cases h; rfl
theorem VR.list_inv {v : Value} {ds : List D} (h : VR s F v (.list ds)) : ∃ a n vs, v = .ref a ∧ s.heap.get? a = some (lob vs n) ∧ ¬ F a ∧ VRs s F vs ds := by cases h; exact ⟨_, _, _, rfl, ‹_›, ‹_›, ‹_›⟩

theorem VRs.one_inv {vs : List Value} {d : D} (h : VRs s F vs [d]) : ∃ v, vs = [v] ∧ VR s F v d := by
  cases h with | cons x r => cases r; exact ⟨_, rfl, x⟩
theorem VRs.two_inv {vs : List Value} {d e : D} (h : VRs s F vs [d, e]) : ∃ v u, vs = [v, u] ∧ VR s F v d ∧ VR s F u e := by
  cases h with | cons x r => obtain ⟨u, rfl, y⟩ := r.one_inv; exact ⟨_, u, rfl, x, y⟩
theorem VRs.three_inv {vs : List Value} {d e f : D} (h : VRs s F vs [d, e, f]) : ∃ v u t, vs = [v, u, t] ∧ VR s F v d ∧ VR s F u e ∧ VR s F t f := by
  cases h with | cons x r => obtain ⟨u, t, rfl, y, z⟩ := r.two_inv; exact ⟨_, u, t, rfl, x, y, z⟩

noncomputable def onI (x : D) (P : Int → Prop) : Prop := match x with | .int i => P i | _ => False
noncomputable def onF (x : D) (P : UInt64 → Prop) : Prop := match x with | .flt i => P i | _ => False
noncomputable def onL (x : D) (P : List D → Prop) : Prop := match x with | .list l => P l | _ => False
noncomputable def onT (x : D) (P : Str → Prop) : Prop := match x.text with | some y => P y | none => False
noncomputable def onLT (x : D) (P : List D → Prop) (R : Str → Prop) : Prop := match x with | .list l => P l | x => onT x R
noncomputable def on1 (ds : List D) (P : D → Prop) : Prop := match ds with | [a] => P a | _ => False
noncomputable def on3 (ds : List D) (P : D → D → D → Prop) : Prop := match ds with | [a, b, c] => P a b c | _ => False
noncomputable def on2 (ds : List D) (P : D → D → Prop) : Prop := match ds with | [a, b] => P a b | _ => False
noncomputable def on12 (ds : List D) (P : D → Prop) (R : D → D → Prop) : Prop := match ds with | [a] => P a | [a, b] => R a b | _ => False

theorem onI_v {v : Value} {x : D} {P : Int → Prop} (r : VR s F v x) (h : onI x P) : ∃ i t, v = .int i t ∧ P i := by
  cases x with
  | int i => obtain ⟨t, e⟩ := r.int_inv; exact ⟨i, t, e, h⟩
  | _ => exact False.elim h
theorem onF_v {v : Value} {x : D} {P : UInt64 → Prop} (r : VR s F v x) (h : onF x P) : ∃ i t, v = .float i t ∧ P i := by
  cases x with
  | flt i => obtain ⟨t, e⟩ := r.flt_inv; exact ⟨i, t, e, h⟩
  | _ => exact False.elim h
theorem onL_v {v : Value} {x : D} {P : List D → Prop} (r : VR s F v x) (h : onL x P) : ∃ a n vs ds, v = .ref a ∧ s.heap.get? a = some (lob vs n) ∧ ¬ F a ∧ VRs s F vs ds ∧ P ds := by
  cases x with
  | list ds => obtain ⟨a, n, vs, e, e1, e2, e3⟩ := r.list_inv; exact ⟨a, n, vs, ds, e, e1, e2, e3, h⟩
  | _ => exact False.elim h
theorem onT_x {x : D} {P : Str → Prop} (h : onT x P) : ∃ y, x.text = some y ∧ P y := by
  unfold onT at h
  cases e : x.text with
  | none => rw [e] at h; exact h.elim
  | some y => rw [e] at h; exact ⟨y, rfl, h⟩
theorem onT_v {v : Value} {x : D} {P : Str → Prop} (r : VR s F v x) (h : onT x P) : ∃ y t, v = .str y t ∧ P y := by
  obtain ⟨y, e, h⟩ := onT_x h
  obtain ⟨t, e'⟩ := r.text e
  exact ⟨y, t, e', h⟩
theorem onLT_v {v : Value} {x : D} {P : List D → Prop} {R : Str → Prop} (r : VR s F v x) (h : onLT x P R) : (∃ a n vs ds, v = .ref a ∧ s.heap.get? a = some (lob vs n) ∧ ¬ F a ∧ VRs s F vs ds ∧ P ds) ∨ ∃ y t, v = .str y t ∧ R y := by
  by_cases e : ∃ l, x = .list l
  · obtain ⟨l, rfl⟩ := e; exact .inl (onL_v r h)
  · refine .inr (onT_v r ?_)
    cases x with
    | list l => exact absurd ⟨l, rfl⟩ e
    | _ => exact h
theorem on1_i {ds : List D} {P : D → Prop} (h : on1 ds P) : ∃ a, ds = [a] ∧ P a := by
  cases ds with
  | nil => exact False.elim h
  | cons a ds => cases ds with
    | nil => exact ⟨a, rfl, h⟩
    | cons => exact False.elim h
theorem on2_i {ds : List D} {P : D → D → Prop} (h : on2 ds P) : ∃ a b, ds = [a, b] ∧ P a b := by
  cases ds with
  | nil => exact False.elim h
  | cons a ds => cases ds with
    | nil => exact False.elim h
    | cons b ds => cases ds with
      | nil => exact ⟨a, b, rfl, h⟩
      | cons => exact False.elim h
theorem on3_i {ds : List D} {P : D → D → D → Prop} (h : on3 ds P) : ∃ a b c, ds = [a, b, c] ∧ P a b c := by
  cases ds with
  | nil => exact False.elim h
  | cons a ds => cases ds with
    | nil => exact False.elim h
    | cons b ds => cases ds with
      | nil => exact False.elim h
      | cons c ds => cases ds with
        | nil => exact ⟨a, b, c, rfl, h⟩
        | cons => exact False.elim h
theorem on12_i {ds : List D} {P : D → Prop} {R : D → D → Prop} (h : on12 ds P R) : (∃ a, ds = [a] ∧ P a) ∨ ∃ a b, ds = [a, b] ∧ R a b := by
  cases ds with
  | nil => exact False.elim h
  | cons a ds => cases ds with
    | nil => exact .inl ⟨a, rfl, h⟩
    | cons b ds => cases ds with
      | nil => exact .inr ⟨a, b, rfl, h⟩
      | cons => exact False.elim h

/-- pbin, case by case -/
inductive PB (Q : D → Prop) : Operator → D → D → Prop where
  | addI {x y} : Q (.int (x + y)) → PB Q .Add (.int x) (.int y)
  | subI {x y} : Q (.int (x - y)) → PB Q .Sub (.int x) (.int y)
  | mulI {x y} : small x → Q (.int (x * y)) → PB Q .Mult (.int x) (.int y)
  | fdivI {x y} : y ≠ 0 → small y → Q (.int (x.fdiv y)) → PB Q .FloorDiv (.int x) (.int y)
  | modI {x y} : y ≠ 0 → Q (.int (x.fmod y)) → PB Q .Mod (.int x) (.int y)
  | divI {x y} : y ≠ 0 → Float64.isInf (Float64.ofFrac (decide (x < 0) != decide (y < 0)) x.natAbs y.natAbs) = false → Q (.flt (Float64.ofFrac (decide (x < 0) != decide (y < 0)) x.natAbs y.natAbs)) → PB Q .Div (.int x) (.int y)
  | subB {x y} : Q (.int (bint x - bint y)) → PB Q .Sub (.bool x) (.bool y)
  | addF {x y} : Q (.flt (Float64.add x y)) → PB Q .Add (.flt x) (.flt y)
  | subF {x y} : Q (.flt (Float64.sub x y)) → PB Q .Sub (.flt x) (.flt y)
  | mulF {x y} : Q (.flt (Float64.mul x y)) → PB Q .Mult (.flt x) (.flt y)
  | divF {x y} : Float64.isZero y = false → Q (.flt (Float64.div x y)) → PB Q .Div (.flt x) (.flt y)
  | modF {x y} : Float64.isZero y = false → Q (.flt (Float64.divmod x y).snd) → PB Q .Mod (.flt x) (.flt y)
  | subFI {x} {y : Int} : small y → Q (.flt (Float64.sub x (Float64.ofInt y))) → PB Q .Sub (.flt x) (.int y)
  | mulFI {x} {y : Int} : small y → Q (.flt (Float64.mul x (Float64.ofInt y))) → PB Q .Mult (.flt x) (.int y)
  | addL {x y} : x.length + y.length ≤ 1048576 → Q (.list (x ++ y)) → PB Q .Add (.list x) (.list y)
  | mulL {x} {y : Int} : 0 ≤ y → y ≤ 1048576 → x.length = 1 → Q (.list (List.replicate y.toNat x).flatten) → PB Q .Mult (.list x) (.int y)
  | addS {a b : D} {x y : Str} : a.text = some x → b.text = some y → x.length + y.length ≤ 1048576 → Q (.str (x ++ y)) → PB Q .Add a b
theorem pb_of {op : Operator} {a b : D} (h : pbin op a b Q) : PB Q op a b := by
  cases op with
  | Add =>
    cases a with
    | int x => cases b <;> first | exact h.elim | exact .addI h
    | flt x => cases b <;> first | exact h.elim | exact .addF h
    | list x => cases b <;> first | exact h.elim | exact .addL h.1 h.2
    | str x => cases b <;> first | exact h.elim | exact .addS rfl rfl h.1 h.2
    | strt x t => cases b <;> first | exact h.elim | exact .addS rfl rfl h.1 h.2
    | _ => cases b <;> exact h.elim
  | Sub =>
    cases a with
    | int x => cases b <;> first | exact h.elim | exact .subI h
    | flt x => cases b <;> first | exact h.elim | exact .subF h | exact .subFI h.1 h.2
    | bool x => cases b <;> first | exact h.elim | exact .subB h
    | _ => exact h.elim
  | Mult =>
    cases a with
    | int x => cases b <;> first | exact h.elim | exact .mulI h.1 h.2
    | flt x => cases b <;> first | exact h.elim | exact .mulF h | exact .mulFI h.1 h.2
    | list x => cases b <;> first | exact h.elim | exact .mulL h.1.1 h.1.2.1 h.1.2.2 h.2
    | _ => exact h.elim
  | FloorDiv =>
    cases a with
    | int x => cases b <;> first | exact h.elim | exact .fdivI h.1.1 h.1.2 h.2
    | _ => exact h.elim
  | Mod =>
    cases a with
    | int x => cases b <;> first | exact h.elim | exact .modI h.1 h.2
    | flt x => cases b <;> first | exact h.elim | exact .modF h.1 h.2
    | _ => exact h.elim
  | Div =>
    cases a with
    | int x => cases b <;> first | exact h.elim | exact .divI h.1.1 h.1.2 h.2
    | flt x => cases b <;> first | exact h.elim | exact .divF h.1 h.2
    | _ => exact h.elim
  | _ => exact h.elim

theorem wp_bin {op : Operator} {va vb : Value} {a b : D} (hF : Live s F) (ha : VR s F va a) (hb : VR s F vb b) (h : pbin op a b Q) : wpAny (model prog w) A (binaryOp op va vb) (Post s F Q) E s := by
  cases pb_of h with
  | addI q => obtain ⟨t, rfl⟩ := ha.int_inv; obtain ⟨u, rfl⟩ := hb.int_inv; exact PyProof.Rows.add_int (post_tok (k := 1) q (.int _ _))
  | subI q => obtain ⟨t, rfl⟩ := ha.int_inv; obtain ⟨u, rfl⟩ := hb.int_inv; exact P.sub_int (post_tok (k := 1) q (.int _ _))
  | mulI h1 q => obtain ⟨t, rfl⟩ := ha.int_inv; obtain ⟨u, rfl⟩ := hb.int_inv; exact P.mul_int (post_tok (k := 1) q (.int _ _)) (mul_ok h1)
  | fdivI h1 h2 q => obtain ⟨t, rfl⟩ := ha.int_inv; obtain ⟨u, rfl⟩ := hb.int_inv; exact PyProof.Rows.floordiv_int h1 (post_tok (k := 1) q (.int _ _)) (Or.inl (PyProof.noPylong_small h2))
  | modI h1 q => obtain ⟨t, rfl⟩ := ha.int_inv; obtain ⟨u, rfl⟩ := hb.int_inv; exact PyProof.Rows.mod_int' h1 (post_tok (k := 1) q (.int _ _))
  | divI h1 h2 q => obtain ⟨t, rfl⟩ := ha.int_inv; obtain ⟨u, rfl⟩ := hb.int_inv; exact AutoIntOps.truediv_2 (by simpa using h1) (by simp [h2]) (post_tok (k := 1) q (.flt _ _))
  | subB q => obtain rfl := ha.bool_inv; obtain rfl := hb.bool_inv; exact PyProof.Rows.sub_bool (post_tok (k := 1) q (.int _ _))
  | addF q => obtain ⟨t, rfl⟩ := ha.flt_inv; obtain ⟨u, rfl⟩ := hb.flt_inv; exact PyProof.Rows.add_float (post_tok (k := 1) q (.flt _ _))
  | subF q => obtain ⟨t, rfl⟩ := ha.flt_inv; obtain ⟨u, rfl⟩ := hb.flt_inv; exact PyProof.Rows.sub_float (post_tok (k := 1) q (.flt _ _))
  | mulF q => obtain ⟨t, rfl⟩ := ha.flt_inv; obtain ⟨u, rfl⟩ := hb.flt_inv; exact PyProof.Rows.mul_float (post_tok (k := 1) q (.flt _ _))
  | divF h1 q => obtain ⟨t, rfl⟩ := ha.flt_inv; obtain ⟨u, rfl⟩ := hb.flt_inv; exact AutoFloatOps.truediv_1 (by simp [h1]) (post_tok (k := 1) q (.flt _ _))
  | modF h1 q => obtain ⟨t, rfl⟩ := ha.flt_inv; obtain ⟨u, rfl⟩ := hb.flt_inv; exact AutoFloatOps.mod_1 (by simp [h1]) (post_tok (k := 1) q (.flt _ _))
  | subFI h1 q => obtain ⟨t, rfl⟩ := ha.flt_inv; obtain ⟨u, rfl⟩ := hb.int_inv; exact PyProof.Rows.sub_fi_fits (Nat.lt_trans h1 (by decide +kernel)) (post_tok (k := 1) q (.flt _ _))
  | mulFI h1 q => obtain ⟨t, rfl⟩ := ha.flt_inv; obtain ⟨u, rfl⟩ := hb.int_inv; exact PyProof.Rows.mul_fi_fits (Nat.lt_trans h1 (by decide +kernel)) (post_tok (k := 1) q (.flt _ _))
  | addL h1 q =>
    obtain ⟨a, n, vs, rfl, e, nf, r⟩ := ha.list_inv
    obtain ⟨a', n', vs', rfl, e', nf', r'⟩ := hb.list_inv
    refine P.add_list (items := vs.toArray) (items2 := vs'.toArray) e e' ?_ (by simp only [List.size_toArray, r.length, r'.length]; exact Nat.le_trans h1 (by decide))
    have := post_list hF (r.append r') q
    simpa using this
  | mulL h0 h1 h2 q =>
    obtain ⟨a, n, vs, rfl, e, nf, r⟩ := ha.list_inv
    obtain ⟨u, rfl⟩ := hb.int_inv
    have hl := r.length
    refine mul_list1 e h0 (by omega) (by rw [hl, h2]) (by rw [hl, h2]; omega) ?_
    exact post_list hF (VRs.rep r _) q
  | addS ea eb h1 q =>
    obtain ⟨t, rfl⟩ := ha.text ea
    obtain ⟨u, rfl⟩ := hb.text eb
    refine with_tk (PyProof.Rows.add_str (fun t' tk htk => ?_) ?_)
    · exact post_of q (fun _ _ e => e) htk (.str _ _)
    · exact Nat.le_trans h1 (by decide)
end
end Mp
end

section
open PySem PySem.W PyProof.Rows
set_option maxRecDepth 100000
namespace Mp
section
variable {prog : Program} {w : World} {A : Around} {E : Value → Shared → Prop} {s : Shared} {F : Addr → Prop} {Q : D → Prop}

/-! ## in place, on plain values -/
noncomputable def pinp (op : Operator) (a b : D) (Q : D → Prop) : Prop := match op, a, b with
  | .Add, .int x, .int y => Q (.int (x + y))
  | .Sub, .int x, .int y => Q (.int (x - y))
  | .Add, a, b => (match a.text, b.text with | some x, some y => x.length + y.length ≤ 1048576 ∧ Q (.str (x ++ y)) | _, _ => False)
  | _, _, _ => False

/-- pinp, case by case -/
inductive PI' (Q : D → Prop) : Operator → D → D → Prop where
  | addI {x y} : Q (.int (x + y)) → PI' Q .Add (.int x) (.int y)
  | subI {x y} : Q (.int (x - y)) → PI' Q .Sub (.int x) (.int y)
  | addS {a b : D} {x y : Str} : a.text = some x → b.text = some y → x.length + y.length ≤ 1048576 → Q (.str (x ++ y)) → PI' Q .Add a b
theorem pi_of {op : Operator} {a b : D} (h : pinp op a b Q) : PI' Q op a b := by
  cases op with
  | Add =>
    cases a with
    | int x => cases b <;> first | exact h.elim | exact .addI h
    | str x => cases b <;> first | exact h.elim | exact .addS rfl rfl h.1 h.2
    | strt x t => cases b <;> first | exact h.elim | exact .addS rfl rfl h.1 h.2
    | _ => cases b <;> exact h.elim
  | Sub =>
    cases a with
    | int x => cases b <;> first | exact h.elim | exact .subI h
    | _ => exact h.elim
  | _ => exact h.elim
theorem wp_inp {op : Operator} {va vb : Value} {a b : D} (ha : VR s F va a) (hb : VR s F vb b) (h : pinp op a b Q) : wpAny (model prog w) A (inplaceOp op va vb) (Post s F Q) E s := by
  cases pi_of h with
  | addI q => obtain ⟨t, rfl⟩ := ha.int_inv; obtain ⟨u, rfl⟩ := hb.int_inv; exact P.iadd_int (post_tok (k := 1) q (.int _ _))
  | subI q => obtain ⟨t, rfl⟩ := ha.int_inv; obtain ⟨u, rfl⟩ := hb.int_inv; exact P.isub_int (post_tok (k := 1) q (.int _ _))
  | addS ea eb h1 q =>
    obtain ⟨t, rfl⟩ := ha.text ea
    obtain ⟨u, rfl⟩ := hb.text eb
    refine with_tk (PyProof.Rows.iadd_str (fun t' tk htk => ?_) ?_)
    · exact post_of q (fun _ _ e => e) htk (.str _ _)
    · exact Nat.le_trans h1 (by decide)

/-! ## comparisons -/
mutual
noncomputable def D.py : D → PyData
  | .none => .none
  | .bool b => .bool b
  | .int i => .int i
  | .flt _ => .none
  | .str x => .str x
  | .strt x _ => .str x
  | .list l => .list (pys l)
  | .tup l => .tuple (pys l)
noncomputable def pys : List D → List PyData
  | [] => []
  | d :: l => d.py :: pys l
end
mutual
noncomputable def D.noFlt : D → Bool
  | .flt _ => false
  | .list l => noFlts l
  | .tup l => noFlts l
  | _ => true
noncomputable def noFlts : List D → Bool
  | [] => true
  | d :: l => d.noFlt && noFlts l
end

mutual
theorem VR.reads : ∀ {v : Value} {d : D}, VR s F v d → d.noFlt = true → ∃ as, Reads s.heap v d.py as
  | _, _, .none, _ => ⟨_, .none⟩
  | _, _, .bool b, _ => ⟨_, .bool b⟩
  | _, _, .int i t, _ => ⟨_, .int i t⟩
  | _, _, .str x t, _ => ⟨_, .str x t⟩
  | _, _, .strt x t _ _, _ => ⟨_, .str x t⟩
  | _, _, .flt _ _, h => by cases h
  | _, _, .list a n vs ds e _ r, h => by
    obtain ⟨as, x⟩ := VRs.reads r h
    exact ⟨_, .list e rfl rfl (by simpa using x)⟩
  | _, _, .tup a n vs ds e _ r, h => by
    obtain ⟨as, x⟩ := VRs.reads r h
    exact ⟨_, .tuple e rfl rfl (by simpa using x)⟩
theorem VRs.reads : ∀ {vs : List Value} {ds : List D}, VRs s F vs ds → noFlts ds = true → ∃ as, ReadsAll s.heap vs (pys ds) as
  | _, _, .nil, _ => ⟨_, .nil⟩
  | _, _, .cons x r, h => by
    have h' := Bool.and_eq_true_iff.mp (show (_ && _) = true from h)
    obtain ⟨as, y⟩ := VR.reads x h'.1
    obtain ⟨bs, z⟩ := VRs.reads r h'.2
    exact ⟨_, .cons y z⟩
end

noncomputable def D.flat : D → Bool
  | .list _ => false
  | .tup _ => false
  | .flt _ => false
  | _ => true
noncomputable def D.isSeq : D → Bool
  | .list _ => true
  | .tup _ => true
  | _ => false

noncomputable def pcmp (op : CmpOp) (a b : D) (Q : D → Prop) : Prop := match op, a, b with
  | .Lt, .int x, .int y => Q (.bool (decide (x < y)))
  | .LtE, .int x, .int y => Q (.bool (decide (x ≤ y)))
  | .Gt, .int x, .int y => Q (.bool (decide (x > y)))
  | .GtE, .int x, .int y => Q (.bool (decide (x ≥ y)))
  | .Eq, .int x, .int y => Q (.bool (decide (x = y)))
  | .NotEq, .int x, .int y => Q (.bool (!decide (x = y)))
  | .Eq, .flt x, .flt y => Q (.bool (Float64.cmp x y == some Ordering.eq))
  | .Eq, .flt x, .int y => Q (.bool (Float64.cmpInt x y == some Ordering.eq))
  | .NotEq, .flt x, .int y => Q (.bool (Float64.cmpInt x y != some Ordering.eq))
  | .Gt, .flt x, .int y => Q (.bool (Float64.cmpInt x y == some Ordering.gt))
  | .Is, .bool x, .bool y => Q (.bool (x == y))
  | .IsNot, .bool x, .bool y => Q (.bool (x != y))
  | .IsNot, .int _, .bool _ => Q (.bool true)
  | .Eq, .list x, .list y => (noFlts x = true ∧ noFlts y = true ∧ SeqAt.shaped (D.list x).py = true ∧ SeqAt.shaped (D.list y).py = true) ∧ Q (.bool (PyData.eqv (D.list x).py (D.list y).py))
  | .NotEq, .list x, .list y => (noFlts x = true ∧ noFlts y = true ∧ SeqAt.shaped (D.list x).py = true ∧ SeqAt.shaped (D.list y).py = true) ∧ Q (.bool (!PyData.eqv (D.list x).py (D.list y).py))
  | .NotIn, a, .list y => (match a.text with | some x => y.all D.flat = true ∧ Q (.bool (!(pys y).any (PyProof.Rows.datHitsStr x))) | _ => False)
  | .Eq, a, b => (match a.text, b.text with | some x, some y => Q (.bool (decide (x = y))) | _, _ => False)
  | .NotEq, a, b => (match a.text, b.text with | some x, some y => Q (.bool (!decide (x = y))) | _, _ => False)
  | .Lt, a, b => (match a.text, b.text with | some x, some y => Q (.bool (decide (x.cps.toList < y.cps.toList))) | _, _ => False)
  | .Gt, a, b => (match a.text, b.text with | some x, some y => Q (.bool (decide (y.cps.toList < x.cps.toList))) | _, _ => False)
  | .NotIn, a, b => (match a.text, b.text with | some x, some y => Q (.bool (!!(Builtin.Str.occurrences y x 0 y.length 1).isEmpty)) | _, _ => False)
  | _, _, _ => False

theorem flats_carried {vs : List Value} {ds : List D} : VRs s F vs ds → ds.all D.flat = true → CarriedAll vs (pys ds)
  | .nil, _ => .nil
  | .cons (v := v) (d := d) x r, h => by
    rw [List.all_cons, Bool.and_eq_true_iff] at h
    refine .cons ?_ (flats_carried r h.2)
    cases x with
    | none => exact .none
    | bool b => exact .bool b
    | int i t => exact .int i t
    | str y t => exact .str y t
    | strt y t _ _ => exact .str y t
    | _ => cases h.1


theorem int_dec (x y : Int) : (x == y) = decide (x = y) := by by_cases e : x = y <;> simp [e]
theorem str_dec (x y : Str) : (x == y) = decide (x = y) := by by_cases e : x = y <;> simp [e]

theorem cmp_texts {op : CmpOp} {x y : Str} {t u : Tok} (h : match op with
    | .Eq => Q (.bool (decide (x = y)))
    | .NotEq => Q (.bool (!decide (x = y)))
    | .Lt => Q (.bool (decide (x.cps.toList < y.cps.toList)))
    | .Gt => Q (.bool (decide (y.cps.toList < x.cps.toList)))
    | .NotIn => Q (.bool (!!(Builtin.Str.occurrences y x 0 y.length 1).isEmpty))
    | _ => False) : wpAny (model prog w) A (compareOp op (.str x t) (.str y u)) (Post s F Q) E s := by
  have bool_here : ∀ {b : Bool}, Q (.bool b) → Post s F Q (.bool b) s := fun q => post_here q (.bool _)
  cases op with
  | Eq => exact PyProof.Rows.eq_str (bool_here (by rw [str_dec]; exact h))
  | NotEq => exact P.ne_str (bool_here (by
      rw [show (x.cps.toList != y.cps.toList) = !(x == y) from by rw [← PySem.SeqAt.str_beq]; rfl, str_dec]; exact h))
  | Lt => exact PyProof.Rows.lt_str (bool_here h)
  | Gt => exact P.gt_str (bool_here h)
  | NotIn => exact PyProof.Rows.notIn_str (bool_here (by simpa using h))
  | _ => exact h.elim

/-- pcmp, case by case -/
inductive PC (Q : D → Prop) : CmpOp → D → D → Prop where
  | ltI {x y} : Q (.bool (decide (x < y))) → PC Q .Lt (.int x) (.int y)
  | leI {x y} : Q (.bool (decide (x ≤ y))) → PC Q .LtE (.int x) (.int y)
  | gtI {x y} : Q (.bool (decide (x > y))) → PC Q .Gt (.int x) (.int y)
  | geI {x y} : Q (.bool (decide (x ≥ y))) → PC Q .GtE (.int x) (.int y)
  | eqI {x y} : Q (.bool (decide (x = y))) → PC Q .Eq (.int x) (.int y)
  | neI {x y} : Q (.bool (!decide (x = y))) → PC Q .NotEq (.int x) (.int y)
  | eqF {x y} : Q (.bool (Float64.cmp x y == some Ordering.eq)) → PC Q .Eq (.flt x) (.flt y)
  | eqFI {x} {y : Int} : Q (.bool (Float64.cmpInt x y == some Ordering.eq)) → PC Q .Eq (.flt x) (.int y)
  | neFI {x} {y : Int} : Q (.bool (Float64.cmpInt x y != some Ordering.eq)) → PC Q .NotEq (.flt x) (.int y)
  | gtFI {x} {y : Int} : Q (.bool (Float64.cmpInt x y == some Ordering.gt)) → PC Q .Gt (.flt x) (.int y)
  | isB {x y} : Q (.bool (x == y)) → PC Q .Is (.bool x) (.bool y)
  | isnotB {x y} : Q (.bool (x != y)) → PC Q .IsNot (.bool x) (.bool y)
  | isnotI {x y} : Q (.bool true) → PC Q .IsNot (.int x) (.bool y)
  | eqL {x y} : noFlts x = true → noFlts y = true → SeqAt.shaped (D.list x).py = true → SeqAt.shaped (D.list y).py = true → Q (.bool (PyData.eqv (D.list x).py (D.list y).py)) → PC Q .Eq (.list x) (.list y)
  | neL {x y} : noFlts x = true → noFlts y = true → SeqAt.shaped (D.list x).py = true → SeqAt.shaped (D.list y).py = true → Q (.bool (!PyData.eqv (D.list x).py (D.list y).py)) → PC Q .NotEq (.list x) (.list y)
  | notinL {a : D} {x : Str} {y} : a.text = some x → y.all D.flat = true → Q (.bool (!(pys y).any (PyProof.Rows.datHitsStr x))) → PC Q .NotIn a (.list y)
  | txt {op : CmpOp} {a b : D} {x y : Str} : a.text = some x → b.text = some y → (match op with
    | .Eq => Q (.bool (decide (x = y)))
    | .NotEq => Q (.bool (!decide (x = y)))
    | .Lt => Q (.bool (decide (x.cps.toList < y.cps.toList)))
    | .Gt => Q (.bool (decide (y.cps.toList < x.cps.toList)))
    | .NotIn => Q (.bool (!!(Builtin.Str.occurrences y x 0 y.length 1).isEmpty))
    | _ => False) → PC Q op a b
theorem pc_of {op : CmpOp} {a b : D} (h : pcmp op a b Q) : PC Q op a b := by
  cases op with
  | Lt =>
    cases a with
    | int x => cases b <;> first | exact h.elim | exact .ltI h
    | str x => cases b <;> first | exact h.elim | exact .txt rfl rfl h
    | strt x t => cases b <;> first | exact h.elim | exact .txt rfl rfl h
    | _ => cases b <;> exact h.elim
  | LtE =>
    cases a with
    | int x => cases b <;> first | exact h.elim | exact .leI h
    | _ => exact h.elim
  | Gt =>
    cases a with
    | int x => cases b <;> first | exact h.elim | exact .gtI h
    | flt x => cases b <;> first | exact h.elim | exact .gtFI h
    | str x => cases b <;> first | exact h.elim | exact .txt rfl rfl h
    | strt x t => cases b <;> first | exact h.elim | exact .txt rfl rfl h
    | _ => cases b <;> exact h.elim
  | GtE =>
    cases a with
    | int x => cases b <;> first | exact h.elim | exact .geI h
    | _ => exact h.elim
  | Eq =>
    cases a with
    | int x => cases b <;> first | exact h.elim | exact .eqI h
    | flt x => cases b <;> first | exact h.elim | exact .eqF h | exact .eqFI h
    | list x => cases b <;> first | exact h.elim | exact .eqL h.1.1 h.1.2.1 h.1.2.2.1 h.1.2.2.2 h.2
    | str x => cases b <;> first | exact h.elim | exact .txt rfl rfl h
    | strt x t => cases b <;> first | exact h.elim | exact .txt rfl rfl h
    | _ => cases b <;> exact h.elim
  | NotEq =>
    cases a with
    | int x => cases b <;> first | exact h.elim | exact .neI h
    | flt x => cases b <;> first | exact h.elim | exact .neFI h
    | list x => cases b <;> first | exact h.elim | exact .neL h.1.1 h.1.2.1 h.1.2.2.1 h.1.2.2.2 h.2
    | str x => cases b <;> first | exact h.elim | exact .txt rfl rfl h
    | strt x t => cases b <;> first | exact h.elim | exact .txt rfl rfl h
    | _ => cases b <;> exact h.elim
  | Is =>
    cases a with
    | bool x => cases b <;> first | exact h.elim | exact .isB h
    | _ => exact h.elim
  | IsNot =>
    cases a with
    | bool x => cases b <;> first | exact h.elim | exact .isnotB h
    | int x => cases b <;> first | exact h.elim | exact .isnotI h
    | _ => exact h.elim
  | NotIn =>
    cases a with
    | str x => cases b <;> first | exact h.elim | exact .notinL rfl h.1 h.2 | exact .txt rfl rfl h
    | strt x t => cases b <;> first | exact h.elim | exact .notinL rfl h.1 h.2 | exact .txt rfl rfl h
    | _ => cases b <;> exact h.elim
  | _ => exact h.elim

theorem wp_cmp {op : CmpOp} {va vb : Value} {a b : D} (hu : A.units + 65 < cLine) (ha : VR s F va a) (hb : VR s F vb b) (h : pcmp op a b Q) : wpAny (model prog w) A (compareOp op va vb) (Post s F Q) E s := by
  have bool_here : ∀ {b : Bool}, Q (.bool b) → Post s F Q (.bool b) s := fun q => post_here q (.bool _)
  cases pc_of h with
  | ltI q => obtain ⟨t, rfl⟩ := ha.int_inv; obtain ⟨u, rfl⟩ := hb.int_inv; exact P.lt_int (bool_here q)
  | leI q => obtain ⟨t, rfl⟩ := ha.int_inv; obtain ⟨u, rfl⟩ := hb.int_inv; exact P.le_int (bool_here q)
  | gtI q => obtain ⟨t, rfl⟩ := ha.int_inv; obtain ⟨u, rfl⟩ := hb.int_inv; exact P.gt_int (bool_here q)
  | geI q => obtain ⟨t, rfl⟩ := ha.int_inv; obtain ⟨u, rfl⟩ := hb.int_inv; exact P.ge_int (bool_here q)
  | eqI q => obtain ⟨t, rfl⟩ := ha.int_inv; obtain ⟨u, rfl⟩ := hb.int_inv; exact P.eq_int (bool_here (by rw [int_dec]; exact q))
  | neI q => obtain ⟨t, rfl⟩ := ha.int_inv; obtain ⟨u, rfl⟩ := hb.int_inv; exact P.ne_int (bool_here (by rw [bne, int_dec]; exact q))
  | eqF q => obtain ⟨t, rfl⟩ := ha.flt_inv; obtain ⟨u, rfl⟩ := hb.flt_inv; exact AutoFloatOps.eq_0 (bool_here q)
  | eqFI q => obtain ⟨t, rfl⟩ := ha.flt_inv; obtain ⟨u, rfl⟩ := hb.int_inv; exact PyProof.Rows.eq_fi (bool_here q)
  | neFI q => obtain ⟨t, rfl⟩ := ha.flt_inv; obtain ⟨u, rfl⟩ := hb.int_inv; exact PyProof.Rows.ne_fi (bool_here q)
  | gtFI q => obtain ⟨t, rfl⟩ := ha.flt_inv; obtain ⟨u, rfl⟩ := hb.int_inv; exact PyProof.Rows.gt_fi (bool_here q)
  | isB q => obtain rfl := ha.bool_inv; obtain rfl := hb.bool_inv; exact is_bool (bool_here q)
  | isnotB q => obtain rfl := ha.bool_inv; obtain rfl := hb.bool_inv; exact isnot_bool (bool_here q)
  | isnotI q => obtain ⟨t, rfl⟩ := ha.int_inv; obtain rfl := hb.bool_inv; exact wpAny_isNot_other rfl (by intro e; cases e) (bool_here q)
  | eqL h1 h2 h3 h4 q =>
    obtain ⟨as, ra⟩ := ha.reads h1
    obtain ⟨bs, rb⟩ := hb.reads h2
    exact PyProof.Rows.eq_dataH ra rb h3 h4 (by omega) (bool_here q)
  | neL h1 h2 h3 h4 q =>
    obtain ⟨as, ra⟩ := ha.reads h1
    obtain ⟨bs, rb⟩ := hb.reads h2
    exact PyProof.Rows.ne_dataH ra rb h3 h4 (by omega) (bool_here q)
  | notinL ea h1 q =>
    obtain ⟨t, rfl⟩ := ha.text ea
    obtain ⟨a', n', vs', rfl, e', nf', r'⟩ := hb.list_inv
    exact PyProof.Rows.notin_made_str ⟨_, e', rfl, _, rfl⟩ (flats_carried r' h1) (bool_here q)
  | txt ea eb q =>
    obtain ⟨t, rfl⟩ := ha.text ea
    obtain ⟨u, rfl⟩ := hb.text eb
    exact cmp_texts q

/-! ## truth -/
noncomputable def ptruth (a : D) (Q : Bool → Prop) : Prop := match a with
  | .bool b => Q b
  | a => (match a.text with | some x => x.length ≤ 1048576 ∧ Q (decide (x.length ≠ 0)) | _ => False)

noncomputable def PostB (s : Shared) (Q : Bool → Prop) (b : Bool) (s' : Shared) : Prop := Q b ∧ Kp s s'

theorem truth_str {x : Str} {t : Tok} {Q : Bool → Prop} (h : x.length ≤ 1048576 ∧ Q (decide (x.length ≠ 0))) : wpAny (model prog w) A (truthy (.str x t)) (PostB s Q) E s := by
  refine P.truthy_str (by omega) ⟨?_, Kp.tok s 2⟩
  rw [show ((x.length : Int) != 0) = decide (x.length ≠ 0) from by by_cases e : x.length = 0 <;> simp [e]]
  exact h.2
theorem wp_truth {va : Value} {a : D} {Q : Bool → Prop} (ha : VR s F va a) (h : ptruth a Q) : wpAny (model prog w) A (truthy va) (PostB s Q) E s := by
  cases ha with
  | bool b => exact wpAny_truthy_bool ⟨h, Kp.refl s⟩
  | str x t => exact truth_str h
  | strt x t _ _ => exact truth_str h
  | _ => exact h.elim

/-! ## items and slices -/
noncomputable def pitem (fr : Tok → Prop) (a i : D) (Q : D → Prop) : Prop := match a, i with
  | .list ds, .int k => (k < 0 → k = -1) ∧ ds.length ≤ 1048576 ∧ (match ds[(if k < 0 then k + ds.length else k).toNat]? with | some d => (k < 0 → 0 < ds.length) ∧ Q d | none => False)
  | a, .int k => (match a.text with | some x => 0 ≤ k ∧ k < 1048576 ∧ (match x.cps[k.toNat]? with | some c => ∀ t, t ≠ 0 → fr t → Q (.strt ⟨#[c]⟩ t) | none => False) | _ => False)
  | _, _ => False

theorem item_text {fr : Tok → Prop} {x : Str} {t u : Tok} {k : Int} (hfr : fr s.toks) (ht : s.toks ≠ 0)
    (h : 0 ≤ k ∧ k < 1048576 ∧ (match x.cps[k.toNat]? with | some c => ∀ t, t ≠ 0 → fr t → Q (.strt ⟨#[c]⟩ t) | none => False)) :
    wpAny (model prog w) A (getItem (.str x t) (.int k u)) (Post s F Q) E s := by
  obtain ⟨h0, h1, h2⟩ := h
  cases e : x.cps[k.toNat]? with
  | none => rw [e] at h2; exact h2.elim
  | some c =>
    rw [e] at h2
    obtain ⟨j, rfl⟩ := Int.eq_ofNat_of_zero_le h0
    have hj : j < x.length := by
      have := (Array.getElem?_eq_some_iff.mp e).1
      simpa [Str.length] using this
    refine P.getItem_str (c := c) (by simp; omega) ?_ ?_
    · rw [show seqIndex? (j : Int) x.length = some j from by unfold seqIndex?; simp; omega]
      simpa using e
    · exact ⟨_, h2 _ ht hfr, .strt _ _ ht (Nat.lt_succ_self _), Kp.tok s 1⟩

theorem wp_item {fr : Tok → Prop} {va vi : Value} {a i : D} (hfr : fr s.toks) (ht : s.toks ≠ 0) (ha : VR s F va a) (hi : VR s F vi i) (h : pitem fr a i Q) : wpAny (model prog w) A (getItem va vi) (Post s F Q) E s := by
  cases ha with
  | list a n vs ds e nf r =>
    cases hi with
    | int k u =>
      obtain ⟨hk, hsz, hd⟩ := h
      cases e' : ds[(if k < 0 then k + ds.length else k).toNat]? with
      | none => rw [e'] at hd; exact hd.elim
      | some d =>
        rw [e'] at hd
        obtain ⟨v, hv, rv⟩ := r.get _ _ e'
        have hlen := r.length
        have hlt : (if k < 0 then k + ds.length else k).toNat < ds.length := (List.getElem?_eq_some_iff.mp e').1
        by_cases hneg : k < 0
        · have hk1 := hk hneg
          subst hk1
          refine wpAny_getItem_list_neg (items := vs.toArray) ⟨_, e, rfl, _, rfl⟩ (by omega) (by simp; omega) (by omega) ?_ (post_here hd.2 rv)
          rw [if_pos hneg] at hv
          simpa [hlen] using hv
        · rw [if_neg hneg] at hv hlt
          refine wpAny_getItem_list (items := vs.toArray) ⟨_, e, rfl, _, rfl⟩ (by omega) (by omega) ?_ (post_here hd.2 rv)
          simpa using hv
    | _ => exact h.elim
  | str x t =>
    cases hi with
    | int k u => exact item_text hfr ht h
    | _ => exact h.elim
  | strt x t _ _ =>
    cases hi with
    | int k u => exact item_text hfr ht h
    | _ => exact h.elim
  | _ => cases hi <;> exact h.elim
end
end Mp
end

section
open PySem PySem.W PyProof.Rows
set_option maxRecDepth 100000
namespace Mp
section
variable {prog : Program} {w : World} {A : Around} {E : Value → Shared → Prop} {s : Shared} {F : Addr → Prop} {Q : D → Prop}

/-! ## slices -/
noncomputable def sdrop (x : Str) (k : Nat) : Str := ⟨(x.cps.toList.drop k).toArray⟩
noncomputable def stake (x : Str) (k : Nat) : Str := ⟨(x.cps.toList.take k).toArray⟩

noncomputable def pslice (a : D) (lo hi : Option Int) (Q : D → Prop) : Prop := match lo, hi with
  | none, none => onL a fun ds => ds.length ≤ 1048576 ∧ Q (.list ds)
  | some i, none => onLT a (fun ds => (0 ≤ i ∧ ds.length ≤ 1048576) ∧ Q (.list (ds.drop i.toNat))) fun x => (0 ≤ i ∧ i ≤ x.length ∧ x.length ≤ 1048576) ∧ Q (.str (sdrop x i.toNat))
  | none, some i => onLT a (fun ds => (0 ≤ i ∧ ds.length ≤ 1048576) ∧ Q (.list (ds.take i.toNat))) fun x => (0 ≤ i ∧ i ≤ x.length ∧ x.length ≤ 1048576) ∧ Q (.str (stake x i.toNat))
  | some _, some _ => False

inductive Part (s : Shared) : Value → Option Int → Prop where
  | none : Part s .none Option.none
  | int (i t) : Part s (.int i t) (some i)

theorem str_self (x : Str) : (⟨x.cps.toList.toArray⟩ : Str) = x := by cases x; simp

theorem slice_from (x : Str) (a : Nat) (ha : a ≤ x.length) : Txt.slice x (some (a : Int)) none = sdrop x a := by
  have e : Builtin.Str.strSliceIndices (some (a : Int)) none 1 x.length = (List.range (x.length - a)).map (fun k => a + k) := by
    rw [← StrLaws.strSliceIndices_plain ha (Nat.le_refl _)]
    have h2 : ¬ ((x.length : Int) < 0) := by omega
    have e2 : max (0 : Int) (min (x.length : Int) (x.length : Int)) = x.length := by omega
    simp only [Builtin.Str.strSliceIndices, h2, if_false, e2, show ((1 : Int) > 0) = True from by simp, if_true]
  have hp := StrLaws.picks x.cps.toList (x.length - a) a (by simp [Str.length] at ha ⊢; omega)
  have ht : (x.cps.toList.drop a).take (x.length - a) = x.cps.toList.drop a := List.take_of_length_le (by simp [Str.length])
  unfold Txt.slice
  rw [e]
  split
  · rename_i h
    simp at h
    have : a = 0 ∨ x.length = 0 := by omega
    rcases this with rfl | h0
    · unfold sdrop; rw [List.drop_zero]
    · have : a = 0 := by omega
      subst this
      unfold sdrop; rw [List.drop_zero]
  · unfold sdrop
    rw [← ht, ← hp]
    simp
theorem slice_upto (x : Str) (b : Nat) (hb : b ≤ x.length) : Txt.slice x none (some (b : Int)) = stake x b := by
  have e : Builtin.Str.strSliceIndices none (some (b : Int)) 1 x.length = (List.range (b - 0)).map (fun k => 0 + k) := by
    rw [← StrLaws.strSliceIndices_plain (Nat.zero_le _) hb]
    have e2 : max (0 : Int) (min (0 : Int) (x.length : Int)) = 0 := by omega
    simp [Builtin.Str.strSliceIndices, e2]
  have hp := StrLaws.picks x.cps.toList (b - 0) 0 (by simp [Str.length] at hb ⊢; omega)
  unfold Txt.slice
  rw [e]
  split
  · rename_i h
    simp at h
    unfold stake
    rw [List.take_of_length_le (by simp [Str.length] at h ⊢; omega)]
  · unfold stake
    have : (x.cps.toList.take b) = (x.cps.toList.drop 0).take (b - 0) := by simp
    rw [this, ← hp]
    simp

theorem Part.val {v : Value} {o : Option Int} (h : Part s v o) : ∃ l : Option (Int × Tok), v = partValue l ∧ l.map (·.1) = o := by
  cases h with
  | none => exact ⟨Option.none, rfl, rfl⟩
  | int i t => exact ⟨some (i, t), rfl, rfl⟩
theorem Part.is {v : Value} {o : Option Int} (h : Part s v o) : IsPart v o := by cases h <;> constructor

section
variable {vl vu : Value} {sl : Addr} {lo hi : Option Int} (pl : Part s vl lo) (pu : Part s vu hi) (hs : s.heap.get? sl = some { cls := .type "slice", data := .fields #[vl, vu, .none] })
include pl pu hs
theorem slice_text {x y : Str} {t : Tok} (hlen : x.length ≤ 1048576) (hy : Txt.slice x lo hi = y) (hq : Q (.str y)) : wpAny (model prog w) A (getItem (.str x t) (.ref sl)) (Post s F Q) E s := by
  obtain ⟨l, e1, e3⟩ := pl.val
  obtain ⟨u, e2, e4⟩ := pu.val
  rw [e1, e2] at hs
  refine with_tk (wpAny_getItem_str_slice (l := l) (u := u) (st := none) ⟨_, hs, rfl, rfl⟩ rfl (post_val_or_str ⟨?_, fun t' k hk => ?_⟩))
  · have := Txt.slice_le x lo hi
    unfold Txt.slice at this
    rw [← e3, ← e4] at this
    exact Nat.le_trans this (Nat.le_trans hlen (by decide))
  · have e5 : Txt.slice x lo hi = y := hy
    unfold Txt.slice at e5
    rw [← e3, ← e4] at e5
    refine post_of (d := .str y) hq (fun _ _ e => e) hk ?_
    have := VR.str (s := { s with toks := k }) (F := F) y t'
    rw [← e5] at this ⊢
    exact this
theorem slice_list {a : Addr} {n : Nat} {vs vs' : List Value} {ds ds' : List D} (hF : Live s F) (e : s.heap.get? a = some (lob vs n)) (r : VRs s F vs ds) (hz : ds.length ≤ 1048576) (e1 : slicePick vs.toArray lo hi none = vs'.toArray) (r' : VRs s F vs' ds') (q : Q (.list ds')) :
    wpAny (model prog w) A (getItem (.ref a) (.ref sl)) (Post s F Q) E s := by
  refine wpAny_getItem_list_slice (items := vs.toArray) (st := none) ⟨_, e, rfl, _, rfl⟩ ⟨_, hs, rfl, rfl⟩ pl.is pu.is .none (by simp) ?_ (by simp only [List.size_toArray, r.length]; exact Nat.le_trans hz (by decide))
  rw [e1]
  exact post_list hF r' q
end

theorem wp_slice {va vl vu : Value} {sl : Addr} {a : D} {lo hi : Option Int} (hF : Live s F) (ha : VR s F va a) (pl : Part s vl lo) (pu : Part s vu hi)
    (hs : s.heap.get? sl = some { cls := .type "slice", data := .fields #[vl, vu, .none] }) (h : pslice a lo hi Q) : wpAny (model prog w) A (getItem va (.ref sl)) (Post s F Q) E s := by
  have pl' := pl
  have pu' := pu
  cases pl with
  | none =>
    cases pu with
    | none =>
      obtain ⟨b, n, vs, ds, rfl, e, _, r, h1, hq⟩ := onL_v ha h
      exact slice_list pl' pu' hs hF e r h1 (slicePick_all _) r hq
    | int j u =>
      rcases onLT_v ha h with ⟨b, n, vs, ds, rfl, e, _, r, ⟨h0, h1⟩, hq⟩ | ⟨x, t, rfl, ⟨h0, h1, h2⟩, hq⟩
      · obtain ⟨k, rfl⟩ := Int.eq_ofNat_of_zero_le h0
        exact slice_list pl' pu' hs hF e r h1 (slicePick_upto' ..) (r.take k) hq
      · obtain ⟨k, rfl⟩ := Int.eq_ofNat_of_zero_le h0
        exact slice_text pl' pu' hs h2 (slice_upto x k (Int.ofNat_le.mp h1)) hq
  | int i u =>
    cases pu with
    | none =>
      rcases onLT_v ha h with ⟨b, n, vs, ds, rfl, e, _, r, ⟨h0, h1⟩, hq⟩ | ⟨x, t, rfl, ⟨h0, h1, h2⟩, hq⟩
      · obtain ⟨k, rfl⟩ := Int.eq_ofNat_of_zero_le h0
        exact slice_list pl' pu' hs hF e r h1 (slicePick_from' ..) (r.drop k) hq
      · obtain ⟨k, rfl⟩ := Int.eq_ofNat_of_zero_le h0
        exact slice_text pl' pu' hs h2 (slice_from x k (Int.ofNat_le.mp h1)) hq
    | int j u => exact h.elim

/-! ## built-in calls -/
noncomputable def fgt (x y : UInt64) : Bool := Float64.cmp x y == some Ordering.gt
noncomputable def flt' (x y : UInt64) : Bool := Float64.cmp x y == some Ordering.lt
noncomputable def fbest (r : UInt64 → UInt64 → Bool) (a b c : UInt64) : UInt64 := if r c (if r b a then b else a) then c else if r b a then b else a

noncomputable def imax : List Int → Int
  | [] => 0
  | x :: l => l.foldl (fun m y => if y > m then y else m) x

noncomputable def intsOf : List D → Option (List Int)
  | [] => some []
  | .int i :: l => (intsOf l).map (i :: ·)
  | _ => none

/-- the built-in calls that are known -/
inductive Bi where
  | len | min | max | int
noncomputable def Bi.v : Bi → Value
  | .len => .builtin "len"
  | .min => .builtin "min"
  | .max => .builtin "max"
  | .int => .type "int"

theorem Bi.kind (b : Bi) : (∃ id, b.v = .builtin id) ∨ ∃ T, b.v = .type T := by
  cases b with
  | int => exact .inr ⟨_, rfl⟩
  | _ => exact .inl ⟨_, rfl⟩
noncomputable def pbi (f : Bi) (ds : List D) (Q : D → Prop) : Prop := match f with
  | .len => on1 ds fun a => onLT a (fun l => l.length ≤ 1048576 ∧ Q (.int l.length)) fun x => x.length ≤ 1048576 ∧ Q (.int x.length)
  | .min => (match ds with
    | [a, b] => onI a fun a => onI b fun b => Q (.int (if b < a then b else a))
    | ds => on3 ds fun a b c => onF a fun a => onF b fun b => onF c fun c => Q (.flt (fbest flt' a b c)))
  | .max => (match ds with
    | [a] => onL a fun l => (match intsOf l with | some xs => xs ≠ [] ∧ Q (.int (imax xs)) | none => False)
    | [a, b] => onI a fun a => onI b fun b => Q (.int (if b > a then b else a))
    | ds => on3 ds fun a b c => onF a fun a => onF b fun b => onF c fun c => Q (.flt (fbest fgt a b c)))
  | .int => on1 ds fun a => onF a fun x => (match Float64.decode x with | .fin sg m e => Q (.int (Float64.truncOf sg m e)) | _ => False)

theorem wp_len_text {x : Str} {t : Tok} (h : x.length ≤ 1048576 ∧ Q (.int x.length)) : wpAny (model prog w) A (call (.builtin "len") [.str x t]) (Post s F Q) E s :=
  P.len_str (by omega) (post_tok (k := 2) h.2 (.int _ _))

theorem cmp_three (r : UInt64 → UInt64 → Bool) {op : CmpOp} (hop : ∀ (x y : UInt64) (t u : Tok) (A : Around) (s : Shared) (Q : Value → Shared → Prop) (E : Value → Shared → Prop), Q (.bool (r x y)) s → wpAny (model prog w) A (richCompare op (.float x t) (.float y u)) Q E s)
    {a b c : UInt64} {ta tb tc : Tok} : CmpOf prog w A op (fun i v => (#[Value.float a ta, .float b tb, .float c tc] : Array Value)[i]? = some v) (fun i j => r ([a, b, c].getD i 0) ([a, b, c].getD j 0)) := by
  have at3 : ∀ (i : Nat) (v : Value), (#[Value.float a ta, .float b tb, .float c tc] : Array Value)[i]? = some v → ∃ t, v = .float ([a, b, c].getD i 0) t := by
    intro i v h
    match i, h with
    | 0, h => simp at h; exact ⟨ta, h.symm⟩
    | 1, h => simp at h; exact ⟨tb, h.symm⟩
    | 2, h => simp at h; exact ⟨tc, h.symm⟩
    | i + 3, h => simp at h
  intro i j vi vj s Q E hi hj h
  obtain ⟨t, rfl⟩ := at3 i vi hi
  obtain ⟨u, rfl⟩ := at3 j vj hj
  exact hop _ _ _ _ _ _ _ _ h

theorem wp_three (r : UInt64 → UInt64 → Bool) {a b c : UInt64} {ta tb tc : Tok} (h : Q (.flt (fbest r a b c))) {v : Value} {h' : Heap} {tk : Nat}
    (hv : (#[Value.float a ta, .float b tb, .float c tc] : Array Value)[argBest (fun i j => r ([a, b, c].getD i 0) ([a, b, c].getD j 0)) 2]? = some v)
    (hk : ∀ d o, s.heap.get? d = some o → h'.get? d = some o) (htk : s.toks ≤ tk) : Post s F Q v { s with heap := h', toks := tk } := by
  have : ∃ t, v = .float (fbest r a b c) t := by
    simp only [argBest, List.getD_cons_zero, List.getD_cons_succ] at hv
    unfold fbest
    cases e1 : r b a with
    | true =>
      simp only [e1, if_true, List.getD_cons_zero, List.getD_cons_succ] at hv ⊢
      cases e2 : r c b with
      | true => simp [e2] at hv; exact ⟨tc, by simp [hv]⟩
      | false => simp [e2] at hv; exact ⟨tb, by simp [hv]⟩
    | false =>
      simp only [e1, Bool.false_eq_true, if_false, List.getD_cons_zero, List.getD_cons_succ] at hv ⊢
      cases e2 : r c a with
      | true => simp [e2] at hv; exact ⟨tc, by simp [hv]⟩
      | false => simp [e2] at hv; exact ⟨ta, by simp [hv]⟩
  obtain ⟨t, rfl⟩ := this
  exact post_of h hk htk (.flt _ _)

theorem argBest_fold (val : Nat → Int) : ∀ k : Nat, val (argBest (fun i j => decide (val i > val j)) k) = ((List.range k).map fun i => val (i + 1)).foldl (fun m y => if y > m then y else m) (val 0)
  | 0 => rfl
  | k + 1 => by
    have ih := argBest_fold val k
    rw [List.range_succ, List.map_append, List.foldl_append, ← ih]
    simp only [argBest, List.map_cons, List.map_nil, List.foldl_cons, List.foldl_nil]
    by_cases h : val (k + 1) > val (argBest (fun i j => decide (val i > val j)) k)
    · simp [h]
    · simp [h]

theorem ints_items : ∀ {vs : List Value} {ds : List D} {xs : List Int}, VRs s F vs ds → intsOf ds = some xs → ∃ ps : List (Int × Tok), vs.toArray = intItems ps.toArray ∧ ps.map (·.1) = xs
  | _, _, _, .nil, h => by simp [intsOf] at h; subst h; exact ⟨[], by simp [intItems], rfl⟩
  | _, _, _, .cons (d := d) x r, h => by
    cases x with
    | int i t =>
      simp only [intsOf, Option.map_eq_some_iff] at h
      obtain ⟨ys, hy, rfl⟩ := h
      obtain ⟨ps, h1, h2⟩ := ints_items r hy
      refine ⟨(i, t) :: ps, ?_, by simp [h2]⟩
      simp [intItems] at h1 ⊢
      exact h1
    | _ => simp [intsOf] at h

theorem range_map_getD (l : List Int) : (List.range l.length).map (fun i => l.getD i 0) = l := by
  apply List.ext_getElem (by simp)
  intro i h1 h2
  simp [List.getD_eq_getElem?_getD, List.getElem?_eq_getElem h2]


theorem rc_gt (x y : UInt64) (t u : Tok) (A : Around) (s : Shared) (Q : Value → Shared → Prop) (E : Value → Shared → Prop) (h : Q (.bool (fgt x y)) s) : wpAny (model prog w) A (richCompare .Gt (.float x t) (.float y u)) Q E s := by
  show wpAny (model prog w) A (compareOp .Gt (.float x t) (.float y u)) Q E s
  exact AutoFloatOps.gt_0 h
theorem rc_lt (x y : UInt64) (t u : Tok) (A : Around) (s : Shared) (Q : Value → Shared → Prop) (E : Value → Shared → Prop) (h : Q (.bool (flt' x y)) s) : wpAny (model prog w) A (richCompare .Lt (.float x t) (.float y u)) Q E s := by
  show wpAny (model prog w) A (compareOp .Lt (.float x t) (.float y u)) Q E s
  exact AutoFloatOps.lt_0 h

theorem three_tup {a b c : Value} : (s.heap.push { cls := .type "tuple", data := .seq #[a, b, c] }).IsTuple s.heap.objs.size #[a, b, c] := ⟨_, Heap.get?_push_size _ rfl, rfl, 0, rfl⟩

theorem wp_max3 {a b c : UInt64} {ta tb tc : Tok} (hA : A.handled = none) (h : Q (.flt (fbest fgt a b c))) :
    wpAny (model prog w) A (call (.builtin "max") [.float a ta, .float b tb, .float c tc]) (Post s F Q) E s := by
  have hsz : (s.heap.push { cls := .type "tuple", data := .seq #[Value.float a ta, .float b tb, .float c tc] }).objs.size = s.heap.objs.size + 1 := Heap.size_push ..
  refine with_tk (call_max_three (wpAny_pyIter_tuple three_tup ?_))
  refine ⟨_, [_, s.heap.objs.size], [_], 3, _, _, _, rfl, Walks.tuple (A := A.in1) hA _ s.heap.objs.size (by rw [hsz]; exact Nat.ne_of_lt (Nat.lt_succ_self _)) #[.float a ta, .float b tb, .float c tc],
    ⟨⟨_, Heap.get?_push_size _ rfl, rfl, rfl⟩, three_tup.push _⟩, ?_, Nat.zero_lt_succ _, cmp_three fgt rc_gt, ?_⟩
  · intro d hd
    show d < ((s.heap.push _).push _).objs.size
    rw [Heap.size_push, hsz]
    rcases List.mem_cons.mp hd with rfl | hd
    · rw [hsz]; exact Nat.lt_succ_self _
    · rcases List.mem_cons.mp hd with rfl | hd
      · exact Nat.lt_succ_of_lt (Nat.lt_succ_self _)
      · cases hd
  · intro v h' tk hP hk htk
    refine wp_three fgt h hP (fun d o e => hk d o ?_ (Heap.get?_push_of_some _ (Heap.get?_push_of_some _ e))) htk
    intro hm
    have h2 : d < s.heap.objs.size := Heap.lt_size e
    have h3 := List.mem_singleton.mp hm
    rw [hsz] at h3
    exact absurd h2 (by rw [h3]; exact Nat.not_lt.mpr (Nat.le_succ _))
theorem wp_min3 {a b c : UInt64} {ta tb tc : Tok} (hA : A.handled = none) (h : Q (.flt (fbest flt' a b c))) :
    wpAny (model prog w) A (call (.builtin "min") [.float a ta, .float b tb, .float c tc]) (Post s F Q) E s := by
  have hsz : (s.heap.push { cls := .type "tuple", data := .seq #[Value.float a ta, .float b tb, .float c tc] }).objs.size = s.heap.objs.size + 1 := Heap.size_push ..
  refine with_tk (call_min_three (wpAny_pyIter_tuple three_tup ?_))
  refine ⟨_, [_, s.heap.objs.size], [_], 3, _, _, _, rfl, Walks.tuple (A := A.in1) hA _ s.heap.objs.size (by rw [hsz]; exact Nat.ne_of_lt (Nat.lt_succ_self _)) #[.float a ta, .float b tb, .float c tc],
    ⟨⟨_, Heap.get?_push_size _ rfl, rfl, rfl⟩, three_tup.push _⟩, ?_, Nat.zero_lt_succ _, cmp_three flt' rc_lt, ?_⟩
  · intro d hd
    show d < ((s.heap.push _).push _).objs.size
    rw [Heap.size_push, hsz]
    rcases List.mem_cons.mp hd with rfl | hd
    · rw [hsz]; exact Nat.lt_succ_self _
    · rcases List.mem_cons.mp hd with rfl | hd
      · exact Nat.lt_succ_of_lt (Nat.lt_succ_self _)
      · cases hd
  · intro v h' tk hP hk htk
    refine wp_three flt' h hP (fun d o e => hk d o ?_ (Heap.get?_push_of_some _ (Heap.get?_push_of_some _ e))) htk
    intro hm
    have h2 : d < s.heap.objs.size := Heap.lt_size e
    have h3 := List.mem_singleton.mp hm
    rw [hsz] at h3
    exact absurd h2 (by rw [h3]; exact Nat.not_lt.mpr (Nat.le_succ _))
theorem wp_maxl {a : Addr} {n : Nat} {vs : List Value} {ds : List D} {xs : List Int} (hA : A.handled = none) (e : s.heap.get? a = some (lob vs n)) (r : VRs s F vs ds) (hx : intsOf ds = some xs) (hne : xs ≠ []) (h : Q (.int (imax xs))) :
    wpAny (model prog w) A (call (.builtin "max") [.ref a]) (Post s F Q) E s := by
  obtain ⟨ps, h1, h2⟩ := ints_items r hx
  have hlen : ps.length = xs.length := by rw [← h2, List.length_map]
  have hpos : 0 < ps.length := by
    rw [hlen]; cases xs with
    | nil => exact absurd rfl hne
    | cons => simp
  refine with_tk (max_intList (l := a) (xs := ps.toArray) hA ⟨_, e, rfl, n, by show Data.seq vs.toArray n = _; rw [h1]⟩ (by simpa using hpos) fun v h' tk hP hk htk => ?_)
  obtain ⟨t, rfl⟩ := intItems_at hP
  refine post_of (d := .int (imax xs)) h hk htk ?_
  rw [argBest_fold (numAt ps.toArray)]
  have hval : ∀ i, numAt ps.toArray i = xs.getD i 0 := by
    intro i
    rw [← h2]
    simp [numAt, List.getD_eq_getElem?_getD]
  have : ((List.range (ps.toArray.size - 1)).map fun i => numAt ps.toArray (i + 1)).foldl (fun m y => if y > m then y else m) (numAt ps.toArray 0) = imax xs := by
    simp only [hval, List.size_toArray, hlen]
    cases xs with
    | nil => exact absurd rfl hne
    | cons x l =>
      show List.foldl _ x ((List.range l.length).map fun i => l.getD i 0) = _
      rw [range_map_getD]; rfl
  rw [this]
  exact .int _ _

theorem wp_len {v : Value} {a : D} (r : VR s F v a) (h : onLT a (fun l => l.length ≤ 1048576 ∧ Q (.int l.length)) fun x => x.length ≤ 1048576 ∧ Q (.int x.length)) : wpAny (model prog w) A (call (.builtin "len") [v]) (Post s F Q) E s := by
  rcases onLT_v r h with ⟨b, n, vs, ds, rfl, e, _, r, h1, hq⟩ | ⟨x, t, rfl, h⟩
  · have hl := r.length
    refine Calls.call_len_list (items := vs.toArray) ⟨_, e, rfl, _, rfl⟩ (by rw [List.size_toArray, hl]; omega) ?_
    refine post_tok (k := 2) (d := .int ds.length) hq ?_
    rw [List.size_toArray, hl]
    exact .int _ _
  · exact wp_len_text h
theorem wp_min2 {v u : Value} {a b : D} (hA : A.handled = none) (r : VR s F v a) (r' : VR s F u b) (h : onI a fun a => onI b fun b => Q (.int (if b < a then b else a))) : wpAny (model prog w) A (call (.builtin "min") [v, u]) (Post s F Q) E s := by
  obtain ⟨a, t, rfl, h⟩ := onI_v r h
  obtain ⟨b, u, rfl, h⟩ := onI_v r' h
  refine with_tk (min_two_ints hA fun h' tk hk htk => ?_)
  by_cases c : b < a
  · rw [if_pos c] at h ⊢; exact post_of h hk htk (.int _ _)
  · rw [if_neg c] at h ⊢; exact post_of h hk htk (.int _ _)
theorem wp_max2 {v u : Value} {a b : D} (hA : A.handled = none) (r : VR s F v a) (r' : VR s F u b) (h : onI a fun a => onI b fun b => Q (.int (if b > a then b else a))) : wpAny (model prog w) A (call (.builtin "max") [v, u]) (Post s F Q) E s := by
  obtain ⟨a, t, rfl, h⟩ := onI_v r h
  obtain ⟨b, u, rfl, h⟩ := onI_v r' h
  refine with_tk (max_two_ints hA fun h' tk hk htk => ?_)
  by_cases c : b > a
  · rw [if_pos c] at h ⊢; exact post_of h hk htk (.int _ _)
  · rw [if_neg c] at h ⊢; exact post_of h hk htk (.int _ _)
theorem three_flt {vs : List Value} {ds : List D} {P : UInt64 → UInt64 → UInt64 → Prop} (r : VRs s F vs ds) (h : on3 ds fun a b c => onF a fun a => onF b fun b => onF c fun c => P a b c) : ∃ a b c t u v, vs = [.float a t, .float b u, .float c v] ∧ P a b c := by
  obtain ⟨x, y, z, rfl, h⟩ := on3_i h
  obtain ⟨v, u, t, rfl, r1, r2, r3⟩ := r.three_inv
  obtain ⟨a, t, rfl, h⟩ := onF_v r1 h
  obtain ⟨b, u, rfl, h⟩ := onF_v r2 h
  obtain ⟨c, v, rfl, h⟩ := onF_v r3 h
  exact ⟨a, b, c, t, u, v, rfl, h⟩
theorem min_inv {ds : List D} (h : pbi .min ds Q) : (∃ a b, ds = [a, b] ∧ onI a fun a => onI b fun b => Q (.int (if b < a then b else a))) ∨ on3 ds fun a b c => onF a fun a => onF b fun b => onF c fun c => Q (.flt (fbest flt' a b c)) := by
  cases ds with
  | nil => exact .inr h
  | cons a ds => cases ds with
    | nil => exact .inr h
    | cons b ds => cases ds with
      | nil => exact .inl ⟨a, b, rfl, h⟩
      | cons => exact .inr h
theorem max_inv {ds : List D} (h : pbi .max ds Q) : (∃ a, ds = [a] ∧ onL a fun l => (match intsOf l with | some xs => xs ≠ [] ∧ Q (.int (imax xs)) | none => False)) ∨ (∃ a b, ds = [a, b] ∧ onI a fun a => onI b fun b => Q (.int (if b > a then b else a))) ∨
    on3 ds fun a b c => onF a fun a => onF b fun b => onF c fun c => Q (.flt (fbest fgt a b c)) := by
  cases ds with
  | nil => exact .inr (.inr h)
  | cons a ds => cases ds with
    | nil => exact .inl ⟨a, rfl, h⟩
    | cons b ds => cases ds with
      | nil => exact .inr (.inl ⟨a, b, rfl, h⟩)
      | cons => exact .inr (.inr h)
theorem wp_bi {f : Bi} {vs : List Value} {ds : List D} (hA : A.handled = none) (r : VRs s F vs ds) (h : pbi f ds Q) : wpAny (model prog w) A (call f.v vs) (Post s F Q) E s := by
  cases f with
  | len =>
    obtain ⟨a, rfl, h⟩ := on1_i h
    obtain ⟨v, rfl, rv⟩ := r.one_inv
    exact wp_len rv h
  | min =>
    rcases min_inv h with ⟨a, b, rfl, h⟩ | h
    · obtain ⟨v, u, rfl, r, r'⟩ := r.two_inv
      exact wp_min2 hA r r' h
    · obtain ⟨a, b, c, t, u, v, rfl, h⟩ := three_flt (P := fun a b c => Q (.flt (fbest flt' a b c))) r h
      exact wp_min3 hA h
  | max =>
    rcases max_inv h with ⟨a, rfl, h⟩ | ⟨a, b, rfl, h⟩ | h
    · obtain ⟨v, rfl, rv⟩ := r.one_inv
      obtain ⟨b, n, vs, ds, rfl, e, _, rs, h⟩ := onL_v rv h
      cases hx : intsOf ds with
      | none => rw [hx] at h; exact h.elim
      | some xs => rw [hx] at h; exact wp_maxl hA e rs hx h.1 h.2
    · obtain ⟨v, u, rfl, r, r'⟩ := r.two_inv
      exact wp_max2 hA r r' h
    · obtain ⟨a, b, c, t, u, v, rfl, h⟩ := three_flt (P := fun a b c => Q (.flt (fbest fgt a b c))) r h
      exact wp_max3 hA h
  | int =>
    obtain ⟨a, rfl, h⟩ := on1_i h
    obtain ⟨v, rfl, rv⟩ := r.one_inv
    obtain ⟨x, t, rfl, h⟩ := onF_v rv h
    cases hd : Float64.decode x with
    | fin sg m e => rw [hd] at h; exact call_int_float hd (post_tok (k := 1) h (.int _ _))
    | _ => rw [hd] at h; exact h.elim
end
end Mp
end

section
open PySem PySem.W PyProof.Rows
set_option maxRecDepth 100000
namespace Mp

mutual
theorem VR.keep {s s' : Shared} {F F' : Addr → Prop} (tk : s.toks ≤ s'.toks) (hk : ∀ b o, ¬ F b → s.heap.get? b = some o → s'.heap.get? b = some o)
    (hf : ∀ a o, s.heap.get? a = some o → F' a → F a) : ∀ {v d}, VR s F v d → VR s' F' v d
  | _, _, .none => .none
  | _, _, .bool b => .bool b
  | _, _, .int i t => .int i t
  | _, _, .flt i t => .flt i t
  | _, _, .str i t => .str i t
  | _, _, .strt i t h0 h1 => .strt i t h0 (Nat.lt_of_lt_of_le h1 tk)
  | _, _, .list a n vs ds e nf r => .list a n vs ds (hk _ _ nf e) (fun x => nf (hf _ _ e x)) (VRs.keep tk hk hf r)
  | _, _, .tup a n vs ds e nf r => .tup a n vs ds (hk _ _ nf e) (fun x => nf (hf _ _ e x)) (VRs.keep tk hk hf r)
theorem VRs.keep {s s' : Shared} {F F' : Addr → Prop} (tk : s.toks ≤ s'.toks) (hk : ∀ b o, ¬ F b → s.heap.get? b = some o → s'.heap.get? b = some o)
    (hf : ∀ a o, s.heap.get? a = some o → F' a → F a) : ∀ {vs ds}, VRs s F vs ds → VRs s' F' vs ds
  | _, _, .nil => .nil
  | _, _, .cons x r => .cons (VR.keep tk hk hf x) (VRs.keep tk hk hf r)
end

theorem Kp.step {s s' : Shared} (k : Kp s s') {h' : Heap} {tk : Nat} (hk : ∀ b o, s.heap.get? b = some o → h'.get? b = some o) (ht : s.toks ≤ tk) : Kp s { s' with heap := h', toks := tk } :=
  ⟨hk, ht, k.os, k.gn⟩

section
variable {prog : Program} {w : World} {A : Around} {E : Value → Shared → Prop} {s : Shared} {F : Addr → Prop} {Q : D → Prop}

theorem some_ne {a b : Addr} {h : Heap} {o : Obj} (e : h.get? a = some o) (h' : h.objs.size ≤ b) : a ≠ b := by
  have := Heap.lt_size e; rintro rfl; exact absurd this (Nat.not_lt.mpr h')

/-! ## iterators -/
noncomputable def IterR (prog : Program) (w : World) (A : Around) (s s' : Shared) (F : Addr → Prop) (it : Value) (ds : List D) : Prop :=
  ∃ I fp P St, it = .ref I ∧ Walks prog w A I fp [I] ds.length P St ∧ St 0 s'.heap ∧ (∀ b ∈ fp, (∃ o, s'.heap.get? b = some o) ∧ ¬ F b) ∧ s.heap.get? I = none ∧ Kp s s' ∧
    (∀ i v, i < ds.length → P i v → ∃ d, ds[i]? = some d ∧ VR s F v d) ∧ (∀ i h, St i h → ∃ o, h.get? I = some o ∧ ∀ vs n, o.data ≠ .seq vs n)

noncomputable def chars (x : Str) : List D := x.cps.toList.map fun c => .str ⟨#[c]⟩

noncomputable def piter (a : D) (Q : List D → Prop) : Prop := match a with
  | .list ds => ds.length ≤ 1048576 ∧ Q ds
  | a => (match a.text with | some x => x.length ≤ 1048576 ∧ Q (chars x) | none => False)

theorem iter_text (hA : A.handled = none) (hF : Live s F) {x : Str} {t : Tok} {Q : List D → Prop} (h : x.length ≤ 1048576 ∧ Q (chars x)) :
    wpAny (model prog w) A (pyIter (.str x t)) (fun it s' => ∃ ds, (ds.length ≤ 1048576 ∧ Q ds) ∧ IterR prog w A s s' F it ds) E s := by
  have go : ∀ (o : Obj) (St : Nat → Heap → Prop), Walks prog w A s.heap.objs.size [s.heap.objs.size] [s.heap.objs.size] x.cps.size (SignAt x) St → St 0 (s.heap.push o) → (∀ i h, St i h → ∃ o, h.get? s.heap.objs.size = some o ∧ ∀ vs n, o.data ≠ .seq vs n) →
      ∃ ds, (ds.length ≤ 1048576 ∧ Q ds) ∧ IterR prog w A s { s with heap := s.heap.push o } F (.ref s.heap.objs.size) ds := by
    intro o St W hSt hO
    refine ⟨_, ⟨?_, h.2⟩, _, _, _, St, rfl, by simpa [chars] using W, hSt, ?_, fresh_none, ?_, ?_, hO⟩
    · simpa [chars, Str.length] using h.1
    · intro b hb
      rw [List.mem_singleton] at hb; subst hb
      exact ⟨let ⟨o', e', _⟩ := hO 0 _ hSt; ⟨o', e'⟩, hF.fresh⟩
    · exact Kp.of (push_keeps _) (Nat.le_refl _)
    · rintro i v _ ⟨c, u, hc, rfl⟩
      refine ⟨.str ⟨#[c]⟩, ?_, .str _ _⟩
      simp [chars, hc]
  cases ha : x.cps.all (· < 128)
  · exact wpAny_pyIter_wide ha (go _ _ (Walks.strWide hA _ x t) ⟨_, Heap.get?_push_size _ rfl, rfl, rfl⟩ fun i h st => let ⟨o, e, _, hd⟩ := st; ⟨o, e, fun vs n e' => by rw [hd] at e'; cases e'⟩)
  · exact wpAny_pyIter_ascii ha (go _ _ (Walks.strAscii hA _ x t) ⟨_, Heap.get?_push_size _ rfl, rfl, rfl⟩ fun i h st => let ⟨o, e, _, hd⟩ := st; ⟨o, e, fun vs n e' => by rw [hd] at e'; cases e'⟩)

theorem wp_iter (hA : A.handled = none) (hF : Live s F) {v : Value} {a : D} (ha : VR s F v a) {Q : List D → Prop} (h : piter a Q) :
    wpAny (model prog w) A (pyIter v) (fun it s' => ∃ ds, (ds.length ≤ 1048576 ∧ Q ds) ∧ IterR prog w A s s' F it ds) E s := by
  cases ha with
  | list l n vs ds e nf r =>
    have hlen := r.length
    refine wpAny_pyIter_list (items := vs.toArray) ⟨_, e, rfl, n, rfl⟩ ⟨_, h, s.heap.objs.size, _, _, _, rfl,
      by have := Walks.list (prog := prog) (w := w) hA s.heap.objs.size l (some_ne e (Nat.le_refl _)) vs.toArray; simpa [hlen] using this, ?_, ?_, fresh_none, ?_, ?_, ?_⟩
    · exact ⟨⟨_, Heap.get?_push_size _ rfl, rfl, rfl⟩, ⟨_, Heap.get?_push_of_some _ e, rfl, n, rfl⟩⟩
    · intro b hb
      rcases List.mem_cons.mp hb with rfl | hb
      · exact ⟨⟨_, Heap.get?_push_size _ rfl⟩, hF.fresh⟩
      · rw [List.mem_singleton] at hb; subst hb
        exact ⟨⟨_, Heap.get?_push_of_some _ e⟩, nf⟩
    · exact Kp.of (push_keeps _) (Nat.le_refl _)
    · intro i v _ hv
      exact r.get' i v (by simpa using hv)
    · rintro i h ⟨⟨o, ho, _, hd⟩, _⟩
      exact ⟨o, ho, fun vs n e' => by rw [hd] at e'; cases e'⟩
  | str x t => exact iter_text hA hF h
  | strt x t _ _ => exact iter_text hA hF h
  | _ => exact h.elim

noncomputable def irange (a b : Int) : List D := (List.range (b - a).toNat).map fun i => .int (a + (i : Nat))

/-- a range object, and its iterator -/
theorem wp_range_iter (hA : A.handled = none) (hF : Live s F) {r : Addr} {a b : Int} {t u v : Tok} (hr : IsRange s.heap r a b 1 t u v) (ha : small a) (hb : small b) (hn : (b - a).toNat ≤ 1048576) {Q : List D → Prop} (h : Q (irange a b)) :
    wpAny (model prog w) A (pyIter (.ref r)) (fun it s' => ∃ ds, (ds.length ≤ 1048576 ∧ Q ds) ∧ IterR prog w A s s' F it ds) E s := by
  unfold small at ha hb
  have hsz : Builtin.Range.rangeSize a b 1 = ((b - a).toNat : Int) := rangeSize_nat a b
  have hsm : Builtin.Range.small a b 1 = true := small_one (by omega) (by omega) (by omega) (by omega)
  refine wpAny_pyIter_range hr hsm ⟨_, ⟨by simpa [irange] using hn, h⟩, s.heap.objs.size, _, _, _, rfl, by have := Walks.range (prog := prog) (w := w) hA s.heap.objs.size a 1 (b - a).toNat; simpa [irange] using this, ?_, ?_, fresh_none, ?_, ?_, ?_⟩
  · show IsRangeIter _ _ _ _ _
    have e := Heap.get?_push_size s.heap (o := { cls := .type "range_iterator", data := .fields #[rawInt a, rawInt (Builtin.Range.rangeSize a b 1), rawInt 1] }) rfl
    rw [hsz] at e ⊢
    simpa using e
  · intro b hb
    rw [List.mem_singleton] at hb; subst hb
    exact ⟨⟨_, Heap.get?_push_size _ rfl⟩, hF.fresh⟩
  · exact Kp.of (push_keeps _) (Nat.le_refl _)
  · rintro i v hi ⟨t, rfl⟩
    have hi' : i < (b - a).toNat := by simpa [irange] using hi
    refine ⟨.int (a + i), by simp [irange, hi'], ?_⟩
    exact (Int.mul_one (i : Int)).symm ▸ .int _ _
  · intro i h st
    exact ⟨_, st, fun vs n e' => by cases e'⟩

/-! ## comprehensions -/
noncomputable def pcompif (c : D → (Bool → Prop) → Prop) (f : D → (D → Prop) → Prop) : List D → (List D → Prop) → Prop
  | [], Q => Q []
  | d :: ds, Q => c d fun t => if t = true then f d fun y => pcompif c f ds fun ys => Q (y :: ys) else pcompif c f ds Q

noncomputable def F1 (F : Addr → Prop) (acc C I : Addr) : Addr → Prop := fun a => F a ∨ a = acc ∨ a = C ∨ a = I

theorem comp_core {env : Env} {cl : List (Str × Addr)} {scope : Scope} {x : Str} {px pos : Pos} {iter elt : Expr} {ifs : List Expr} {s s₂ : Shared} {it : Value} {ds : List D}
    {c : D → (Bool → Prop) → Prop} {f : D → (D → Prop) → Prop} {Qd : List D → Prop} {RR : Value → Addr → Result → Shared → Prop}
    (hF : Live s F) (hcell : ∀ y ∈ scope.names, y.2 ≠ .cell) (hkind : scope.kind = .function) (hx : scope.names.lookup x = some .local)
    (hit : IterR prog w A s s₂ F it ds) (hlen : ds.length ≤ 1048576)
    (htests : ∀ acc C I v d s₃ m₃ (Qb : Bool → Prop) E', Kp s s₃ → Live s₃ (F1 F acc C I) → s.heap.get? acc = none → s.heap.get? C = none → s.heap.get? I = none → s₃.heap.Ns C m₃ → m₃ x = some v → VR s₃ (F1 F acc C I) v d → c d Qb →
      wpAny (model prog w) A (forIn ifs true fun c r => if r = true then do let ok ← isTrue c (compEnvC scope cl C env) (eval c (compEnvC scope cl C env)); pure (ForInStep.yield ok) else pure (ForInStep.yield r))
        (fun ok s₄ => Qb ok ∧ Kp s₃ s₄) E' s₃)
    (helt : ∀ acc C I v d s₃ m₃ (Qy : D → Prop) E', Kp s s₃ → Live s₃ (F1 F acc C I) → s.heap.get? acc = none → s.heap.get? C = none → s.heap.get? I = none → s₃.heap.Ns C m₃ → m₃ x = some v → VR s₃ (F1 F acc C I) v d → f d Qy →
      wpAny (model prog w) A (eval elt (compEnvC scope cl C env)) (Post s₃ (F1 F acc C I) Qy) E' s₃)
    (hRR : ∀ acc C I s' m' vs n ys, s.heap.get? acc = none → s.heap.get? C = none → s.heap.get? I = none → acc ≠ C → s'.heap.Ns C m' → s'.heap.get? acc = some (lob vs n) → VRs s' (F1 F acc C I) vs ys → Qd ys → Kp s s' →
      RR (.ref acc) C (.ok .next) s')
    (h : pcompif c f ds Qd) :
    wpAny (model prog w) A (newList []) (fun acc s₃ => wpAny (model prog w) A (newFunctionEnv scope env.globals cl [] env.qual none .none (some env)) (fun cenv s₄ =>
      codeAny (model prog w) A (.compStart (.ListComp elt [⟨.Name x px, iter, ifs, 0⟩] scope pos) 0 it acc { cenv with scope := relabel scope env }) (RR acc cenv.locals) s₄) E s₃) E s₂ := by
  obtain ⟨I, fp, P, St, rfl, W, hst, hfp', hwr, hk, hP, hIo⟩ := hit
  have hfp : ∀ b ∈ fp, b < s₂.heap.objs.size ∧ ¬ F b := fun b hb => let ⟨⟨_, e⟩, h⟩ := hfp' b hb; ⟨Heap.lt_size e, h⟩
  clear hfp'
  refine wpAny_newObj_type (wpAny_newFunctionEnv hcell (by intro y hy; simp at hy) (fun h₁ hns₁ hsb₁ => ?_) hkind)
  dsimp only at hns₁ hsb₁ ⊢
  generalize hH2 : s₂.heap.push { cls := .type "list", dict := none, data := .seq ([] : List Value).toArray } = H2 at hns₁ hsb₁ ⊢
  have fr₂ : ∀ a, s₂.heap.objs.size ≤ a → s.heap.get? a = none := fun a ha => by
    cases e : s.heap.get? a with
    | none => rfl
    | some o => exact absurd (Heap.lt_size (hk.hp _ _ e)) (Nat.not_lt.mpr ha)
  generalize hacc : s₂.heap.objs.size = acc at *
  have hC : H2.objs.size = acc + 1 := by rw [← hH2, Heap.size_push, hacc]
  generalize hCC : H2.objs.size = C at *
  have hna : s.heap.get? acc = none := fr₂ _ (Nat.le_refl _)
  have hnC : s.heap.get? C = none := fr₂ _ (by omega)
  have hDC : acc ≠ C := by omega
  have old₂ : ∀ b o, s₂.heap.get? b = some o → h₁.get? b = some o := fun b o e => by
    have hb := Heap.lt_size e
    rw [hacc] at hb
    exact hsb₁.extBut b o (Nat.ne_of_lt (Nat.lt_trans hb (hC ▸ Nat.lt_succ_self _))) (Heap.get?_push_of_some _ (hH2 ▸ Heap.get?_push_of_some _ e))
  have hacc₁ : h₁.get? acc = some (lob [] 0) := by
    refine hsb₁.extBut _ _ hDC (Heap.get?_push_of_some _ ?_)
    rw [← hH2, ← hacc]; exact Heap.get?_push_size _ rfl
  have hst₁ : St 0 h₁ := W.frame _ _ _ hst fun b _ o e => old₂ b o e
  have hdf : ∀ b ∈ fp, b ≠ acc ∧ b ≠ C := fun b hb => ⟨Nat.ne_of_lt (hfp b hb).1, Nat.ne_of_lt (Nat.lt_trans (hfp b hb).1 (hC ▸ Nat.lt_succ_self _))⟩
  have hIf : I ≠ acc ∧ I ≠ C := hdf I (W.sub I (List.mem_singleton.mpr rfl))
  have nI : ∀ {b : Addr}, b ≠ I → b ∉ [I] := fun h hm => h (List.mem_singleton.mp hm)
  -- the walk
  have loop : ∀ s₃ : Shared, s₃ = { s₂ with heap := h₁, toks := s₂.toks + ([] : List (Str × Value)).length } →
      codeAny (model prog w) A (.compLoop (.ListComp elt [⟨.Name x px, iter, ifs, 0⟩] scope pos) 0 (.ref I) (.ref acc) (compEnvC scope cl C env)) (RR (.ref acc) C) s₃ := by
    rintro s₃ rfl
    refine codeAny_compLoop_tests (fun n s' => ∃ i m' vs k ys, i + n = ds.length ∧ St i s'.heap ∧ s'.heap.get? acc = some (lob vs k) ∧ vs.length ≤ i ∧ VRs s' (F1 F acc C I) vs ys ∧ s'.heap.Ns C m' ∧ Kp s s' ∧
        pcompif c f (ds.drop i) (fun rest => Qd (ys ++ rest))) ?_ ds.length
      ⟨0, _, [], 0, [], by omega, hst₁, hacc₁, by simp, .nil, hns₁, ?_, by simpa using h⟩
    · rintro n s' ⟨i, m', vs, k, ys, hin, hst', hac, hvs, hr, hns, hkp, hp⟩
      cases n with
      | zero =>
        have hi : i = ds.length := by omega
        subst hi
        refine wpAny_with_toks (Nat.le_refl _) (W.done _ _ _ hst' fun h' tk hk' htk => ?_)
        rw [List.drop_length] at hp
        refine hRR acc C I _ m' vs k ys hna hnC hwr hDC (hns.at' fun o e => hk' _ o (nI (Ne.symm hIf.2)) e) (hk' _ _ (nI (Ne.symm hIf.1)) hac)
          (hr.keep htk (fun b o hb e => hk' b o (nI fun e' => hb (by simp [F1, e'])) e) fun _ _ _ h => h) (by simpa [pcompif] using hp)
          (hkp.step (fun b o e => hk' b o (nI fun e' => by rw [e', hwr] at e; cases e) (hkp.hp _ _ e)) (Nat.le_trans hkp.tk htk))
      | succ n =>
        have hi : i < ds.length := by omega
        refine wpAny_with_toks (Nat.le_refl _) (W.item i _ _ _ hi hst' fun v h' tk hPv hst₂ hk' htk => ?_)
        obtain ⟨d, hd, hv⟩ := hP i v hi hPv
        refine wpAny_assign_Name (wpAny_storeName_local (lookup_relabel_local hx) (hns.at' fun o e => hk' _ o (nI (Ne.symm hIf.2)) e) (fun h₂ hn₂ hs₂ => ?_) (by simp [compEnvC, relabel, hkind]))
        have hk₂ : ∀ b o, b ≠ C → b ≠ I → s'.heap.get? b = some o → h₂.get? b = some o := fun b o h1 h2 e => hs₂.extBut b o h1 (hk' b o (nI h2) e)
        have hkp₂ : Kp s { s' with heap := h₂, toks := tk + 1 } := hkp.step (fun b o e => hk₂ b o (fun e' => by rw [e', hnC] at e; cases e) (fun e' => by rw [e', hwr] at e; cases e) (hkp.hp _ _ e)) (Nat.le_succ_of_le (Nat.le_trans hkp.tk htk))
        have hst₃ : St (i + 1) h₂ := W.frame _ _ _ hst₂ fun b hb o e => hs₂.extBut b o (hdf b hb).2 e
        have hac₂ : h₂.get? acc = some (lob vs k) := hk₂ _ _ hDC (Ne.symm hIf.1) hac
        have hr₂ : VRs { s' with heap := h₂, toks := tk + 1 } (F1 F acc C I) vs ys := hr.keep (Nat.le_succ_of_le htk) (fun b o hb e => hk₂ b o (fun e' => hb (by simp [F1, e'])) (fun e' => hb (by simp [F1, e'])) e) fun _ _ _ h => h
        have hlive₂ : Live { s' with heap := h₂, toks := tk + 1 } (F1 F acc C I) := by
          rintro a (ha | rfl | rfl | rfl)
          · obtain ⟨o, e⟩ := hF a ha; exact ⟨o, hkp₂.hp _ _ e⟩
          · exact ⟨_, hac₂⟩
          · obtain ⟨o, _, _, e, _⟩ := hn₂; exact ⟨o, e⟩
          · obtain ⟨o, e, _⟩ := hIo _ _ hst₃; exact ⟨o, e⟩
        have hv₂ : VR { s' with heap := h₂, toks := tk + 1 } (F1 F acc C I) v d := hv.mono hkp₂ fun a o e ha => by
          rcases ha with ha | rfl | rfl | rfl
          · exact ha
          · rw [hna] at e; cases e
          · rw [hnC] at e; cases e
          · rw [hwr] at e; cases e
        have hdrop : ds.drop i = d :: ds.drop (i + 1) := by
          have := List.drop_eq_getElem_cons hi
          rw [this]
          rw [List.getElem?_eq_getElem hi] at hd
          simp at hd; rw [hd]
        rw [hdrop] at hp
        refine wpAny_mono (htests acc C I v d _ _ _ _ hkp₂ hlive₂ hna hnC hwr hn₂ (by simp) hv₂ hp) (fun ok s₃ h₃ => ?_) fun _ _ e => e
        obtain ⟨h₃, hk₃⟩ := h₃
        cases ok with
        | false =>
          rw [if_neg (by simp)] at h₃ ⊢
          exact ⟨n, Nat.lt_succ_self _, i + 1, _, vs, k, ys, by omega, W.frame _ _ _ hst₃ fun b _ o e => hk₃.hp _ _ e, hk₃.hp _ _ hac₂, by omega, hr₂.up hk₃, hn₂.keeps hk₃.hp, hkp₂.trans hk₃, h₃⟩
        | true =>
          rw [if_pos rfl] at h₃ ⊢
          refine wpAny_mono (helt acc C I v d s₃ _ _ _ (hkp₂.trans hk₃) (hlive₂.up hk₃) hna hnC hwr (hn₂.keeps hk₃.hp) (by simp) (hv₂.up hk₃) h₃) (fun y s₄ h₄ => ?_) fun _ _ e => e
          obtain ⟨y', h₄, hy, hk₄⟩ := h₄
          have hk₅ := hk₃.trans hk₄
          have hac₄ := hk₅.hp _ _ hac₂
          refine wpAny_list_append_plain (items := vs.toArray) ⟨k, hac₄⟩ (fun h₅ ⟨k', hpl⟩ hs₅ => ?_) (by simp; exact Nat.le_trans (by omega : vs.length ≤ 1048576) (by decide))
          have hk₆ : ∀ b o, b ≠ acc → s₄.heap.get? b = some o → h₅.get? b = some o := fun b o hb e => hs₅.extBut b o hb e
          refine ⟨n, Nat.lt_succ_self _, i + 1, _, vs ++ [y], k', ys ++ [y'], by omega, W.frame _ _ _ hst₃ fun b hb o e => hk₆ _ _ (hdf b hb).1 (hk₅.hp _ _ e), by simpa using hpl, by simp; omega, ?_,
            (hn₂.keeps hk₅.hp).at' fun o e => hk₆ _ _ (Ne.symm hDC) e, ?_, by simpa using h₄⟩
          · exact VRs.keep (s := s₄) (s' := { s₄ with heap := h₅ }) (Nat.le_refl _) (fun b o hb e => hk₆ b o (fun e' => hb (by simp [F1, e'])) e) (fun _ _ _ h => h) ((hr₂.up hk₅).append (.cons hy .nil))
          · exact (hkp₂.trans hk₅).step (fun b o e => hk₆ b o (fun e' => by rw [e', hna] at e; cases e) ((hkp₂.trans hk₅).hp _ _ e)) (hkp₂.trans hk₅).tk
    · exact hk.step (fun b o e => old₂ b o (hk.hp b o e)) hk.tk
  exact codeAny_compStart_list (loop _ rfl) (W.self 0 _ _ _ hst₁ (loop _ rfl))
end
end Mp
end

section
open PySem PySem.W PyProof.Rows
set_option maxRecDepth 100000
namespace Mp
open PySem.Builtin PySem.Builtin.Str
section
variable {prog : Program} {w : World} {A : Around} {E : Value → Shared → Prop} {s : Shared} {F : Addr → Prop} {Q : D → Prop}

inductive Me where
  | split | startswith | endswith | find | replace | index | join

noncomputable def Me.name : Me → Str
  | .split => "split" | .startswith => "startswith" | .endswith => "endswith" | .find => "find" | .replace => "replace" | .index => "index" | .join => "join"
noncomputable def Me.id : Me → String
  | .split => "str.split" | .startswith => "str.startswith" | .endswith => "str.endswith" | .find => "str.find" | .replace => "str.replace" | .index => "str.index" | .join => "str.join"

theorem wp_getm {x : Str} {t : Tok} {pl : Sem Bool} (m : Me) {Q : Value × List Value → Shared → Prop} (h : Q (.builtin m.id, [.str x t]) s) : wpAny (model prog w) A (getMethod (.str x t) m.name pl) Q E s := by
  cases m with
  | split => exact GM.split h
  | startswith => exact GM.startswith h
  | endswith => exact GM.endswith h
  | find => exact GM.find h
  | replace => exact GM.replace h
  | index => exact GM.index h
  | join => exact GM.join h

noncomputable def textsOf : List D → Option (List Str)
  | [] => some []
  | d :: l => match d.text, textsOf l with | some x, some r => some (x :: r) | _, _ => none

noncomputable def occ1 (l : List Nat) : Int := match l with | k :: _ => (k : Int) | [] => -1
noncomputable def pmeth (m : Me) (a : D) (ds : List D) (Q : D → Prop) : Prop := match m with
  | .split => on1 ds fun b => onT a fun x => onT b fun y => (y.length ≠ 0 ∧ x.length ≤ 1048576) ∧ Q (.list ((Txt.split x y).map D.str))
  | .startswith => on1 ds fun b => onT a fun x => onT b fun y => Q (.bool (Txt.startswith x y))
  | .endswith => on1 ds fun b => onT a fun x => onT b fun y => Q (.bool (Txt.endswith x y))
  | .index => on1 ds fun b => onT a fun x => onT b fun y => occurrences x y 0 x.length 1 ≠ [] ∧ Q (.int (occ1 (occurrences x y 0 x.length 1)))
  | .find => on3 ds fun b i j => onI i fun i => onI j fun j => onT a fun x => onT b fun y => (0 ≤ i ∧ 0 ≤ j ∧ j ≤ x.length) ∧ Q (.int (occ1 (occurrences x y i.toNat j.toNat 1)))
  | .replace => on2 ds fun b c => (match b, c with
    | .strt y t, .strt z u => onT a fun x => (t ≠ u ∧ x.length ≤ 1048576 ∧ z.length ≤ 14) ∧ Q (.str (Txt.replace x y z))
    | _, _ => False)
  | .join => on1 ds fun b => onL b fun l => onT a fun x => (match textsOf l with | some r => JoinOk x r = true ∧ Q (.str (Txt.join x r)) | none => False)

theorem VRs_strs : ∀ (l : List (Str × Tok)), VRs s F (strValues l) ((l.map (·.1)).map D.str)
  | [] => .nil
  | (_, _) :: r => .cons (.str _ _) (VRs_strs r)

theorem texts_values {ds : List D} : ∀ {vs : List Value} {r : List Str}, VRs s F vs ds → textsOf ds = some r → ∃ l, vs = strValues l ∧ l.map (·.1) = r := by
  induction ds with
  | nil =>
    intro vs r hv h
    cases hv
    exact ⟨[], rfl, Option.some.inj h⟩
  | cons d ds ih =>
    intro vs r hv h
    cases hv with
    | cons x hv =>
      have h : (match d.text, textsOf ds with | some x, some r => some (x :: r) | _, _ => none) = some r := h
      cases hd : d.text with
      | none => rw [hd] at h; cases h
      | some y =>
        cases hs : textsOf ds with
        | none => rw [hd, hs] at h; cases h
        | some ys =>
          rw [hd, hs] at h
          obtain ⟨t, rfl⟩ := x.text hd
          obtain ⟨l, h1, h2⟩ := ih hv hs
          exact ⟨(y, t) :: l, by rw [h1]; rfl, by rw [List.map_cons, h2]; exact Option.some.inj h⟩

theorem gives_find4 (x y : Str) (i j : Int) (t u v z : Tok) : Gives («str.find» ⟨[.str x t, .str y u, .int i v, .int j z], []⟩) (.int (occ1 (occurrences x y (fromIndex x.length i) (min (fromIndex x.length j) x.length) 1))) := by
  show Gives (match occurrences x y (fromIndex x.length i) (min (fromIndex x.length j) x.length) 1 with | k :: _ => retInt k | [] => (do rule "str.find.not-found"; retInt (-1))) _
  cases occurrences x y (fromIndex x.length i) (min (fromIndex x.length j) x.length) 1 with
  | nil => exact .rule (.of_eq rfl)
  | cons k _ => exact .of_eq rfl

theorem call_split0 {x y : Str} {t u : Tok} {Q : Value → Shared → Prop} (hy : y.length ≠ 0) (hx : x.length ≤ 1048576)
    (one : ∀ (l : List (Str × Tok)) tk, s.toks ≤ tk → l.map (·.1) = Txt.split x y → Q (.ref s.heap.objs.size) { s with heap := s.heap.push { cls := .type "list", data := .seq (strValues l).toArray }, toks := tk }) :
    wpAny (model prog w) A (call (.builtin "str.split") [.str x t, .str y u]) Q E s := by
  have hy0 : (y.length == 0) = false := by simpa using hy
  have hxs : x.length ≤ sizeLine := Nat.le_trans hx (by decide)
  have hps : (partsBetween x (occurrences x y 0 x.length (x.length + 1)) y.length).length ≤ sizeLine := by
    rw [length_partsBetween]
    have := StrLaws.occ_length_le x y 0 x.length (x.length + 1)
    exact Nat.le_trans (by omega : _ ≤ 1048578) (by decide)
  cases h1 : (decide (x.length < y.length) || decide (strKind x < strKind y))
  · cases hf : (occurrences x y 0 x.length (x.length + 1)).isEmpty
    · refine call_meets PySem.F.slot_str_split (typeIs_str _ _ _) PySem.F.entry_str_split (PySem.F.args_str_split_2 _ _) (meets_str_split_sep x y t u h1 hy0 hf hxs hps) ?_
      show wants _ E _ { s with toks := _, heap := s.heap.push { cls := .type "list", data := .seq (strsFrom s.toks (partsBetween x (occurrences x y 0 x.length (x.length + 1)) y.length)).toArray } }
      rw [strsFrom_eq]
      exact one _ _ (Nat.le_add_right _ _) ((numbered_texts _ _).trans ((if_neg (ne_true_of_eq_false h1)).trans (if_neg (ne_true_of_eq_false hf))).symm)
    · exact call_meets PySem.F.slot_str_split (typeIs_str _ _ _) PySem.F.entry_str_split (PySem.F.args_str_split_2 _ _) (meets_str_split_not_found x y t u h1 hy0 hf)
        (one [(x, t)] s.toks (Nat.le_refl _) ((if_neg (ne_true_of_eq_false h1)).trans (if_pos hf)).symm)
  · exact call_meets PySem.F.slot_str_split (typeIs_str _ _ _) PySem.F.entry_str_split (PySem.F.args_str_split_2 _ _) (meets_str_split_cannot_occur x y t u h1)
      (one [(x, t)] s.toks (Nat.le_refl _) (if_pos h1).symm)

theorem call_split {x y : Str} {t u : Tok} (hF : Live s F) (hy : y.length ≠ 0) (hx : x.length ≤ 1048576) (h : Q (.list ((Txt.split x y).map D.str))) :
    wpAny (model prog w) A (call (.builtin "str.split") [.str x t, .str y u]) (Post s F Q) E s := by
  refine call_split0 hy hx fun l tk htk hl => ?_
  rw [← hl] at h
  have k : Kp s { s with heap := s.heap.push { cls := .type "list", data := .seq (strValues l).toArray }, toks := tk } := Kp.of (push_keeps _) htk
  exact ⟨_, h, .list _ 0 _ _ (Heap.get?_push_size _ rfl) hF.fresh (VRs_strs l), k⟩

theorem wp_find {x y : Str} {i j : Int} {t u v z : Tok} (h0 : 0 ≤ i) (h1 : 0 ≤ j) (h2 : j ≤ x.length) (hq : Q (.int (occ1 (occurrences x y i.toNat j.toNat 1)))) :
    wpAny (model prog w) A (call (.builtin "str.find") [.str x t, .str y u, .int i v, .int j z]) (Post s F Q) E s := by
  have e1 : fromIndex x.length i = i.toNat := by unfold fromIndex; rw [if_neg (Int.not_lt.mpr h0), Int.max_eq_right h0]
  have e2 : min (fromIndex x.length j) x.length = j.toNat := by unfold fromIndex; rw [if_neg (Int.not_lt.mpr h1), Int.max_eq_right h1]; exact Nat.min_eq_left (Int.toNat_le.mpr h2)
  refine call_gives PySem.F.slot_str_find (typeIs_str _ _ _) PySem.F.entry_str_find (PySem.F.args_str_find_4 _ _ _ _) (gives_find4 x y i j _ _ _ _) (post_tok (k := 1) (d := .int _) hq ?_)
  rw [e1, e2]
  exact .int _ _
theorem index_find {x y : Str} {t u : Tok} (hne : occurrences x y 0 x.length 1 ≠ []) (h : Q (.int (occ1 (occurrences x y 0 x.length 1)))) : wpAny (model prog w) A (call (.builtin "str.index") [.str x t, .str y u]) (Post s F Q) E s := by
  cases ho : occurrences x y 0 x.length 1 with
  | nil => exact absurd ho hne
  | cons k rest => rw [ho] at h; exact SC.index ho (post_tok (k := 1) h (.int _ _))
theorem repl_inv {a b c : D} {v v' : Value} (rb : VR s F v b) (rc : VR s F v' c) (h : match (generalizing := false) b, c with
    | .strt y t, .strt z u => onT a fun x => (t ≠ u ∧ x.length ≤ 1048576 ∧ z.length ≤ 14) ∧ Q (.str (Txt.replace x y z))
    | _, _ => False) : ∃ y t z u, v = .str y t ∧ v' = .str z u ∧ t ≠ 0 ∧ u ≠ 0 ∧ onT a fun x => (t ≠ u ∧ x.length ≤ 1048576 ∧ z.length ≤ 14) ∧ Q (.str (Txt.replace x y z)) := by
  cases rb with
  | strt y t h0 _ =>
    cases rc with
    | strt z u h1 _ => exact ⟨y, t, z, u, rfl, rfl, h0, h1, h⟩
    | _ => exact False.elim h
  | _ => exact False.elim h

theorem tt_inv {va : Value} {vs : List Value} {a : D} {ds : List D} {P : Str → Str → Prop} (ha : VR s F va a) (hs : VRs s F vs ds) (h : on1 ds fun b => onT a fun x => onT b fun y => P x y) : ∃ x t y u, va = .str x t ∧ vs = [.str y u] ∧ P x y := by
  obtain ⟨b, rfl, h⟩ := on1_i h
  obtain ⟨v, rfl, rb⟩ := hs.one_inv
  obtain ⟨x, t, e1, h⟩ := onT_v ha h
  obtain ⟨y, u, rfl, h⟩ := onT_v rb h
  exact ⟨x, t, y, u, e1, rfl, h⟩

theorem wp_meth {m : Me} {va : Value} {vs : List Value} {a : D} {ds : List D} (hF : Live s F) (hnb : NoneBooked s.heap) (ha : VR s F va a) (hs : VRs s F vs ds) (h : pmeth m a ds Q) :
    wpAny (model prog w) A (call (.builtin m.id) (va :: vs)) (Post s F Q) E s := by
  cases m with
  | split =>
    obtain ⟨x, t, y, u, e1, e2, h⟩ := tt_inv ha hs h
    rw [e1, e2]
    exact call_split hF h.1.1 h.1.2 h.2
  | startswith =>
    obtain ⟨x, t, y, u, e1, e2, h⟩ := tt_inv ha hs h
    rw [e1, e2]
    exact SC.startswith (post_here h (.bool _))
  | endswith =>
    obtain ⟨x, t, y, u, e1, e2, h⟩ := tt_inv ha hs h
    rw [e1, e2]
    exact SC.endswith (post_here h (.bool _))
  | index =>
    obtain ⟨x, t, y, u, e1, e2, h⟩ := tt_inv ha hs h
    rw [e1, e2]
    exact index_find h.1 h.2
  | find =>
    obtain ⟨b, i, j, rfl, h⟩ := on3_i h
    obtain ⟨vb, vi, vj, rfl, rb, ri, rj⟩ := hs.three_inv
    obtain ⟨i, ti, rfl, h⟩ := onI_v ri h
    obtain ⟨j, tj, rfl, h⟩ := onI_v rj h
    obtain ⟨x, t, rfl, h⟩ := onT_v ha h
    obtain ⟨y, u, rfl, h⟩ := onT_v rb h
    exact wp_find h.1.1 h.1.2.1 h.1.2.2 h.2
  | replace =>
    obtain ⟨b, c, rfl, h⟩ := on2_i h
    obtain ⟨vb, vc, rfl, rb, rc⟩ := hs.two_inv
    obtain ⟨y, t, z, u, rfl, rfl, h0, h1, h⟩ := repl_inv rb rc h
    obtain ⟨x, t', rfl, ⟨h2, h3, h4⟩, hq⟩ := onT_v ha h
    refine with_tk (SC.replaceA h0 h1 h2 ?_ (fun t' k hk => post_of hq (fun _ _ e => e) hk (.str _ _)) hnb)
    have : (x.length + 1) * z.length ≤ (x.length + 1) * 14 := Nat.mul_le_mul_left _ h4
    omega
  | join =>
    obtain ⟨b, rfl, h⟩ := on1_i h
    obtain ⟨v, rfl, rb⟩ := hs.one_inv
    obtain ⟨a', n, us, l, rfl, e, _, hvs, h⟩ := onL_v rb h
    obtain ⟨x, t, rfl, h⟩ := onT_v ha h
    cases hr : textsOf l with
    | none => rw [hr] at h; exact h.elim
    | some r =>
      rw [hr] at h
      obtain ⟨l', rfl, hl⟩ := texts_values hvs hr
      exact with_tk (SC.join (D := a') (l := l') ⟨_, e, rfl, n, rfl⟩ hl h.1 fun t' k hk => post_of h.2 (fun _ _ e => e) hk (.str _ _))
end
end Mp
end

section
open PySem PySem.W PyProof.Rows
set_option maxRecDepth 100000
namespace Mp

/-! ## the little expressions -/
structure Gt where
  vals : List (Str × Str)
  bis : List (Str × Bi)
  fns : List (Str × (List D → (D → Prop) → Prop))

noncomputable abbrev Vs := List (Option D)

inductive I where
  | cst (d : D)
  | neg (i : Int)
  | var (k : Nat)
  | gval (k : Nat)
  | bin (op : Operator) (a b : I)
  | cmp (op : CmpOp) (a b : I)
  | ite (c a b : I)
  | and (a b : I)
  | or (a b : I)
  | one (a : I)
  | isint (a : I)
  | bi (k : Nat) (as : List I)
  | fn (k : Nat) (as : List I)
  | meth (m : Me) (a : I) (as : List I)
  | item (a i : I)
  | slA (a : I)
  | slL (a i : I)
  | slU (a i : I)
  | lst (as : List I)
  | tup (as : List I)
  | rng (as : List I)
  | comp (out : List Nat) (elt it : I)
  | compif (out : List Nat) (elt it c : I)

noncomputable def frm : Vs → Tok → Prop
  | [], _ => True
  | some (.strt _ u) :: r, t => u ≠ t ∧ frm r t
  | _ :: r, t => frm r t

noncomputable def pisint (d : D) (Q : D → Prop) : Prop := onI d fun _ => Q (.bool true)

noncomputable def inner (m : Vs) (out : List Nat) (d : D) : Vs := some d :: out.map fun k => m.getD k none

noncomputable def prng (ds : List D) (Q : List D → Prop) : Prop := on12 ds (fun b => onI b fun b => (small b ∧ b.toNat ≤ 1048576) ∧ Q (irange 0 b)) fun a b => onI a fun a => onI b fun b => (small a ∧ small b ∧ (b - a).toNat ≤ 1048576) ∧ Q (irange a b)

mutual
noncomputable def pe (G : Gt) : I → Vs → (D → Prop) → Prop
  | .cst d, _, Q => Q d
  | .neg i, _, Q => Q (.int (-i))
  | .var k, m, Q => (match m[k]? with | some (some d) => Q d | _ => False)
  | .gval k, _, Q => (match G.vals[k]? with | some p => Q (.str p.2) | none => False)
  | .bin op a b, m, Q => pe G a m fun x => pe G b m fun y => pbin op x y Q
  | .cmp op a b, m, Q => pe G a m fun x => pe G b m fun y => pcmp op x y Q
  | .ite c a b, m, Q => pt G c m fun t => if t = true then pe G a m Q else pe G b m Q
  | .and a b, m, Q => pe G a m fun d => ptruth d fun t => if t = true then pe G b m Q else Q d
  | .or a b, m, Q => pe G a m fun d => ptruth d fun t => if t = true then Q d else pe G b m Q
  | .one a, m, Q => pe G a m Q
  | .isint a, m, Q => pe G a m fun d => pisint d Q
  | .bi k as, m, Q => pes G as m fun ds => (match G.bis[k]? with | some p => pbi p.2 ds Q | none => False)
  | .fn k as, m, Q => pes G as m fun ds => (match G.fns[k]? with | some p => p.2 ds Q | none => False)
  | .meth me a as, m, Q => pe G a m fun x => x.text.isSome = true ∧ pes G as m fun ds => pmeth me x ds Q
  | .item a i, m, Q => pe G a m fun x => pe G i m fun y => pitem (frm m) x y Q
  | .slA a, m, Q => pe G a m fun x => pslice x none none Q
  | .slL a i, m, Q => pe G a m fun x => pe G i m fun y => onI y fun l => pslice x (some l) none Q
  | .slU a i, m, Q => pe G a m fun x => pe G i m fun y => onI y fun l => pslice x none (some l) Q
  | .lst as, m, Q => pes G as m fun ds => Q (.list ds)
  | .tup as, m, Q => pes G as m fun ds => Q (.tup ds)
  | .rng _, _, _ => False
  | .comp out elt it, m, Q => pit G it m fun ds => pcompif (fun _ Q => Q true) (fun d Q => pe G elt (inner m out d) Q) ds fun ys => Q (.list ys)
  | .compif out elt it c, m, Q => pit G it m fun ds => pcompif (fun d Q => pt G c (inner m out d) Q) (fun d Q => pe G elt (inner m out d) Q) ds fun ys => Q (.list ys)
noncomputable def pes (G : Gt) : List I → Vs → (List D → Prop) → Prop
  | [], _, Q => Q []
  | a :: as, m, Q => pe G a m fun d => pes G as m fun ds => Q (d :: ds)
noncomputable def pt (G : Gt) : I → Vs → (Bool → Prop) → Prop
  | .and a b, m, Q => pt G a m fun t => if t = true then pt G b m Q else Q false
  | .or a b, m, Q => pt G a m fun t => if t = true then Q true else pt G b m Q
  | .one a, m, Q => pt G a m Q
  | .cmp op a b, m, Q => pe G a m fun x => pe G b m fun y => pcmp op x y fun d => ptruth d Q
  | .var k, m, Q => (match m[k]? with | some (some d) => ptruth d Q | _ => False)
  | .isint a, m, Q => pe G a m fun d => pisint d fun d => ptruth d Q
  | .fn k as, m, Q => pes G as m fun ds => (match G.fns[k]? with | some p => p.2 ds fun d => ptruth d Q | none => False)
  | .meth me a as, m, Q => pe G a m fun x => x.text.isSome = true ∧ pes G as m fun ds => pmeth me x ds fun d => ptruth d Q
  | _, _, _ => False
noncomputable def pit (G : Gt) : I → Vs → (List D → Prop) → Prop
  | .rng as, m, Q => pes G as m fun ds => prng ds Q
  | .cst d, _, Q => piter d Q
  | .var k, m, Q => (match m[k]? with | some (some d) => piter d Q | _ => False)
  | .slA a, m, Q => pe G a m fun x => pslice x none none fun d => piter d Q
  | .slL a i, m, Q => pe G a m fun x => pe G i m fun y => onI y fun l => pslice x (some l) none fun d => piter d Q
  | .slU a i, m, Q => pe G a m fun x => pe G i m fun y => onI y fun l => pslice x none (some l) fun d => piter d Q
  | .bin op a b, m, Q => pe G a m fun x => pe G b m fun y => pbin op x y fun d => piter d Q
  | _, _, _ => False
end

/-! ## the expression that a little expression stands for -/
structure Cx where
  vars : List (Str × Bool)
  gs : List Str

noncomputable def cOf : D → Const
  | .bool b => .bool b
  | .int i => .int i
  | .flt x => .float x
  | .str x => .str x
  | _ => .none
noncomputable def cOk : D → Bool
  | .list _ => false
  | .tup _ => false
  | .strt _ _ => false
  | _ => true

noncomputable def notStar (x : Expr) : Bool := !(Nat.beq x.ctorIdx 22)
noncomputable def notSlice (x : Expr) : Bool := !(Nat.beq x.ctorIdx 26)
noncomputable def isBase (x : Expr) : Bool := Nat.beq x.ctorIdx 23 || Nat.beq x.ctorIdx 19

noncomputable def gname (c : Cx) (x : Str) (y : Option Str) : Bool := y == some x && c.gs.contains x && x != "__debug__"
noncomputable def notGen (x : Expr) : Bool := !(Nat.beq x.ctorIdx 7) && !(Nat.beq x.ctorIdx 24)

noncomputable def innerCx (c : Cx) (x : Str) (out : List Nat) (scope : Scope) : Cx :=
  ⟨(x, false) :: out.map (fun k => ((c.vars.getD k (x, false)).1, true)), (scope.names.filter fun p => scope.names.lookup p.1 == some .globalImplicit).map (·.1)⟩

noncomputable def scopeOk (c : Cx) (x : Str) (out : List Nat) (scope : Scope) : Bool :=
  scope.kind == .function && scope.names.all (fun p => p.2 != .cell && (p.2 != .local || scope.names.lookup p.1 == some .local) && (p.2 != .free || c.vars.contains (p.1, true))) && scope.names.lookup x == some .local &&
    out.all fun k => match c.vars[k]? with | some (y, true) => scope.names.lookup y == some .free | _ => false

/-- what lies below an expression -/
structure Pt where
  k : List Expr
  n : Nat
  sc : Scope
  y : Str
  o : BoolOp
noncomputable abbrev Pt.of (k : List Expr) : Pt := ⟨k, 0, default, default, .And⟩
noncomputable def parts : Expr → Pt
  | .BoolOp o vs _ => ⟨vs, 0, default, default, o⟩
  | .BinOp l _ r _ => .of [l, r]
  | .UnaryOp _ e _ => .of [e]
  | .IfExp t b o _ => .of [t, b, o]
  | .ListComp e gs sc _ => ⟨e :: gs.flatMap fun g => g.target :: g.iter :: g.ifs, 0, sc, default, .And⟩
  | .Compare l _ r _ => .of (l :: r)
  | .Call f as _ _ => .of (f :: as)
  | .Constant _ n _ => ⟨[], n, default, default, .And⟩
  | .Attribute v _ _ => .of [v]
  | .Subscript v s _ => .of [v, s]
  | .Name y _ => ⟨[], 0, default, y, .And⟩
  | .List es _ => .of es
  | .Tuple es n _ => ⟨es, n, default, default, .And⟩
  | .Slice l u _ _ => .of (l.toList ++ u.toList)
  | _ => .of []
noncomputable def kid (x : Expr) (i : Nat) : Expr := (parts x).k.getD i x
noncomputable def args (x : Expr) : List Expr := (parts x).k.tail
noncomputable def hdE (xs : List Expr) : Expr := xs.headD default
noncomputable def btl (x : Expr) : Expr := .BoolOp (parts x).o (parts x).k.tail x.pos

noncomputable def nmK {β : Type} (l : List (Str × β)) (k : Nat) : Str := (l[k]?.map (·.1)).getD default
noncomputable def isVar (c : Cx) (k : Nat) (x : Str) : Bool := x != "__debug__" && (c.vars[k]?.map (·.1)) == some x

noncomputable def isOps (o : BoolOp) (p : Pos) (x : Expr) : Bool := Nat.beq x.ctorIdx 0 && (!(parts x).k.isEmpty && (decide ((parts x).o = o) && decide (x.pos = p)))

mutual
noncomputable def emit (G : Gt) : I → Cx → Expr → Expr
  | .cst d, _, x => .Constant (cOf d) (parts x).n x.pos
  | .neg i, _, x => .UnaryOp .USub (.Constant (.int i) (parts (kid x 0)).n (kid x 0).pos) x.pos
  | .var k, c, x => .Name (nmK c.vars k) x.pos
  | .gval k, _, x => .Name (nmK G.vals k) x.pos
  | .bin op a b, c, x => .BinOp (emit G a c (kid x 0)) op (emit G b c (kid x 1)) x.pos
  | .cmp op a b, c, x => .Compare (emit G a c (kid x 0)) [op] [emit G b c (kid x 1)] x.pos
  | .ite t a b, c, x => .IfExp (emit G t c (kid x 0)) (emit G a c (kid x 1)) (emit G b c (kid x 2)) x.pos
  | .and a b, c, x => .BoolOp .And (emit G a c (kid x 0) :: (parts (emit G b c (btl x))).k) x.pos
  | .or a b, c, x => .BoolOp .Or (emit G a c (kid x 0) :: (parts (emit G b c (btl x))).k) x.pos
  | .one a, c, x => .BoolOp (parts x).o [emit G a c (kid x 0)] x.pos
  | .isint a, c, x => .Call (.Name "isinstance" (kid x 0).pos) [emit G a c (kid x 1), .Name "int" (kid x 2).pos] [] x.pos
  | .bi k as, c, x => .Call (.Name (nmK G.bis k) (kid x 0).pos) (emits G as c (args x)) [] x.pos
  | .fn k as, c, x => .Call (.Name (nmK G.fns k) (kid x 0).pos) (emits G as c (args x)) [] x.pos
  | .meth m a as, c, x => .Call (.Attribute (emit G a c (kid (kid x 0) 0)) m.name (kid x 0).pos) (emits G as c (args x)) [] x.pos
  | .item a i, c, x => .Subscript (emit G a c (kid x 0)) (emit G i c (kid x 1)) x.pos
  | .slA a, c, x => .Subscript (emit G a c (kid x 0)) (.Slice none none none (kid x 1).pos) x.pos
  | .slL a i, c, x => .Subscript (emit G a c (kid x 0)) (.Slice (some (emit G i c (kid (kid x 1) 0))) none none (kid x 1).pos) x.pos
  | .slU a i, c, x => .Subscript (emit G a c (kid x 0)) (.Slice none (some (emit G i c (kid (kid x 1) 0))) none (kid x 1).pos) x.pos
  | .lst as, c, x => .List (emits G as c (parts x).k) x.pos
  | .tup as, c, x => .Tuple (emits G as c (parts x).k) (parts x).n x.pos
  | .rng as, c, x => .Call (.Name "range" (kid x 0).pos) (emits G as c (args x)) [] x.pos
  | .comp out elt it, c, x => .ListComp (emit G elt (innerCx c (parts (kid x 1)).y out (parts x).sc) (kid x 0)) [⟨.Name (parts (kid x 1)).y (kid x 1).pos, emit G it c (kid x 2), [], 0⟩] (parts x).sc x.pos
  | .compif out elt it t, c, x => .ListComp (emit G elt (innerCx c (parts (kid x 1)).y out (parts x).sc) (kid x 0)) [⟨.Name (parts (kid x 1)).y (kid x 1).pos, emit G it c (kid x 2), [emit G t (innerCx c (parts (kid x 1)).y out (parts x).sc) (kid x 3)], 0⟩] (parts x).sc x.pos
noncomputable def emits (G : Gt) : List I → Cx → List Expr → List Expr
  | [], _, _ => []
  | a :: as, c, xs => emit G a c (hdE xs) :: emits G as c xs.tail
end

mutual
noncomputable def ok (G : Gt) : I → Cx → Expr → Bool
  | .cst d, _, _ => cOk d
  | .neg _, _, _ => true
  | .var k, c, _ => isVar c k (nmK c.vars k)
  | .gval k, c, _ => gname c (nmK G.vals k) (G.vals[k]?.map (·.1))
  | .bin _ a b, c, x => ok G a c (kid x 0) && ok G b c (kid x 1)
  | .cmp op a b, c, x => !(behindInMarks op (emit G b c (kid x 1))) && (ok G a c (kid x 0) && ok G b c (kid x 1))
  | .ite t a b, c, x => ok G t c (kid x 0) && (ok G a c (kid x 1) && ok G b c (kid x 2))
  | .and a b, c, x => isOps .And x.pos (emit G b c (btl x)) && (ok G a c (kid x 0) && ok G b c (btl x))
  | .or a b, c, x => isOps .Or x.pos (emit G b c (btl x)) && (ok G a c (kid x 0) && ok G b c (btl x))
  | .one a, c, x => ok G a c (kid x 0)
  | .isint a, c, x => notStar (emit G a c (kid x 1)) && (gname c "isinstance" (some "isinstance") && (gname c "int" (some "int") && ok G a c (kid x 1)))
  | .bi k as, c, x => gname c (nmK G.bis k) (G.bis[k]?.map (·.1)) && ((emits G as c (args x)).all notStar && (!as.isEmpty && oks G as c (args x)))
  | .fn k as, c, x => gname c (nmK G.fns k) (G.fns[k]?.map (·.1)) && ((emits G as c (args x)).all notStar && (!as.isEmpty && oks G as c (args x)))
  | .meth _ a as, c, x => isBase (emit G a c (kid (kid x 0) 0)) && (decide (as.length < 30) && (((kid x 0).pos.endLine == x.pos.line) && ((emits G as c (args x)).all notStar && (!as.isEmpty && (ok G a c (kid (kid x 0) 0) && oks G as c (args x))))))
  | .item a i, c, x => notSlice (emit G i c (kid x 1)) && (ok G a c (kid x 0) && ok G i c (kid x 1))
  | .slA a, c, x => ok G a c (kid x 0)
  | .slL a i, c, x => ok G a c (kid x 0) && ok G i c (kid (kid x 1) 0)
  | .slU a i, c, x => ok G a c (kid x 0) && ok G i c (kid (kid x 1) 0)
  | .lst as, c, x => (emits G as c (parts x).k).all notStar && (decide (as.length < 1000) && oks G as c (parts x).k)
  | .tup as, c, x => (emits G as c (parts x).k).all notStar && (decide (as.length < 1000) && oks G as c (parts x).k)
  | .rng as, c, x => gname c "range" (some "range") && ((emits G as c (args x)).all notStar && (!as.isEmpty && oks G as c (args x)))
  | .comp out elt it, c, x => notGen (emit G it c (kid x 2)) && (scopeOk c (parts (kid x 1)).y out (parts x).sc && (ok G it c (kid x 2) && ok G elt (innerCx c (parts (kid x 1)).y out (parts x).sc) (kid x 0)))
  | .compif out elt it t, c, x => notGen (emit G it c (kid x 2)) && (scopeOk c (parts (kid x 1)).y out (parts x).sc && (ok G it c (kid x 2) && (ok G elt (innerCx c (parts (kid x 1)).y out (parts x).sc) (kid x 0) && ok G t (innerCx c (parts (kid x 1)).y out (parts x).sc) (kid x 3))))
noncomputable def oks (G : Gt) : List I → Cx → List Expr → Bool
  | [], _, _ => true
  | a :: as, c, xs => ok G a c (hdE xs) && oks G as c xs.tail
end
end Mp
end

section
open PySem PySem.W PyProof.Rows PySem.Calls
set_option maxRecDepth 100000
namespace Mp

noncomputable def AOk (L : Nat) (A : Around) : Prop := A.handled = none ∧ A.depth + L < recursionLimit ∧ A.units + 3 * L + 70 < cLine

noncomputable def Con (prog : Program) (w : World) (sB : Shared) (L : Nat) (a : Addr) (f : List D → (D → Prop) → Prop) : Prop :=
  ∀ (A : Around) (s : Shared) (F : Addr → Prop) (vs : List Value) (ds : List D) (Q : D → Prop) (E : Value → Shared → Prop), AOk L A → Kp sB s → s.toks ≠ 0 → Live s F → VRs s F vs ds → f ds Q →
    wpAny (model prog w) A (call (.ref a) vs) (Post s F Q) E s

structure GOk (prog : Program) (w : World) (sB : Shared) (mg mb : Str → Option Value) (L : Nat) (G : Gt) : Prop where
  g : sB.heap.Ns mainGlobals mg
  b : sB.heap.Ns builtinsNs mb
  nb : NoneBooked sB.heap
  vals : ∀ (k : Nat) p, G.vals[k]? = some p → ∃ t, mg p.1 = some (.str p.2 t)
  bis : ∀ (k : Nat) p, G.bis[k]? = some p → mg p.1 = none ∧ mb p.1 = some p.2.v
  isi : mg "isinstance" = none ∧ mb "isinstance" = some (.builtin "isinstance")
  int : mg "int" = none ∧ mb "int" = some (.type "int")
  range : mg "range" = none ∧ mb "range" = some (.type "range")
  fns : ∀ (k : Nat) p, G.fns[k]? = some p → ∃ a o fd, mg p.1 = some (.ref a) ∧ sB.heap.get? a = some o ∧ o.data = .func fd ∧ Con prog w sB L a p.2

noncomputable def Slot (env : Env) (s : Shared) (x : Str) (b : Bool) (v : Value) : Prop :=
  match b with
  | true => ∃ a, env.cells.lookup x = some a ∧ s.heap.IsCell a (some v)
  | false => ∃ ns, s.heap.Ns env.locals ns ∧ ns x = some v

structure ER (sB : Shared) (c : Cx) (env : Env) (s : Shared) (F : Addr → Prop) (m : Vs) : Prop where
  kind : env.scope.kind = .function
  gl : env.globals = mainGlobals
  bl : env.builtins = builtinsNs
  base : Kp sB s
  toks : s.toks ≠ 0
  live : Live s F
  len : m.length = c.vars.length
  glob : ∀ x ∈ c.gs, env.kindOf x = some .globalImplicit
  locs : ∀ x, (x, false) ∈ c.vars → env.kindOf x = some .local
  cels : ∀ x, (x, true) ∈ c.vars → env.kindOf x = some .cell ∧ ∃ a, env.cells.lookup x = some a
  vals : ∀ (k : Nat) x b d, c.vars[k]? = some (x, b) → m[k]? = some (some d) → ∃ v, Slot env s x b v ∧ VR s F v d

theorem Slot.up {env : Env} {s s' : Shared} {x : Str} {b : Bool} {v : Value} (k : Kp s s') (h : Slot env s x b v) : Slot env s' x b v := by
  cases b with
  | true => obtain ⟨a, h1, h2⟩ := h; exact ⟨a, h1, h2.keeps k.hp⟩
  | false => obtain ⟨ns, h1, h2⟩ := h; exact ⟨ns, h1.keeps k.hp, h2⟩

theorem ER.up {sB : Shared} {c : Cx} {env : Env} {s s' : Shared} {F : Addr → Prop} {m : Vs} (h : ER sB c env s F m) (k : Kp s s') : ER sB c env s' F m where
  kind := h.kind
  gl := h.gl
  bl := h.bl
  base := h.base.trans k
  toks := by have := h.toks; have := k.tk; omega
  live := h.live.up k
  len := h.len
  glob := h.glob
  locs := h.locs
  cels := h.cels
  vals := fun i x b d e1 e2 => let ⟨v, h1, h2⟩ := h.vals i x b d e1 e2; ⟨v, h1.up k, h2.up k⟩

theorem frm_of : ∀ {m : Vs} {t : Tok}, (∀ x u, some (D.strt x u) ∈ m → u ≠ t) → frm m t
  | [], _, _ => trivial
  | some (.strt x u) :: r, t, h => ⟨h x u (List.mem_cons_self ..), frm_of fun y v hy => h y v (List.mem_cons_of_mem _ hy)⟩
  | none :: r, t, h => frm_of (m := r) fun y v hy => h y v (List.mem_cons_of_mem _ hy)
  | some .none :: r, t, h => frm_of (m := r) fun y v hy => h y v (List.mem_cons_of_mem _ hy)
  | some (.bool _) :: r, t, h => frm_of (m := r) fun y v hy => h y v (List.mem_cons_of_mem _ hy)
  | some (.int _) :: r, t, h => frm_of (m := r) fun y v hy => h y v (List.mem_cons_of_mem _ hy)
  | some (.flt _) :: r, t, h => frm_of (m := r) fun y v hy => h y v (List.mem_cons_of_mem _ hy)
  | some (.str _) :: r, t, h => frm_of (m := r) fun y v hy => h y v (List.mem_cons_of_mem _ hy)
  | some (.list _) :: r, t, h => frm_of (m := r) fun y v hy => h y v (List.mem_cons_of_mem _ hy)
  | some (.tup _) :: r, t, h => frm_of (m := r) fun y v hy => h y v (List.mem_cons_of_mem _ hy)

theorem ER.fr {sB : Shared} {c : Cx} {env : Env} {s : Shared} {F : Addr → Prop} {m : Vs} (h : ER sB c env s F m) : frm m s.toks := by
  refine frm_of fun x u hm => ?_
  obtain ⟨k, hk⟩ := List.getElem?_of_mem hm
  have hlt : k < m.length := (List.getElem?_eq_some_iff.mp hk).1
  rw [h.len] at hlt
  obtain ⟨v, _, hv⟩ := h.vals k _ _ _ (List.getElem?_eq_getElem hlt) hk
  cases hv with
  | strt _ _ h0 h1 => exact Nat.ne_of_lt h1

section
variable {prog : Program} {w : World} {sB : Shared} {mg mb : Str → Option Value} {L : Nat} {G : Gt}

theorem wp_gname {c : Cx} {env : Env} {s : Shared} {F : Addr → Prop} {m : Vs} {A : Around} {E : Value → Shared → Prop} {x : Str} {y : Option Str} {pos : Pos} {Q : Value → Shared → Prop} (hG : GOk prog w sB mg mb L G)
    (hr : ER sB c env s F m) (hc : gname c x y = true) (h : wpAny (model prog w) A (loadGlobal env x) Q E s) : wpAny (model prog w) A (eval (.Name x pos) env) Q E s := by
  simp only [gname, Bool.and_eq_true, bne_iff_ne, ne_eq, beq_iff_eq] at hc
  exact Name_function_global hr.kind (hr.glob x (by simpa using hc.1.2)) h (by simpa using hc.2)

theorem gname_eq {c : Cx} {x : Str} {y : Option Str} (hc : gname c x y = true) : y = some x := by
  simp only [gname, Bool.and_eq_true, beq_iff_eq] at hc
  exact hc.1.1

theorem wp_global {c : Cx} {env : Env} {s : Shared} {F : Addr → Prop} {m : Vs} {A : Around} {E : Value → Shared → Prop} {x : Str} {y : Option Str} {pos : Pos} {v : Value} {Q : Value → Shared → Prop} (hG : GOk prog w sB mg mb L G)
    (hr : ER sB c env s F m) (hc : gname c x y = true) (hv : mg x = some v) (h : Q v s) : wpAny (model prog w) A (eval (.Name x pos) env) Q E s :=
  wp_gname hG hr hc (loadGlobal_global (env := env) (mg := mg) (by rw [hr.gl]; exact hG.g.keeps hr.base.hp) hv h)
theorem wp_builtin {c : Cx} {env : Env} {s : Shared} {F : Addr → Prop} {m : Vs} {A : Around} {E : Value → Shared → Prop} {x : Str} {y : Option Str} {pos : Pos} {v : Value} {Q : Value → Shared → Prop} (hG : GOk prog w sB mg mb L G)
    (hr : ER sB c env s F m) (hc : gname c x y = true) (hv : mg x = none ∧ mb x = some v) (h : Q v s) : wpAny (model prog w) A (eval (.Name x pos) env) Q E s :=
  wp_gname hG hr hc (loadGlobal_builtin (env := env) (mg := mg) (mb := mb) (by rw [hr.gl]; exact hG.g.keeps hr.base.hp) hv.1 (by rw [hr.bl]; exact hG.b.keeps hr.base.hp) hv.2 h)

theorem wp_var {c : Cx} {env : Env} {s : Shared} {F : Addr → Prop} {m : Vs} {A : Around} {E : Value → Shared → Prop} {x : Str} {b : Bool} {k : Nat} {d : D} {pos : Pos} {Q : D → Prop}
    (hr : ER sB c env s F m) (hc : c.vars[k]? = some (x, b)) (hd : (x == ("__debug__" : Str)) = false) (hm : m[k]? = some (some d)) (h : Q d) : wpAny (model prog w) A (eval (.Name x pos) env) (Post s F Q) E s := by
  obtain ⟨v, hs, hv⟩ := hr.vals k x b d hc hm
  have hmem := List.mem_of_getElem? hc
  refine wpAny_Name ?_ hd
  cases b with
  | true =>
    obtain ⟨a, h1, h2⟩ := hs
    exact wpAny_loadName_cell hr.kind (hr.cels x hmem).1 h1 h2 (post_here h hv)
  | false =>
    obtain ⟨ns, h1, h2⟩ := hs
    exact wpAny_loadName_local hr.kind (hr.locs x hmem) h1 h2 (post_here h hv)

theorem star_cons {x : Expr} {xs : List Expr} {env : Env} (h : notStar x = true) : starEach (x :: xs) env = (false, eval x env) :: starEach xs env := by
  cases x <;> first | rfl | cases h
theorem plain_args {pos : Pos} {env : Env} : ∀ {xs : List Expr}, xs.all notStar = true → (backTo pos (starEach xs env)).any (·.1) = false
  | [], _ => rfl
  | x :: xs, h => by
    rw [List.all_cons, Bool.and_eq_true] at h
    rw [star_cons h.1]
    show (false || (backTo pos (starEach xs env)).any (·.1)) = false
    rw [plain_args h.2]; rfl
theorem plain_args' {pos : Pos} {env : Env} {xs : List Expr} (h : xs.all notStar = true) : (backTo pos (starEach xs env)).all (!·.1) = true := by
  have := plain_args (pos := pos) (env := env) h
  rw [List.any_eq_false] at this
  rw [List.all_eq_true]
  intro p hp
  simpa using this p hp

theorem wp_cst {env : Env} {s : Shared} {F : Addr → Prop} {A : Around} {E : Value → Shared → Prop} {d : D} {n : Nat} {pos : Pos} {Q : D → Prop} (hc : cOk d = true) (h : Q d) :
    wpAny (model prog w) A (eval (.Constant (cOf d) n pos) env) (Post s F Q) E s := by
  cases d with
  | none => exact wpAny_Constant_none (post_here h .none)
  | bool b => exact wpAny_Constant_bool (post_here h (.bool _))
  | int i => exact wpAny_Constant_int (post_tok (k := 1) h (.int _ _))
  | flt x => exact wpAny_Constant_float (post_tok (k := 1) h (.flt _ _))
  | str x => exact PySem.wpAny_Constant_str (post_tok (k := 1) h (.str _ _))
  | _ => exact Bool.noConfusion hc

/-! ## closures -/
theorem clos_loop {env : Env} : ∀ (names : List (Str × NameKind)) (acc : List (Str × Addr)), (∀ p ∈ names, p.2 = .free → ∃ a, env.cells.lookup p.1 = some a) → (∀ p ∈ acc, env.cells.lookup p.1 = some p.2) →
    ∃ cl, (forIn names acc (fun (p : Str × NameKind) (cs : List (Str × Addr)) => (if (p.2 == .free) = true then (do let a ← cellOf env p.1; pure (ForInStep.yield ((p.1, a) :: cs))) else pure (ForInStep.yield cs) : Sem (ForInStep (List (Str × Addr))))) = pure cl) ∧
      (∀ p ∈ cl, env.cells.lookup p.1 = some p.2) ∧ (∀ p ∈ acc, p ∈ cl) ∧ ∀ p ∈ names, p.2 = .free → ∃ a, (p.1, a) ∈ cl
  | [], acc, _, h => ⟨acc, rfl, h, fun _ hp => hp, by simp⟩
  | p :: names, acc, hn, h => by
    by_cases hf : p.2 = .free
    · obtain ⟨a, ha⟩ := hn p (List.mem_cons_self ..) hf
      obtain ⟨cl, h1, h2, h3, h4⟩ := clos_loop names ((p.1, a) :: acc) (fun q hq => hn q (List.mem_cons_of_mem _ hq)) (by
        intro q hq
        rcases List.mem_cons.mp hq with rfl | hq
        · exact ha
        · exact h q hq)
      refine ⟨cl, ?_, h2, fun q hq => h3 q (List.mem_cons_of_mem _ hq), ?_⟩
      · rw [List.forIn_cons, ← h1]
        have hc : cellOf env p.1 = pure a := by unfold cellOf; rw [ha]
        rw [if_pos (by simp [hf]), hc]
        rfl
      · intro q hq hqf
        rcases List.mem_cons.mp hq with rfl | hq
        · exact ⟨a, h3 _ (List.mem_cons_self ..)⟩
        · exact h4 q hq hqf
    · obtain ⟨cl, h1, h2, h3, h4⟩ := clos_loop names acc (fun q hq => hn q (List.mem_cons_of_mem _ hq)) h
      refine ⟨cl, ?_, h2, h3, ?_⟩
      · rw [List.forIn_cons, ← h1, if_neg (by simpa using hf)]
        rfl
      · intro q hq hqf
        rcases List.mem_cons.mp hq with rfl | hq
        · exact absurd hqf hf
        · exact h4 q hq hqf

theorem lookup_mem {α : Type} {l : List (Str × α)} {f : Str → Option α} (h : ∀ p ∈ l, f p.1 = some p.2) {x : Str} {a : α} (hm : (x, a) ∈ l) : l.lookup x = f x := by
  induction l with
  | nil => cases hm
  | cons p l ih =>
    obtain ⟨y, b⟩ := p
    rw [List.lookup_cons]
    by_cases hxy : x = y
    · subst hxy
      simp only [beq_self_eq_true]
      exact (h (x, b) (List.mem_cons_self ..)).symm
    · rw [show (x == y) = false by simpa using hxy]
      rcases List.mem_cons.mp hm with e | hm
      · cases e; exact absurd rfl hxy
      · exact ih (fun q hq => h q (List.mem_cons_of_mem _ hq)) hm

theorem closure_ok {env : Env} {scope : Scope} (hn : ∀ p ∈ scope.names, p.2 = .free → ∃ a, env.cells.lookup p.1 = some a) :
    ∃ cl, closureFor scope env = pure cl ∧ ∀ x, (x, NameKind.free) ∈ scope.names → cl.lookup x = env.cells.lookup x := by
  obtain ⟨cl, h1, h2, _, h4⟩ := clos_loop (env := env) scope.names [] hn (by simp)
  refine ⟨cl, ?_, fun x hx => ?_⟩
  · unfold closureFor
    show (forIn scope.names [] _ >>= fun cs => pure cs) = _
    have : (forIn scope.names ([] : List (Str × Addr)) (fun (p : Str × NameKind) (cs : List (Str × Addr)) => (if (p.2 == .free) = true then (do let a ← cellOf env p.1; pure (ForInStep.yield ((p.1, a) :: cs))) else pure (ForInStep.yield cs) : Sem (ForInStep (List (Str × Addr))))) >>= fun cs => pure cs) = pure cl := by
      rw [h1]; rfl
    exact this
  · obtain ⟨a, ha⟩ := h4 _ hx rfl
    exact lookup_mem (f := fun x => env.cells.lookup x) h2 ha
end
end Mp
end

section
open PySem PySem.W PyProof.Rows PySem.Calls
set_option maxRecDepth 100000
namespace Mp
section
variable {prog : Program} {w : World} {sB : Shared} {mg mb : Str → Option Value} {L : Nat} {G : Gt}

theorem post_kp {s s₁ : Shared} {F : Addr → Prop} {Q : D → Prop} {v : Value} {s' : Shared} (k : Kp s s₁) (h : Post s₁ F Q v s') : Post s F Q v s' :=
  let ⟨d, q, r, k'⟩ := h; ⟨d, q, r, k.trans k'⟩
theorem postB_kp {s s₁ : Shared} {Q : Bool → Prop} {v : Bool} {s' : Shared} (k : Kp s s₁) (h : PostB s₁ Q v s') : PostB s Q v s' := ⟨h.1, k.trans h.2⟩

theorem lookup_relabel {env : Env} : ∀ {names : List (Str × NameKind)} {x : Str} {k : NameKind}, names.lookup x = some k →
    (names.map fun (n, k) => if (k == NameKind.free && env.scope.kind == .function && env.kindOf n == some .cell) then (n, NameKind.cell) else (n, k)).lookup x =
      some (if (k == NameKind.free && env.scope.kind == .function && env.kindOf x == some .cell) then NameKind.cell else k)
  | [], _, _, h => by simp at h
  | (n, k') :: r, x, k, h => by
    have ih := @lookup_relabel env r x k
    show List.lookup x ((if (k' == NameKind.free && env.scope.kind == .function && env.kindOf n == some .cell) = true then (n, NameKind.cell) else (n, k')) :: _) = _
    cases hx : x == n with
    | true =>
      simp only [List.lookup_cons, hx] at h
      cases h
      have : x = n := by simpa using hx
      subst this
      split <;> simp [List.lookup_cons]
    | false =>
      simp only [List.lookup_cons, hx] at h
      by_cases hc : (k' == NameKind.free && env.scope.kind == .function && env.kindOf n == some .cell) = true
      · rw [if_pos hc]; simp only [List.lookup_cons, hx]; exact ih h
      · rw [if_neg hc]; simp only [List.lookup_cons, hx]; exact ih h

structure ScopeOk (c : Cx) (x : Str) (out : List Nat) (scope : Scope) : Prop where
  kind : scope.kind = .function
  nocell : ∀ p ∈ scope.names, p.2 ≠ .cell
  locs : ∀ p ∈ scope.names, p.2 = .local → scope.names.lookup p.1 = some .local
  free : ∀ p ∈ scope.names, p.2 = .free → (p.1, true) ∈ c.vars
  x : scope.names.lookup x = some .local
  out : ∀ k ∈ out, ∃ y, c.vars[k]? = some (y, true) ∧ scope.names.lookup y = some .free

theorem scopeOk_iff {c : Cx} {x : Str} {out : List Nat} {scope : Scope} (h : scopeOk c x out scope = true) : ScopeOk c x out scope := by
  simp only [scopeOk, Bool.and_eq_true, List.all_eq_true, beq_iff_eq, bne_iff_ne, ne_eq, Bool.or_eq_true] at h
  obtain ⟨⟨⟨h1, h2⟩, h3⟩, h4⟩ := h
  refine ⟨h1, fun p hp => (h2 p hp).1.1, fun p hp e => ?_, fun p hp e => ?_, h3, fun k hk => ?_⟩
  · rcases (h2 p hp).1.2 with h | h
    · exact absurd e h
    · exact h
  · rcases (h2 p hp).2 with h | h
    · exact absurd e h
    · simpa using h
  · have := h4 k hk
    split at this
    · rename_i y e; exact ⟨y, e, by simpa using this⟩
    · cases this

theorem lookup_some_mem {α : Type} {l : List (Str × α)} {x : Str} {a : α} (h : l.lookup x = some a) : (x, a) ∈ l := by
  induction l with
  | nil => cases h
  | cons p l ih =>
    obtain ⟨y, b⟩ := p
    rw [List.lookup_cons] at h
    split at h
    · rename_i e
      cases h
      have : x = y := by simpa using e
      subst this; exact List.mem_cons_self ..
    · exact List.mem_cons_of_mem _ (ih h)

/-- the inside of a comprehension -/
theorem er_inner {c : Cx} {env : Env} {s s₃ : Shared} {F : Addr → Prop} {m : Vs} {x : Str} {out : List Nat} {scope : Scope} {cl : List (Str × Addr)} {acc C J : Addr} {v : Value} {d : D} {m₃ : Str → Option Value}
    (hr : ER sB c env s F m) (hs : ScopeOk c x out scope) (hcl : ∀ y, (y, NameKind.free) ∈ scope.names → cl.lookup y = env.cells.lookup y)
    (k : Kp s s₃) (hlive : Live s₃ (F1 F acc C J)) (ha : s.heap.get? acc = none) (hC : s.heap.get? C = none) (hJ : s.heap.get? J = none) (hn : s₃.heap.Ns C m₃) (hm : m₃ x = some v) (hv : VR s₃ (F1 F acc C J) v d) :
    ER sB (innerCx c x out scope) (compEnvC scope cl C env) s₃ (F1 F acc C J) (inner m out d) where
  kind := hs.kind
  gl := hr.gl
  bl := hr.bl
  base := hr.base.trans k
  toks := by have := hr.toks; have := k.tk; omega
  live := hlive
  len := by simp [inner, innerCx]
  glob := by
    intro y hy
    simp only [innerCx, List.mem_map, List.mem_filter, beq_iff_eq] at hy
    obtain ⟨p, ⟨_, h2⟩, rfl⟩ := hy
    have := lookup_relabel (env := env) h2
    simpa [compEnvC, relabel, Env.kindOf] using this
  locs := by
    intro y hy
    simp only [innerCx, List.mem_cons, Prod.mk.injEq, and_true, List.mem_map, Bool.true_eq_false, and_false, exists_const, or_false] at hy
    subst hy
    exact lookup_relabel_local hs.x
  cels := by
    intro y hy
    simp only [innerCx, List.mem_cons, Prod.mk.injEq, Bool.true_eq_false, and_false, List.mem_map, and_true, false_or] at hy
    obtain ⟨k', hk', rfl⟩ := hy
    obtain ⟨z, h1, h2⟩ := hs.out k' hk'
    have e : (c.vars.getD k' (x, false)).1 = z := by rw [List.getD_eq_getElem?_getD, h1]; rfl
    rw [e]
    have hz := hr.cels z (List.mem_of_getElem? h1)
    have := lookup_relabel (env := env) h2
    rw [hr.kind, hz.1] at this
    refine ⟨by simpa [compEnvC, relabel, Env.kindOf, hr.kind] using this, ?_⟩
    obtain ⟨a, ha⟩ := hz.2
    exact ⟨a, (hcl z (lookup_some_mem h2)).trans ha⟩
  vals := by
    intro i y b d' h1 h2
    cases i with
    | zero =>
      simp [innerCx, inner] at h1 h2
      obtain ⟨rfl, rfl⟩ := h1
      subst h2
      exact ⟨v, ⟨m₃, hn, hm⟩, hv⟩
    | succ i =>
      simp only [innerCx, inner, List.getElem?_cons_succ, List.getElem?_map, Option.map_eq_some_iff] at h1 h2
      obtain ⟨k', hk', e1⟩ := h1
      obtain ⟨k'', hk'', e2⟩ := h2
      rw [hk'] at hk''
      cases hk''
      obtain ⟨z, h1, h2⟩ := hs.out k' (List.mem_of_getElem? hk')
      have e : (c.vars.getD k' (x, false)).1 = z := by rw [List.getD_eq_getElem?_getD, h1]; rfl
      rw [e] at e1
      obtain ⟨e3, e4⟩ := Prod.mk.inj e1
      subst e4
      subst e3
      have hmk : m[k']? = some (some d') := by
        rw [List.getD_eq_getElem?_getD] at e2
        cases hh : m[k']? with
        | none => rw [hh] at e2; cases e2
        | some o => rw [hh] at e2; simp at e2; rw [e2]
      obtain ⟨v', hs', hv'⟩ := hr.vals k' z true d' h1 hmk
      obtain ⟨a, h3, h4⟩ := hs'
      refine ⟨v', ⟨a, (hcl z (lookup_some_mem h2)).trans h3, h4.keeps k.hp⟩, hv'.mono k fun a o e ha' => ?_⟩
      rcases ha' with h | rfl | rfl | rfl
      · exact h
      · rw [ha] at e; cases e
      · rw [hC] at e; cases e
      · rw [hJ] at e; cases e
end
end Mp
end

section
open PySem PySem.W PyProof.Rows PySem.Calls
set_option maxRecDepth 100000
namespace Mp
section
variable {prog : Program} {w : World} {A : Around} {E : Value → Shared → Prop} {s : Shared} {env : Env}

theorem wp_subs {value slice : Expr} {pos : Pos} {Q : Value → Shared → Prop} (hns : notSlice slice = true)
    (h : wpAny (model prog w) A (eval value env) (fun o s₁ => wpAny (model prog w) A (eval slice env) (fun i s₂ => (∃ T id, typeLookup (.type T) "__getitem__" = pure (some (.builtin id)) ∧ s₂.TypeIs o T) ∧
      wpAny (model prog w) A (getItem o i) Q E s₂) E s₁) E s) : wpAny (model prog w) A (eval (.Subscript value slice pos) env) Q E s := by
  rw [eval_Subscript]
  refine wpAny_bind (wpAny_mono h (fun o s₁ h₁ => wpAny_bind (wpAny_holding (wpAny_mono h₁ (fun i s₂ h₂ => wpAny_bind (wpAny_standAt ?_)) fun _ _ x => x)))
    fun _ _ x => x)
  obtain ⟨⟨T, id, hl, hT⟩, h₂⟩ := h₂
  refine wpAny_bind ?_
  rw [getitemInPython_of_ne hT.not_modules]
  refine wpAny_bind (wpAny_specialOf hT hl ?_)
  have e : subscripted slice false o i = operate [o, i] (getItem o i) := by cases slice <;> first | rfl | cases hns
  have fin : wpAny (model prog w) A (subscripted slice false o i) (fun r s₃ => wpAny (model prog w) A (letTemporaryGo value o r >>= fun _ => pure r) Q E s₃) E s₂ := by
    rw [e]
    exact wpAny_operating (wpAny_mono h₂ (fun r s₃ h₃ => wpAny_bind (wpAny_letTemporaryGo (wpAny_pure h₃))) fun _ _ x => x)
  first
    | exact wpAny_pure (wpAny_bind fin)
    | exact wpAny_bind (wpAny_pure (wpAny_bind fin))
    | exact wpAny_bind fin

theorem wp_subsl {value : Expr} {lower upper : Option Expr} {p pos : Pos} {Q : Value → Shared → Prop}
    (h : wpAny (model prog w) A (eval value env) (fun o s₁ => wpAny (model prog w) A (evalPart lower env) (fun l s₂ => wpAny (model prog w) A (evalPart upper env) (fun u s₃ =>
      (∃ T id, typeLookup (.type T) "__getitem__" = pure (some (.builtin id)) ∧ ∀ s' : Shared, (∀ b o, s₃.heap.get? b = some o → s'.heap.get? b = some o) → s'.TypeIs o T) ∧
      wpAny (model prog w) A (getItem o (.ref s₃.heap.objs.size)) Q E { s₃ with heap := s₃.heap.push { cls := .type "slice", data := .fields #[l, u, .none] } }) E s₂) E s₁) E s) :
    wpAny (model prog w) A (eval (.Subscript value (.Slice lower upper none p) pos) env) Q E s := by
  rw [eval_Subscript]
  refine wpAny_bind (wpAny_mono h (fun o s₁ h₁ => ?_) fun _ _ x => x)
  refine wpAny_bind (wpAny_holding (wpAny_Slice (wpAny_mono h₁ (fun l s₂ h₂ => wpAny_mono h₂ (fun u s₃ h₃ => ?_) fun _ _ x => x) fun _ _ x => x)))
  rw [evalPart_none]
  refine wpAny_pure (wpAny_bind (wpAny_standAt ?_))
  obtain ⟨⟨T, id, hl, hT⟩, h₃⟩ := h₃
  have hT' := hT { s₃ with heap := s₃.heap.push { cls := .type "slice", data := .fields #[l, u, .none] } } (push_keeps _)
  refine wpAny_bind ?_
  rw [getitemInPython_of_ne hT'.not_modules]
  refine wpAny_bind (wpAny_specialOf hT' hl ?_)
  have fin : wpAny (model prog w) A (operate [.ref s₃.heap.objs.size, o] (getItem o (.ref s₃.heap.objs.size))) (fun r s₄ => wpAny (model prog w) A (letTemporaryGo value o r >>= fun _ => pure r) Q E s₄) E { s₃ with heap := s₃.heap.push { cls := .type "slice", data := .fields #[l, u, .none] } } :=
    wpAny_operating (wpAny_mono h₃ (fun r s₃ h₃ => wpAny_bind (wpAny_letTemporaryGo (wpAny_pure h₃))) fun _ _ x => x)
  first
    | exact wpAny_pure (wpAny_bind fin)
    | exact wpAny_bind (wpAny_pure (wpAny_bind fin))
    | exact wpAny_bind fin

theorem seqty {F : Addr → Prop} {v : Value} {d : D} (h : VR s F v d) (hd : (d.text.isSome = true) ∨ ∃ l, d = .list l) :
    ∃ T id, typeLookup (.type T) "__getitem__" = pure (some (.builtin id)) ∧ ∀ s' : Shared, (∀ b o, s.heap.get? b = some o → s'.heap.get? b = some o) → s'.TypeIs v T := by
  cases h with
  | str x t => exact ⟨"str", _, PySem.F.slot_str_getitem.lookup, fun s' _ => typeIs_str _ _ _⟩
  | strt x t _ _ => exact ⟨"str", _, PySem.F.slot_str_getitem.lookup, fun s' _ => typeIs_str _ _ _⟩
  | list a n vs ds e _ _ => exact ⟨"list", _, slot_list_getitem.lookup, fun s' hk => ⟨_, hk _ _ e, rfl⟩⟩
  | _ =>
    rcases hd with h | ⟨l, h⟩
    · simp [D.text] at h
    · cases h

theorem pitem_ty {fr : Tok → Prop} {a i : D} {Q : D → Prop} (h : pitem fr a i Q) : (a.text.isSome = true) ∨ ∃ l, a = .list l := by
  cases a <;> cases i <;> first | exact .inr ⟨_, rfl⟩ | exact .inl rfl | exact h.elim
theorem pslice_ty {a : D} {lo hi : Option Int} {Q : D → Prop} (h : pslice a lo hi Q) : (a.text.isSome = true) ∨ ∃ l, a = .list l := by
  cases a <;> cases lo <;> cases hi <;> first | exact .inr ⟨_, rfl⟩ | exact .inl rfl | exact h.elim

/-- a method of a str, called -/
theorem wp_mcall {o : Expr} {m : Me} {ap pos : Pos} {l : Expr} {r : List Expr} {Q : Value → Shared → Prop}
    (ho : isBase o = true) (hn : (l :: r).length < 30) (hl : (ap.endLine == pos.line) = true) (hst : (l :: r).all notStar = true)
    (h : wpAny (model prog w) A (eval o env) (fun ov s₁ => (∃ x t, ov = .str x t) ∧ wpAny (model prog w) A (spliced (backTo pos (starEach (l :: r) env))) (fun vs s₂ => wpAny (model prog w) A (call (.builtin m.id) (ov :: vs)) Q E s₂) E s₁) E s) :
    wpAny (model prog w) A (eval (.Call (.Attribute o m.name ap) (l :: r) [] pos) env) Q E s := by
  have e1 : attributeBase o m.name env (eval o env) = eval o env := by cases o <;> first | rfl | cases ho
  have e : eval (.Call (.Attribute o m.name ap) (l :: r) [] pos) env = (do
      let ov ← attributeBase o m.name env (eval o env)
      standAt ap.atName
      methodCall o m.name ap pos env ov ((l :: r).length + 0) (backTo pos (starEach (l :: r) env)) []) := rfl
  rw [e, e1]
  refine wpAny_bind (wpAny_mono h (fun ov s₁ h₁ => wpAny_bind (wpAny_standAt ?_)) fun _ _ x => x)
  obtain ⟨⟨x, t, rfl⟩, h₁⟩ := h₁
  have hf : methodCallForm ((l :: r).length + 0) (backTo pos (starEach (l :: r) env)) [] = true := by
    unfold methodCallForm
    rw [plain_args' hst]
    simp only [List.all_nil, List.isEmpty_nil, if_true, Bool.true_and, Nat.add_zero, decide_eq_true_eq]
    exact hn
  unfold methodCall
  rw [hf]
  refine wpAny_bind (wpAny_holding ?_)
  unfold calleeOf
  rw [if_pos rfl]
  refine wp_getm m ?_
  have e2 : methodCallPos true o env ap pos = pure pos := by unfold methodCallPos; rw [hl]; rfl
  show wpAny _ A (methodCallPos true o env ap pos >>= _) _ _ _
  rw [e2]
  refine wpAny_bind (wpAny_pure ?_)
  have hst' := hst
  rw [List.all_cons, Bool.and_eq_true] at hst'
  exact callWith_method1 (wpAny_mono h₁ (fun vs s₂ h₂ => h₂) fun _ _ x => x) (star_cons hst'.1) (plain_args hst'.2)

/-- a global function, called with plain arguments -/
theorem wp_calld {f : Str} {fp pos : Pos} {l : Expr} {r : List Expr} {a : Addr} {o : Obj} {fd : FuncData} {Q : Value → Shared → Prop} (hd : o.data = .func fd) (hst : (l :: r).all notStar = true)
    (h : wpAny (model prog w) A (eval (.Name f fp) env) (fun v s₁ => v = .ref a ∧ wpAny (model prog w) A (spliced (backTo pos (starEach (l :: r) env))) (fun vs s₂ => s₂.heap.get? a = some o ∧ wpAny (model prog w) A (call (.ref a) vs) Q E s₂) E s₁) E s) :
    wpAny (model prog w) A (eval (.Call (.Name f fp) (l :: r) [] pos) env) Q E s := by
  have hst' := hst
  rw [List.all_cons, Bool.and_eq_true] at hst'
  refine Call_ (wpAny_mono h (fun v s₁ h₁ => ?_) fun _ _ x => x)
  obtain ⟨rfl, h₁⟩ := h₁
  exact callWith_def hd h₁ (star_cons hst'.1)

theorem wp_callb {f : Str} {fp pos : Pos} {l : Expr} {r : List Expr} {b : Value} (hb : (∃ id, b = .builtin id) ∨ ∃ T, b = .type T) {Q : Value → Shared → Prop} (hst : (l :: r).all notStar = true)
    (h : wpAny (model prog w) A (eval (.Name f fp) env) (fun v s₁ => v = b ∧ wpAny (model prog w) A (spliced (backTo pos (starEach (l :: r) env))) (fun vs s₂ => wpAny (model prog w) A (call b vs) Q E s₂) E s₁) E s) :
    wpAny (model prog w) A (eval (.Call (.Name f fp) (l :: r) [] pos) env) Q E s := by
  have hst' := hst
  rw [List.all_cons, Bool.and_eq_true] at hst'
  refine Call_ (wpAny_mono h (fun v s₁ h₁ => ?_) fun _ _ x => x)
  obtain ⟨rfl, h₁⟩ := h₁
  rcases hb with ⟨id, rfl⟩ | ⟨T, rfl⟩
  · exact callWith_builtin1 h₁ (star_cons hst'.1) (plain_args hst'.2)
  · refine PySem.callWith_type (plain_args hst) ?_
    rw [star_cons hst'.1] at h₁ ⊢
    exact evalArgs_plain h₁
end
end Mp
end

section
open PySem PySem.W PyProof.Rows PySem.Calls
set_option maxRecDepth 100000
namespace Mp
section
variable {prog : Program} {w : World} {sB : Shared} {mg mb : Str → Option Value} {L : Nat} {G : Gt}

theorem var_split {c : Cx} {k : Nat} {y : Str} (h : (y != "__debug__" && (c.vars[k]?.map (·.1)) == some y) = true) : (y == ("__debug__" : Str)) = false ∧ ∃ b, c.vars[k]? = some (y, b) := by
  simp only [Bool.and_eq_true, bne_iff_ne, ne_eq, beq_iff_eq, Option.map_eq_some_iff] at h
  obtain ⟨h1, ⟨y', b⟩, h2, h3⟩ := h
  simp at h3; subst h3
  exact ⟨by simpa using h1, b, h2⟩

theorem fn_get {β : Type} {l : List (Str × β)} {k : Nat} {f : Str} (h : l[k]?.map (·.1) = some f) : ∃ p, l[k]? = some p ∧ p.1 = f := by
  simpa [Option.map_eq_some_iff] using h

theorem live_up {s s' : Shared} {F : Addr → Prop} {sB : Shared} {c : Cx} {env : Env} {m : Vs} (h : ER sB c env s F m) (k : Kp s s') : Live s' F := h.live.up k

theorem post_false {s : Shared} {F : Addr → Prop} {v : Value} {s' : Shared} (h : Post s F (fun _ => False) v s') : False := let ⟨_, h, _⟩ := h; h

theorem pisint_wp {A : Around} {E : Value → Shared → Prop} {s : Shared} {F : Addr → Prop} {Q : D → Prop} {v : Value} {d : D} (hv : VR s F v d) (h : pisint d Q) :
    wpAny (model prog w) A (call (.builtin "isinstance") [v, .type "int"]) (Post s F Q) E s := by
  obtain ⟨i, t, rfl, h⟩ := onI_v hv h
  exact call_isinstance (isinstance_true (Tx := "int") (T := "int") (by kernel_rfl) (by rw [isSubtype_type]; kernel_rfl)) ⟨typeIs_int _ _ _, post_here h (.bool _)⟩

noncomputable def PostI (prog : Program) (w : World) (A : Around) (E : Value → Shared → Prop) (s : Shared) (F : Addr → Prop) (Q : List D → Prop) (v : Value) (s₁ : Shared) : Prop :=
  Kp s s₁ ∧ wpAny (model prog w) A (pyIter v) (fun it s₂ => ∃ ds, (ds.length ≤ 1048576 ∧ Q ds) ∧ IterR prog w A s₁ s₂ F it ds) E s₁

theorem wp_comp {A : Around} {E : Value → Shared → Prop} {c : Cx} {env : Env} {s : Shared} {F : Addr → Prop} {m : Vs} {x : Str} {px pos : Pos} {out : List Nat} {scope : Scope} {elt iter : Expr} {ifs : List Expr} {cf : D → (Bool → Prop) → Prop} {f : D → (D → Prop) → Prop} {Ql : List D → Prop}
    {use : Option (Value → Sem Unit)} {Q : Value → Shared → Prop}
    (hA : AOk L A) (hr : ER sB c env s F m) (hs : ScopeOk c x out scope) (hset : notGen iter = true)
    (hiter : wpAny (model prog w) A (eval iter env) (PostI prog w A E s F (fun ds => pcompif cf f ds Ql)) E s)
    (htests : ∀ env' s' F' d (Qb : Bool → Prop) E', ER sB (innerCx c x out scope) env' s' F' (inner m out d) → cf d Qb →
      wpAny (model prog w) A (forIn ifs true fun c r => if r = true then do let ok ← isTrue c env' (eval c env'); pure (ForInStep.yield ok) else pure (ForInStep.yield r)) (fun ok s₄ => Qb ok ∧ Kp s' s₄) E' s')
    (helt : ∀ env' s' F' d (Qy : D → Prop) E', ER sB (innerCx c x out scope) env' s' F' (inner m out d) → f d Qy → wpAny (model prog w) A (eval elt env') (Post s' F' Qy) E' s')
    (hRR : ∀ acc C I s' m' vs n ys, s.heap.get? acc = none → s.heap.get? C = none → s.heap.get? I = none → acc ≠ C → s'.heap.Ns C m' → s'.heap.get? acc = some (lob vs n) → VRs s' (F1 F acc C I) vs ys → Ql ys → Kp s s' →
      compPost (model prog w) A E use Q (.ref acc) C (.ok .next) s') :
    wpAny (model prog w) A (comprehension (.ListComp elt [⟨.Name x px, iter, ifs, 0⟩] scope pos) scope env (firstIterPos [⟨.Name x px, iter, ifs, 0⟩] pos) (newList []) false (eval iter env) use) Q E s := by
  have hfree : ∀ p ∈ scope.names, p.2 = .free → ∃ a, env.cells.lookup p.1 = some a := fun p hp e => (hr.cels p.1 (hs.free p hp e)).2
  obtain ⟨cl, hcl, hcl2⟩ := closure_ok hfree
  have hset' : ∀ x, foldedSetIterable iter env x = pure x := by intro x; cases iter <;> first | rfl | cases hset
  refine wpAny_comprehension_free rfl hset' hcl hs.kind hs.locs (wpAny_mono hiter (fun v s₁ h₁ => ?_) fun _ _ e => e)
  obtain ⟨k₁, h₁⟩ := h₁
  have hr₁ := hr.up k₁
  refine wpAny_mono h₁ (fun it s₂ h₂ => ?_) fun _ _ e => e
  obtain ⟨ds, ⟨hlen, hp⟩, hit⟩ := h₂
  have no : ∀ {a : Addr}, s₁.heap.get? a = none → s.heap.get? a = none := fun {a} h => by
    cases e : s.heap.get? a with
    | none => rfl
    | some o => rw [k₁.hp _ _ e] at h; cases h
  refine comp_core (F := F) (RR := fun acc C => compPost (model prog w) A E use Q acc C) hr₁.live hs.nocell hs.kind hs.x hit hlen ?_ ?_ ?_ hp
  · intro acc C J v d s₃ m₃ Qb E' k hl ha hC hJ hn hm hv hq
    exact htests _ _ _ _ _ _ (er_inner hr₁ hs hcl2 k hl ha hC hJ hn hm hv) hq
  · intro acc C J v d s₃ m₃ Qy E' k hl ha hC hJ hn hm hv hq
    exact helt _ _ _ _ _ _ (er_inner hr₁ hs hcl2 k hl ha hC hJ hn hm hv) hq
  · intro acc C J s' m' vs n ys ha hC hJ hne hn hacc hvs hq k
    exact hRR acc C J s' m' vs n ys (no ha) (no hC) (no hJ) hne hn hacc hvs hq (k₁.trans k)

/-- the list that a comprehension hands on -/
theorem comp_post {A : Around} {E : Value → Shared → Prop} {s s' : Shared} {F : Addr → Prop} {Q : D → Prop} {acc C J : Addr} {m' : Str → Option Value} {vs : List Value} {n : Nat} {ys : List D} (hF : Live s F)
    (ha : s.heap.get? acc = none) (hC : s.heap.get? C = none) (hne : acc ≠ C) (hn : s'.heap.Ns C m') (hacc : s'.heap.get? acc = some (lob vs n)) (hvs : VRs s' (F1 F acc C J) vs ys) (hq : Q (.list ys)) (k : Kp s s') :
    compPost (model prog w) A E none (Post s F Q) (.ref acc) C (.ok .next) s' := by
  refine ⟨m', hn, fun h' hsb => ?_⟩
  have hk : ∀ b o, b ≠ C → s'.heap.get? b = some o → h'.get? b = some o := fun b o hb e => hsb.extBut b o hb e
  refine ⟨_, hq, .list acc n vs ys (hk _ _ hne hacc) (fun hf => ?_) ?_, ⟨fun b o e => hk b o (fun e' => by rw [e', hC] at e; cases e) (k.hp b o e), k.tk, k.os, k.gn⟩⟩
  · obtain ⟨o, e⟩ := hF _ hf; rw [ha] at e; cases e
  · exact VRs.keep (s := s') (s' := { s' with heap := h' }) (Nat.le_refl _) (fun b o hb e => hk b o (fun e' => hb (.inr (.inr (.inl e')))) e) (fun _ _ _ h => .inl h) hvs

/-! ## steps -/
theorem and2 {a b : Bool} (h : (a && b) = true) : a = true ∧ b = true := by
  cases a with
  | true => exact ⟨rfl, h⟩
  | false => exact Bool.noConfusion h

section
variable {α : Type} {M : Model} {A : Around} {E : Value → Shared → Prop} {s s₀ : Shared} {F : Addr → Prop}
theorem mono_post {T : Sem Value} {Q : D → Prop} {P : Value → Shared → Prop} (h : wpAny M A T (Post s F Q) E s₀) (k : ∀ v s₁ d, Q d → VR s₁ F v d → Kp s s₁ → P v s₁) : wpAny M A T P E s₀ :=
  wpAny_mono h (fun v s₁ p => let ⟨d, q, r, k'⟩ := p; k v s₁ d q r k') fun _ _ e => e
theorem mono_kp {T : Sem Value} {Q : D → Prop} {s₁ : Shared} (k : Kp s s₁) (h : wpAny M A T (Post s₁ F Q) E s₁) : wpAny M A T (Post s F Q) E s₁ :=
  wpAny_mono h (fun _ _ p => post_kp k p) fun _ _ e => e
theorem mono_kpb {T : Sem Bool} {Q : Bool → Prop} {s₁ : Shared} (k : Kp s s₁) (h : wpAny M A T (PostB s₁ Q) E s₁) : wpAny M A T (PostB s Q) E s₁ :=
  wpAny_mono h (fun _ _ p => postB_kp k p) fun _ _ e => e
theorem mono_b {T : Sem Bool} {Q : Bool → Prop} {P : Bool → Shared → Prop} (h : wpAny M A T (PostB s Q) E s₀) (k : ∀ b s₁, Q b → Kp s s₁ → P b s₁) : wpAny M A T P E s₀ :=
  wpAny_mono h (fun b s₁ p => k b s₁ p.1 p.2) fun _ _ e => e
noncomputable def PostL (s : Shared) (F : Addr → Prop) (n : Nat) (Q : List D → Prop) (vs : List Value) (s' : Shared) : Prop := vs.length = n ∧ ∃ ds, Q ds ∧ VRs s' F vs ds ∧ Kp s s'
theorem mono_l {T : Sem (List Value)} {n : Nat} {Q : List D → Prop} {P : List Value → Shared → Prop} (h : wpAny M A T (PostL s F n Q) E s₀) (k : ∀ vs s₁ ds, vs.length = n → Q ds → VRs s₁ F vs ds → Kp s s₁ → P vs s₁) : wpAny M A T P E s₀ :=
  wpAny_mono h (fun vs s₁ p => let ⟨e, ds, q, r, k'⟩ := p; k vs s₁ ds e q r k') fun _ _ e => e
end
theorem if_split {b : Bool} {p q r : Prop} (h : if b = true then p else q) (h1 : p → r) (h2 : q → r) : r := by
  cases b with
  | true => exact h1 h
  | false => exact h2 h

section
variable (prog : Program) (w : World) (sB : Shared) (L : Nat) (G : Gt)
noncomputable def WpE (e : I) : Prop := ∀ ⦃c : Cx⦄ ⦃x : Expr⦄ ⦃env : Env⦄ ⦃s : Shared⦄ ⦃F : Addr → Prop⦄ ⦃m : Vs⦄ ⦃A : Around⦄ ⦃E : Value → Shared → Prop⦄ ⦃Q : D → Prop⦄,
  ok G e c x = true → AOk L A → ER sB c env s F m → pe G e m Q → wpAny (model prog w) A (eval (emit G e c x) env) (Post s F Q) E s
noncomputable def WpT (e : I) : Prop := ∀ ⦃c : Cx⦄ ⦃x : Expr⦄ ⦃env : Env⦄ ⦃s : Shared⦄ ⦃F : Addr → Prop⦄ ⦃m : Vs⦄ ⦃A : Around⦄ ⦃E : Value → Shared → Prop⦄ ⦃Q : Bool → Prop⦄,
  ok G e c x = true → AOk L A → ER sB c env s F m → pt G e m Q → wpAny (model prog w) A (isTrue (emit G e c x) env (eval (emit G e c x) env)) (PostB s Q) E s
noncomputable def WpI (e : I) : Prop := ∀ ⦃c : Cx⦄ ⦃x : Expr⦄ ⦃env : Env⦄ ⦃s : Shared⦄ ⦃F : Addr → Prop⦄ ⦃m : Vs⦄ ⦃A : Around⦄ ⦃E : Value → Shared → Prop⦄ ⦃Q : List D → Prop⦄,
  ok G e c x = true → AOk L A → ER sB c env s F m → pit G e m Q → wpAny (model prog w) A (eval (emit G e c x) env) (PostI prog w A E s F Q) E s
noncomputable def WpL (as : List I) : Prop := ∀ ⦃c : Cx⦄ ⦃xs : List Expr⦄ ⦃pos : Pos⦄ ⦃env : Env⦄ ⦃s : Shared⦄ ⦃F : Addr → Prop⦄ ⦃m : Vs⦄ ⦃A : Around⦄ ⦃E : Value → Shared → Prop⦄ ⦃Q : List D → Prop⦄,
  oks G as c xs = true → (emits G as c xs).all notStar = true → AOk L A → ER sB c env s F m → pes G as m Q → wpAny (model prog w) A (spliced (backTo pos (starEach (emits G as c xs) env))) (PostL s F as.length Q) E s
end

theorem WpT.no {e : I} (h : ∀ m Q, ¬ pt G e m Q) : WpT prog w sB L G e := fun _ _ _ _ _ m _ _ Q _ _ _ p => (h m Q p).elim
theorem WpI.no {e : I} (h : ∀ m Q, ¬ pit G e m Q) : WpI prog w sB L G e := fun _ _ _ _ _ m _ _ Q _ _ _ p => (h m Q p).elim
/-- to walk along what is told -/
theorem WpI.of {e : I} (he : WpE prog w sB L G e) (h : ∀ m Q, pit G e m Q → pe G e m fun d => piter d Q) : WpI prog w sB L G e := fun _ _ _ _ _ m _ _ Q hc hA hr p =>
  mono_post (he hc hA hr (h m Q p)) fun _ _ _ p₁ rd k₁ => ⟨k₁, wp_iter hA.1 (hr.live.up k₁) rd p₁⟩
/-- to ask what is told -/
theorem WpT.of {e : I} (he : WpE prog w sB L G e) (h : ∀ m Q, pt G e m Q → pe G e m fun d => ptruth d Q) (hp : ∀ c x env Q A E s, wpAny (model prog w) A (eval (emit G e c x) env) (fun v s₁ => wpAny (model prog w) A (truthy v) Q E s₁) E s → wpAny (model prog w) A (isTrue (emit G e c x) env (eval (emit G e c x) env)) Q E s) : WpT prog w sB L G e := fun c x env s _ m A E Q hc hA hr p =>
  hp c x env _ A E s (mono_post (he hc hA hr (h m Q p)) fun _ _ _ p₁ rd k₁ => mono_kpb k₁ (wp_truth rd p₁))

theorem wpe_cst {d : D} : WpE prog w sB L G (.cst d) := fun _ _ _ _ _ _ _ _ _ hc _ _ h => wp_cst hc h
theorem wpe_neg {i : Int} : WpE prog w sB L G (.neg i) := fun _ _ _ s _ _ _ _ _ _ _ _ h =>
  PySem.wpAny_UnaryOp (wpAny_Constant_int (neg_int (post_tok (s := s) (k := 2) (d := .int _) h (.int _ _))))

theorem onVar {m : Vs} {k : Nat} {P : D → Prop} (h : match m[k]? with | some (some d) => P d | _ => False) : ∃ d, m[k]? = some (some d) ∧ P d := by
  cases e : m[k]? with
  | none => rw [e] at h; exact h.elim
  | some o =>
    rw [e] at h
    cases o with
    | none => exact h.elim
    | some d => exact ⟨d, rfl, h⟩
theorem wpe_var {k : Nat} : WpE prog w sB L G (.var k) := fun _ _ _ _ _ _ _ _ _ hc _ hr h =>
  let ⟨hd, _, hb⟩ := var_split hc
  let ⟨_, hm, hq⟩ := onVar h
  wp_var hr hb hd hm hq

theorem wpe_gval (hG : GOk prog w sB mg mb L G) {k : Nat} : WpE prog w sB L G (.gval k) := by
  intro c x env s F m A E Q hc hA hr h
  obtain ⟨p, hp, e⟩ := fn_get (gname_eq hc)
  obtain ⟨t, ht⟩ := hG.vals k p hp
  rw [e] at ht
  have h' : (match G.vals[k]? with | some p => Q (.str p.2) | none => False) := h
  rw [hp] at h'
  exact wp_global hG hr hc ht (post_here h' (.str _ _))

theorem wpe_bin {op : Operator} {a b : I} (ha : WpE prog w sB L G a) (hb : WpE prog w sB L G b) : WpE prog w sB L G (.bin op a b) := fun _ _ _ _ _ m _ _ Q hc hA hr h =>
  wpAny_BinOp (mono_post (ha (Q := fun x => pe G b m fun y => pbin op x y Q) (and2 hc).1 hA hr h) fun _ _ _ p₁ ra k₁ =>
    mono_post (hb (and2 hc).2 hA (hr.up k₁) p₁) fun _ _ _ p₂ rb k₂ => mono_kp (k₁.trans k₂) (wp_bin (hr.live.up (k₁.trans k₂)) (ra.up k₂) rb p₂))

theorem units_65 {A : Around} (hA : AOk L A) : A.units + 65 < cLine := by have := hA.2.2; omega

theorem wpe_cmp {op : CmpOp} {a b : I} (ha : WpE prog w sB L G a) (hb : WpE prog w sB L G b) : WpE prog w sB L G (.cmp op a b) := fun _ _ _ _ _ m _ _ Q hc hA hr h =>
  wpAny_Compare1 (mono_post (ha (Q := fun x => pe G b m fun y => pcmp op x y Q) (and2 (and2 hc).2).1 hA hr h) fun _ _ _ p₁ ra k₁ =>
    mono_post (hb (and2 (and2 hc).2).2 hA (hr.up k₁) p₁) fun _ _ _ p₂ rb k₂ => mono_kp (k₁.trans k₂) (wp_cmp (units_65 hA) (ra.up k₂) rb p₂)) ((Bool.not_eq_true' _).mp (and2 hc).1)

theorem wpt_cmp {op : CmpOp} {a b : I} (ha : WpE prog w sB L G a) (hb : WpE prog w sB L G b) : WpT prog w sB L G (.cmp op a b) := fun _ _ _ _ _ m _ _ Q hc hA hr h =>
  wpAny_isTrue_Compare1 (mono_post (ha (Q := fun x => pe G b m fun y => pcmp op x y fun d => ptruth d Q) (and2 (and2 hc).2).1 hA hr h) fun _ _ _ p₁ ra k₁ =>
    mono_post (hb (and2 (and2 hc).2).2 hA (hr.up k₁) p₁) fun _ _ _ p₂ rb k₂ => mono_post (wp_cmp (units_65 hA) (ra.up k₂) rb p₂) fun _ _ _ p₃ rd k₃ =>
      mono_kpb ((k₁.trans k₂).trans k₃) (wp_truth rd p₃)) ((Bool.not_eq_true' _).mp (and2 hc).1)

theorem wpe_ite {t a b : I} (ht : WpT prog w sB L G t) (ha : WpE prog w sB L G a) (hb : WpE prog w sB L G b) : WpE prog w sB L G (.ite t a b) := fun _ _ _ _ _ m _ _ Q hc hA hr h =>
  PyProof.Rows.IfExp_ (mono_b (ht (Q := fun t => if t = true then pe G a m Q else pe G b m Q) (and2 hc).1 hA hr h) fun ok _ p₁ k₁ => by
    cases ok with
    | true => exact mono_kp k₁ (ha (and2 (and2 hc).2).1 hA (hr.up k₁) p₁)
    | false => exact mono_kp k₁ (hb (and2 (and2 hc).2).2 hA (hr.up k₁) p₁))

theorem isOps_eq {o : BoolOp} {p : Pos} {x : Expr} (h : isOps o p x = true) : ∃ l r, x = .BoolOp o (l :: r) p := by
  cases x with
  | BoolOp o' vs p' =>
    cases vs with
    | nil => exact Bool.noConfusion h
    | cons l r =>
      have h1 : o' = o := of_decide_eq_true (and2 (and2 (and2 h).2).2).1
      have h2 : p' = p := of_decide_eq_true (and2 (and2 (and2 h).2).2).2
      exact ⟨l, r, by rw [h1, h2]⟩
  | _ => exact Bool.noConfusion h

theorem wpe_and {a b : I} (ha : WpE prog w sB L G a) (hb : WpE prog w sB L G b) : WpE prog w sB L G (.and a b) := by
  intro c x env s F m A E Q hc hA hr h
  have hb' := @hb c (btl x) env
  obtain ⟨l, r, e⟩ := isOps_eq (and2 hc).1
  show wpAny (model prog w) A (eval (.BoolOp .And (emit G a c (kid x 0) :: (parts (emit G b c (btl x))).k) x.pos) env) (Post s F Q) E s
  rw [e] at hb' ⊢
  refine BoolOp_and (mono_post (ha (Q := fun d => ptruth d fun t => if t = true then pe G b m Q else Q d) (and2 (and2 hc).2).1 hA hr h) fun va s₁ da p₁ ra k₁ => mono_b (wp_truth ra p₁) fun ok s₂ p₂ k₂ => ?_)
  cases ok with
  | true => exact mono_kp (k₁.trans k₂) (hb' (and2 (and2 hc).2).2 hA (hr.up (k₁.trans k₂)) p₂)
  | false => exact ⟨da, p₂, ra.up k₂, k₁.trans k₂⟩

theorem wpe_or {a b : I} (ha : WpE prog w sB L G a) (hb : WpE prog w sB L G b) : WpE prog w sB L G (.or a b) := by
  intro c x env s F m A E Q hc hA hr h
  have hb' := @hb c (btl x) env
  obtain ⟨l, r, e⟩ := isOps_eq (and2 hc).1
  show wpAny (model prog w) A (eval (.BoolOp .Or (emit G a c (kid x 0) :: (parts (emit G b c (btl x))).k) x.pos) env) (Post s F Q) E s
  rw [e] at hb' ⊢
  refine BoolOp_or (mono_post (ha (Q := fun d => ptruth d fun t => if t = true then Q d else pe G b m Q) (and2 (and2 hc).2).1 hA hr h) fun va s₁ da p₁ ra k₁ => mono_b (wp_truth ra p₁) fun ok s₂ p₂ k₂ => ?_)
  cases ok with
  | true => exact ⟨da, p₂, ra.up k₂, k₁.trans k₂⟩
  | false => exact mono_kp (k₁.trans k₂) (hb' (and2 (and2 hc).2).2 hA (hr.up (k₁.trans k₂)) p₂)

theorem wpt_and {a b : I} (ha : WpT prog w sB L G a) (hb : WpT prog w sB L G b) : WpT prog w sB L G (.and a b) := by
  intro c x env s F m A E Q hc hA hr h
  have hb' := @hb c (btl x) env
  obtain ⟨l, r, e⟩ := isOps_eq (and2 hc).1
  show wpAny (model prog w) A (isTrue (.BoolOp .And (emit G a c (kid x 0) :: (parts (emit G b c (btl x))).k) x.pos) env _) (PostB s Q) E s
  rw [e] at hb' ⊢
  refine PyProof.Rows.isTrue_and (mono_b (ha (Q := fun t => if t = true then pt G b m Q else Q false) (and2 (and2 hc).2).1 hA hr h) fun ok s₁ p₁ k₁ => ?_)
  cases ok with
  | true => exact mono_kpb k₁ (hb' (and2 (and2 hc).2).2 hA (hr.up k₁) p₁)
  | false => exact ⟨p₁, k₁⟩

theorem wpt_or {a b : I} (ha : WpT prog w sB L G a) (hb : WpT prog w sB L G b) : WpT prog w sB L G (.or a b) := by
  intro c x env s F m A E Q hc hA hr h
  have hb' := @hb c (btl x) env
  obtain ⟨l, r, e⟩ := isOps_eq (and2 hc).1
  show wpAny (model prog w) A (isTrue (.BoolOp .Or (emit G a c (kid x 0) :: (parts (emit G b c (btl x))).k) x.pos) env _) (PostB s Q) E s
  rw [e] at hb' ⊢
  refine PyProof.Rows.isTrue_or (mono_b (ha (Q := fun t => if t = true then Q true else pt G b m Q) (and2 (and2 hc).2).1 hA hr h) fun ok s₁ p₁ k₁ => ?_)
  cases ok with
  | true => exact ⟨p₁, k₁⟩
  | false => exact mono_kpb k₁ (hb' (and2 (and2 hc).2).2 hA (hr.up k₁) p₁)

theorem wpe_one {a : I} (ha : WpE prog w sB L G a) : WpE prog w sB L G (.one a) := fun _ _ _ _ _ _ _ _ _ hc hA hr h => BoolOp_one (ha hc hA hr h)
theorem one_true {A : Around} {E : Value → Shared → Prop} {s : Shared} {env : Env} {o : BoolOp} {y : Expr} {p : Pos} {wh : Sem Value} {Q : Bool → Prop} (h : wpAny (model prog w) A (isTrue y env (eval y env)) (PostB s Q) E s) :
    wpAny (model prog w) A (isTrue (.BoolOp o [y] p) env wh) (PostB s Q) E s := by
  cases o with
  | And =>
    refine PyProof.Rows.isTrue_and (wpAny_mono h (fun ok s₁ p₁ => ?_) fun _ _ e => e)
    cases ok with
    | true => exact isTrue_and_nil p₁
    | false => exact p₁
  | Or =>
    refine PyProof.Rows.isTrue_or (wpAny_mono h (fun ok s₁ p₁ => ?_) fun _ _ e => e)
    cases ok with
    | true => exact p₁
    | false => exact isTrue_or_nil p₁
theorem wpt_one {a : I} (ha : WpT prog w sB L G a) : WpT prog w sB L G (.one a) := fun _ _ _ _ _ _ _ _ _ hc hA hr h => one_true (ha hc hA hr h)

theorem wpe_isint (hG : GOk prog w sB mg mb L G) {a : I} (ha : WpE prog w sB L G a) : WpE prog w sB L G (.isint a) := by
  intro c x env s F m A E Q hc hA hr h
  have h1 := (and2 hc).1
  have h2 := (and2 (and2 hc).2).1
  have h3 := (and2 (and2 (and2 hc).2).2)
  refine wp_callb (b := .builtin "isinstance") (.inl ⟨_, rfl⟩) (by rw [List.all_cons, h1]; rfl) (wp_builtin hG hr h2 hG.isi ⟨rfl, ?_⟩)
  refine wpAny_items_cons (mono_post (ha (Q := fun d => pisint d Q) h3.2 hA hr h) fun va s₁ da p₁ ra k₁ => ?_) (star_cons h1)
  exact wpAny_items_cons (wp_builtin hG (hr.up k₁) h3.1 hG.int (spliced_nil (mono_kp k₁ (pisint_wp ra p₁)))) rfl

theorem wpe_bi (hG : GOk prog w sB mg mb L G) {k : Nat} {as : List I} (ha : WpL prog w sB L G as) : WpE prog w sB L G (.bi k as) := by
  intro c x env s F m A E Q hc hA hr h
  have h2 := (and2 (and2 hc).2).1
  have h3 := (and2 (and2 (and2 hc).2).2)
  obtain ⟨p, hp, e⟩ := fn_get (gname_eq (and2 hc).1)
  have hb := hG.bis k p hp
  rw [e] at hb
  cases as with
  | nil => exact Bool.noConfusion h3.1
  | cons a as =>
    refine wp_callb p.2.kind h2 (wp_builtin hG hr (and2 hc).1 hb ⟨rfl, ?_⟩)
    refine mono_l (ha (Q := fun ds => (match G.bis[k]? with | some p => pbi p.2 ds Q | none => False)) h3.2 h2 hA hr h) fun vs s₁ ds _ p₁ ra k₁ => ?_
    rw [hp] at p₁
    exact mono_kp k₁ (wp_bi hA.1 ra p₁)

theorem wpe_fn (hG : GOk prog w sB mg mb L G) {k : Nat} {as : List I} (ha : WpL prog w sB L G as) : WpE prog w sB L G (.fn k as) := by
  intro c x env s F m A E Q hc hA hr h
  have h2 := (and2 (and2 hc).2).1
  have h3 := (and2 (and2 (and2 hc).2).2)
  obtain ⟨p, hp, e⟩ := fn_get (gname_eq (and2 hc).1)
  obtain ⟨a, o, fd, e1, e2, e3, hcon⟩ := hG.fns k p hp
  rw [e] at e1
  cases as with
  | nil => exact Bool.noConfusion h3.1
  | cons a as =>
    refine wp_calld e3 h2 (wp_global hG hr (and2 hc).1 e1 ⟨rfl, ?_⟩)
    refine mono_l (ha (Q := fun ds => (match G.fns[k]? with | some p => p.2 ds Q | none => False)) h3.2 h2 hA hr h) fun vs s₁ ds _ p₁ ra k₁ => ?_
    rw [hp] at p₁
    have hr₁ := hr.up k₁
    exact ⟨hr₁.base.hp _ _ e2, mono_kp k₁ (hcon A s₁ F vs ds Q E hA hr₁.base hr₁.toks hr₁.live ra p₁)⟩

theorem wpe_meth (hG : GOk prog w sB mg mb L G) {me : Me} {a : I} {as : List I} (ha : WpE prog w sB L G a) (hs : WpL prog w sB L G as) : WpE prog w sB L G (.meth me a as) := by
  intro c x env s F m A E Q hc hA hr h
  have c1 := (and2 (and2 hc).2)
  have c2 := (and2 c1.2)
  have c3 := (and2 c2.2)
  have c4 := (and2 c3.2)
  have c5 := (and2 c4.2)
  cases as with
  | nil => exact Bool.noConfusion c4.1
  | cons b as =>
    have hl : (emits G (b :: as) c (args x)).length = (b :: as).length := by
      have : ∀ (as : List I) (xs : List Expr), (emits G as c xs).length = as.length := by
        intro as
        induction as with
        | nil => exact fun _ => rfl
        | cons a as ih => exact fun xs => congrArg (· + 1) (ih xs.tail)
      exact this _ _
    refine wp_mcall (and2 hc).1 (hl ▸ of_decide_eq_true c1.1) c2.1 c3.1 (mono_post (ha (Q := fun x => x.text.isSome = true ∧ pes G (b :: as) m fun ds => pmeth me x ds Q) c5.1 hA hr h) fun va s₁ da p₁ ra k₁ => ?_)
    obtain ⟨x, hx⟩ := Option.isSome_iff_exists.mp p₁.1
    obtain ⟨t, rfl⟩ := ra.text hx
    refine ⟨⟨_, _, rfl⟩, mono_l (hs c5.2 c3.1 hA (hr.up k₁) p₁.2) fun vs s₂ ds _ p₂ rs k₂ => ?_⟩
    have hr₂ := hr.up (k₁.trans k₂)
    obtain ⟨mc, hn, hk⟩ := hG.nb
    exact mono_kp (k₁.trans k₂) (wp_meth hr₂.live ⟨mc, hn.keeps hr₂.base.hp, hk⟩ (ra.up k₂) rs p₂)

theorem wpe_item {a i : I} (ha : WpE prog w sB L G a) (hi : WpE prog w sB L G i) : WpE prog w sB L G (.item a i) := fun _ _ _ _ _ m _ _ Q hc hA hr h =>
  wp_subs (and2 hc).1 (mono_post (ha (Q := fun x => pe G i m fun y => pitem (frm m) x y Q) (and2 (and2 hc).2).1 hA hr h) fun _ _ _ p₁ ra k₁ =>
    mono_post (hi (and2 (and2 hc).2).2 hA (hr.up k₁) p₁) fun _ s₂ _ p₂ rb k₂ =>
      have hr₂ := hr.up (k₁.trans k₂)
      let ⟨T, id, hl, hT⟩ := seqty (ra.up k₂) (pitem_ty p₂)
      ⟨⟨T, id, hl, hT s₂ fun _ _ e => e⟩, mono_kp (k₁.trans k₂) (wp_item hr₂.fr hr₂.toks (ra.up k₂) rb p₂)⟩)

/-- a slice, cut -/
theorem sl_cut {A : Around} {E : Value → Shared → Prop} {s s₁ : Shared} {F : Addr → Prop} {Q : D → Prop} {o l u : Value} {d : D} {x y : Option Int} (hF : Live s₁ F) (k₁ : Kp s s₁) (ra : VR s₁ F o d) (hl : ∀ s, Part s l x) (hu : ∀ s, Part s u y) (p : pslice d x y Q) :
    (∃ T id, typeLookup (.type T) "__getitem__" = pure (some (.builtin id)) ∧ ∀ s' : Shared, (∀ b o, s₁.heap.get? b = some o → s'.heap.get? b = some o) → s'.TypeIs o T) ∧
      wpAny (model prog w) A (getItem o (.ref s₁.heap.objs.size)) (Post s F Q) E { s₁ with heap := s₁.heap.push { cls := .type "slice", data := .fields #[l, u, .none] } } := by
  have k₂ : Kp s₁ { s₁ with heap := s₁.heap.push { cls := .type "slice", data := .fields #[l, u, .none] } } := Kp.of (push_keeps _) (Nat.le_refl _)
  exact ⟨seqty ra (pslice_ty p), mono_kp (k₁.trans k₂) (wp_slice (hF.up k₂) (ra.up k₂) (hl _) (hu _) (Heap.get?_push_size _ rfl) p)⟩

theorem wpe_slA {a : I} (ha : WpE prog w sB L G a) : WpE prog w sB L G (.slA a) := by
  intro c x env s F m A E Q hc hA hr h
  refine wp_subsl (mono_post (ha (Q := fun x => pslice x none none Q) hc hA hr h) fun va s₁ da p₁ ra k₁ => ?_)
  rw [evalPart_none]
  exact wpAny_pure (wpAny_pure (sl_cut (hr.live.up k₁) k₁ ra (fun _ => .none) (fun _ => .none) p₁))

theorem wpe_slL {a i : I} (ha : WpE prog w sB L G a) (hi : WpE prog w sB L G i) : WpE prog w sB L G (.slL a i) := by
  intro c x env s F m A E Q hc hA hr h
  refine wp_subsl (mono_post (ha (Q := fun x => pe G i m fun y => onI y fun l => pslice x (some l) none Q) (and2 hc).1 hA hr h) fun va s₁ da p₁ ra k₁ => ?_)
  rw [evalPart_some, evalPart_none]
  refine mono_post (hi (and2 hc).2 hA (hr.up k₁) p₁) fun vb s₂ db p₂ rb k₂ => ?_
  obtain ⟨l, t, rfl, p₂⟩ := onI_v rb p₂
  exact wpAny_pure (sl_cut (hr.live.up (k₁.trans k₂)) (k₁.trans k₂) (ra.up k₂) (fun _ => .int l t) (fun _ => .none) p₂)

theorem wpe_slU {a i : I} (ha : WpE prog w sB L G a) (hi : WpE prog w sB L G i) : WpE prog w sB L G (.slU a i) := by
  intro c x env s F m A E Q hc hA hr h
  refine wp_subsl (mono_post (ha (Q := fun x => pe G i m fun y => onI y fun l => pslice x none (some l) Q) (and2 hc).1 hA hr h) fun va s₁ da p₁ ra k₁ => ?_)
  rw [evalPart_none, evalPart_some]
  refine wpAny_pure (mono_post (hi (and2 hc).2 hA (hr.up k₁) p₁) fun vb s₂ db p₂ rb k₂ => ?_)
  obtain ⟨l, t, rfl, p₂⟩ := onI_v rb p₂
  exact sl_cut (hr.live.up (k₁.trans k₂)) (k₁.trans k₂) (ra.up k₂) (fun _ => .none) (fun _ => .int l t) p₂

theorem lt_thousand {n m : Nat} (e : n = m) (h : decide (m < 1000) = true) : n ≤ sizeLine := e ▸ Nat.le_trans (Nat.le_of_lt (of_decide_eq_true h)) (by decide)
theorem wpe_lst {as : List I} (hs : WpL prog w sB L G as) : WpE prog w sB L G (.lst as) := fun _ _ _ _ _ _ _ _ Q hc hA hr h =>
  PySem.wpAny_List (mono_l (hs (Q := fun ds => Q (.list ds)) (and2 (and2 hc).2).2 (and2 hc).1 hA hr h) fun _ _ _ hvl p₁ rs k₁ =>
    ⟨lt_thousand hvl (and2 (and2 hc).2).1, post_kp k₁ (post_list (hr.live.up k₁) rs p₁)⟩)
theorem wpe_tup {as : List I} (hs : WpL prog w sB L G as) : WpE prog w sB L G (.tup as) := fun _ _ _ _ _ _ _ _ Q hc hA hr h =>
  PySem.wpAny_Tuple (mono_l (hs (Q := fun ds => Q (.tup ds)) (and2 (and2 hc).2).2 (and2 hc).1 hA hr h) fun _ _ _ hvl p₁ rs k₁ =>
    ⟨lt_thousand hvl (and2 (and2 hc).2).1, post_kp k₁ (post_tup (hr.live.up k₁) rs p₁)⟩)

theorem wpe_comp {out : List Nat} {elt it : I} (hi : WpI prog w sB L G it) (he : WpE prog w sB L G elt) : WpE prog w sB L G (.comp out elt it) := by
  intro c x env s F m A E Q hc hA hr h
  have c1 := (and2 (and2 hc).2)
  have c2 := (and2 c1.2)
  show wpAny (model prog w) A (eval (.ListComp _ _ _ _) env) (Post s F Q) E s
  rw [eval_ListComp]
  exact wp_comp (use := none) hA hr (scopeOk_iff c1.1) (and2 hc).1 (hi c2.1 hA hr h) (fun env' s' F' d Qb E' _ hq => wpAny_tests_nil ⟨hq, Kp.refl _⟩)
    (fun env' s' F' d Qy E' hr' hq => he c2.2 hA hr' hq)
    (fun acc C J s' m' vs n ys ha hC hJ hne hn hacc hvs hq k => comp_post hr.live ha hC hne hn hacc hvs hq k)

theorem wpe_compif {out : List Nat} {elt it t : I} (hi : WpI prog w sB L G it) (ht : WpT prog w sB L G t) (he : WpE prog w sB L G elt) : WpE prog w sB L G (.compif out elt it t) := by
  intro c x env s F m A E Q hc hA hr h
  have c1 := (and2 (and2 hc).2)
  have c2 := (and2 c1.2)
  have c3 := (and2 c2.2)
  show wpAny (model prog w) A (eval (.ListComp _ _ _ _) env) (Post s F Q) E s
  rw [eval_ListComp]
  exact wp_comp (use := none) hA hr (scopeOk_iff c1.1) (and2 hc).1 (hi c2.1 hA hr h) (fun env' s' F' d Qb E' hr' hq => wpAny_tests_one (ht c3.2 hA hr' hq))
    (fun env' s' F' d Qy E' hr' hq => he c3.1 hA hr' hq)
    (fun acc C J s' m' vs n ys ha hC hJ hne hn hacc hvs hq k => comp_post hr.live ha hC hne hn hacc hvs hq k)

theorem rng_1 {A : Around} {E : Value → Shared → Prop} {s s₁ : Shared} {F : Addr → Prop} {a : Int} {ta : Tok} {Q : List D → Prop} (hA : A.handled = none) (hF : Live s₁ F) (k₁ : Kp s s₁) (p : (small a ∧ a.toNat ≤ 1048576) ∧ Q (irange 0 a)) :
    wpAny (model prog w) A (call (.type "range") [.int a ta]) (PostI prog w A E s F Q) E s₁ := by
  refine call_range_1 ?_
  have k₂ : Kp s₁ { s₁ with heap := s₁.heap.push { cls := .type "range", data := .fields #[.int 0 s₁.toks, .int a ta, .int 1 (s₁.toks + 1)] }, toks := s₁.toks + 1 + 1 } := Kp.of (push_keeps _) (Nat.le_add_right _ 2)
  exact ⟨k₁.trans k₂, wp_range_iter hA (hF.up k₂) (Heap.get?_push_size _ rfl) (by unfold small; decide) p.1.1 (by rw [Int.sub_zero]; exact p.1.2) p.2⟩
theorem rng_2 {A : Around} {E : Value → Shared → Prop} {s s₁ : Shared} {F : Addr → Prop} {a b : Int} {ta tb : Tok} {Q : List D → Prop} (hA : A.handled = none) (hF : Live s₁ F) (k₁ : Kp s s₁) (p : (small a ∧ small b ∧ (b - a).toNat ≤ 1048576) ∧ Q (irange a b)) :
    wpAny (model prog w) A (call (.type "range") [.int a ta, .int b tb]) (PostI prog w A E s F Q) E s₁ := by
  refine call_range_2 ?_
  have k₂ : Kp s₁ { s₁ with heap := s₁.heap.push { cls := .type "range", data := .fields #[.int a ta, .int b tb, .int 1 s₁.toks] }, toks := s₁.toks + 1 } := Kp.of (push_keeps _) (Nat.le_add_right _ 1)
  exact ⟨k₁.trans k₂, wp_range_iter hA (hF.up k₂) (Heap.get?_push_size _ rfl) p.1.1 p.1.2.1 p.1.2.2 p.2⟩
theorem rng_iter {A : Around} {E : Value → Shared → Prop} {s s₁ : Shared} {F : Addr → Prop} {vs : List Value} {ds : List D} {Q : List D → Prop} (hA : A.handled = none) (hF : Live s₁ F) (k₁ : Kp s s₁) (ra : VRs s₁ F vs ds) (p : prng ds Q) :
    wpAny (model prog w) A (call (.type "range") vs) (PostI prog w A E s F Q) E s₁ := by
  rcases on12_i p with ⟨a, rfl, h⟩ | ⟨a, b, rfl, h⟩
  · obtain ⟨v, rfl, r⟩ := ra.one_inv
    obtain ⟨a, t, rfl, h⟩ := onI_v r h
    exact rng_1 hA hF k₁ h
  · obtain ⟨v, u, rfl, r, r'⟩ := ra.two_inv
    obtain ⟨a, t, rfl, h⟩ := onI_v r h
    obtain ⟨b, u, rfl, h⟩ := onI_v r' h
    exact rng_2 hA hF k₁ h

theorem wpit_rng (hG : GOk prog w sB mg mb L G) {as : List I} (ha : WpL prog w sB L G as) : WpI prog w sB L G (.rng as) := by
  intro c x env s F m A E Q hc hA hr h
  have h2 := (and2 (and2 hc).2).1
  have h3 := (and2 (and2 (and2 hc).2).2)
  cases as with
  | nil => exact Bool.noConfusion h3.1
  | cons a as =>
    refine wp_callb (b := .type "range") (.inr ⟨_, rfl⟩) h2 (wp_builtin hG hr (and2 hc).1 hG.range ⟨rfl, ?_⟩)
    exact mono_l (ha (Q := fun ds => prng ds Q) h3.2 h2 hA hr h) fun vs s₁ ds _ p₁ ra k₁ => rng_iter hA.1 (hr.live.up k₁) k₁ ra p₁

theorem wpes_nil : WpL prog w sB L G [] := fun _ _ _ _ _ _ _ _ _ _ _ _ _ _ h => spliced_nil ⟨rfl, [], h, .nil, Kp.refl _⟩
theorem wpes_cons' {a : I} {as : List I} (ha : WpE prog w sB L G a) (hs : WpL prog w sB L G as) : WpL prog w sB L G (a :: as) := fun _ _ _ _ _ _ m _ _ Q hc hst hA hr h =>
  wpAny_items_cons (mono_post (ha (Q := fun d => pes G as m fun ds => Q (d :: ds)) (and2 hc).1 hA hr h) fun _ _ da p₁ ra k₁ =>
    mono_l (hs (and2 hc).2 (and2 hst).2 hA (hr.up k₁) p₁) fun _ _ ds hvl p₂ rs k₂ => ⟨congrArg (· + 1) hvl, da :: ds, p₂, .cons (ra.up k₂) rs, k₁.trans k₂⟩) (star_cons (and2 hst).1)

noncomputable def WpA (prog : Program) (w : World) (sB : Shared) (L : Nat) (G : Gt) (e : I) : Prop := WpE prog w sB L G e ∧ WpT prog w sB L G e ∧ WpI prog w sB L G e

theorem wpall (hG : GOk prog w sB mg mb L G) (e : I) : WpA prog w sB L G e :=
  I.rec (motive_1 := WpA prog w sB L G) (motive_2 := WpL prog w sB L G)
    (fun _ => ⟨wpe_cst, .no fun _ _ h => h, .of wpe_cst fun _ _ h => h⟩)
    (fun _ => ⟨wpe_neg, .no fun _ _ h => h, .no fun _ _ h => h⟩)
    (fun _ => ⟨wpe_var, .of wpe_var (fun _ _ h => h) (fun _ _ _ _ _ _ _ h => isTrue_plain h rfl), .of wpe_var fun _ _ h => h⟩)
    (fun _ => ⟨wpe_gval hG, .no fun _ _ h => h, .no fun _ _ h => h⟩)
    (fun _ _ _ a b => ⟨wpe_bin a.1 b.1, .no fun _ _ h => h, .of (wpe_bin a.1 b.1) fun _ _ h => h⟩)
    (fun _ _ _ a b => ⟨wpe_cmp a.1 b.1, wpt_cmp a.1 b.1, .no fun _ _ h => h⟩)
    (fun _ _ _ t a b => ⟨wpe_ite t.2.1 a.1 b.1, .no fun _ _ h => h, .no fun _ _ h => h⟩)
    (fun _ _ a b => ⟨wpe_and a.1 b.1, wpt_and a.2.1 b.2.1, .no fun _ _ h => h⟩)
    (fun _ _ a b => ⟨wpe_or a.1 b.1, wpt_or a.2.1 b.2.1, .no fun _ _ h => h⟩)
    (fun _ a => ⟨wpe_one a.1, wpt_one a.2.1, .no fun _ _ h => h⟩)
    (fun _ a => ⟨wpe_isint hG a.1, .of (wpe_isint hG a.1) (fun _ _ h => h) (fun _ _ _ _ _ _ _ h => isTrue_plain h rfl), .no fun _ _ h => h⟩)
    (fun _ _ a => ⟨wpe_bi hG a, .no fun _ _ h => h, .no fun _ _ h => h⟩)
    (fun _ _ a => ⟨wpe_fn hG a, .of (wpe_fn hG a) (fun _ _ h => h) (fun _ _ _ _ _ _ _ h => isTrue_plain h rfl), .no fun _ _ h => h⟩)
    (fun _ _ _ a s => ⟨wpe_meth hG a.1 s, .of (wpe_meth hG a.1 s) (fun _ _ h => h) (fun _ _ _ _ _ _ _ h => isTrue_plain h rfl), .no fun _ _ h => h⟩)
    (fun _ _ a i => ⟨wpe_item a.1 i.1, .no fun _ _ h => h, .no fun _ _ h => h⟩)
    (fun _ a => ⟨wpe_slA a.1, .no fun _ _ h => h, .of (wpe_slA a.1) fun _ _ h => h⟩)
    (fun _ _ a i => ⟨wpe_slL a.1 i.1, .no fun _ _ h => h, .of (wpe_slL a.1 i.1) fun _ _ h => h⟩)
    (fun _ _ a i => ⟨wpe_slU a.1 i.1, .no fun _ _ h => h, .of (wpe_slU a.1 i.1) fun _ _ h => h⟩)
    (fun _ s => ⟨wpe_lst s, .no fun _ _ h => h, .no fun _ _ h => h⟩)
    (fun _ s => ⟨wpe_tup s, .no fun _ _ h => h, .no fun _ _ h => h⟩)
    (fun _ s => ⟨fun _ _ _ _ _ _ _ _ _ _ _ _ h => h.elim, .no fun _ _ h => h, wpit_rng hG s⟩)
    (fun _ _ _ e i => ⟨wpe_comp i.2.2 e.1, .no fun _ _ h => h, .no fun _ _ h => h⟩)
    (fun _ _ _ _ e i t => ⟨wpe_compif i.2.2 t.2.1 e.1, .no fun _ _ h => h, .no fun _ _ h => h⟩)
    wpes_nil
    (fun _ _ a s => wpes_cons' a.1 s)
    e
theorem wpe (hG : GOk prog w sB mg mb L G) (e : I) : WpE prog w sB L G e := (wpall hG e).1
theorem wpt (hG : GOk prog w sB mg mb L G) (e : I) : WpT prog w sB L G e := (wpall hG e).2.1
theorem wpit (hG : GOk prog w sB mg mb L G) (e : I) : WpI prog w sB L G e := (wpall hG e).2.2
theorem wpes (hG : GOk prog w sB mg mb L G) (as : List I) : WpL prog w sB L G as := by
  induction as with
  | nil => exact wpes_nil
  | cons a as ih => exact wpes_cons' (wpe hG a) ih
end
end Mp
end

section
open PySem PySem.W PyProof.Rows PySem.Calls
set_option maxRecDepth 100000
namespace Mp

/-! ## little statements -/
inductive V where
  | no
  | val (d : D)
  | own (ds : List D)
noncomputable abbrev Ws := List V
noncomputable def V.vis : V → Option D
  | .no => none
  | .val d => some d
  | .own ds => some (.list ds)
noncomputable def V.hid : V → Option D
  | .val d => some d
  | _ => none
noncomputable def vis (W : Ws) : Vs := W.map V.vis
noncomputable def hid (W : Ws) : Vs := W.map V.hid

inductive Out where
  | go (W : Ws)
  | ret (d : D)
  | brk (W : Ws)
  | cont (W : Ws)

/-- a list that is new -/
inductive N where
  | lst (as : List I)
  | mul (as : List I) (b : I)
  | split (a b : I)
  | ite (t : I) (as bs : List I)
noncomputable def N.i : N → I
  | .lst as => .lst as
  | .mul as b => .bin .Mult (.lst as) b
  | .split a b => .meth .split a [b]
  | .ite t as bs => .ite t (.lst as) (.lst bs)

inductive S where
  | asn (k : Nat) (e : I)
  | asnf (k : Nat) (e : I)
  | asnc (own : Bool) (k : Nat) (out : List Nat) (elt it : I)
  | own (k : Nat) (e : N)
  | unp (ks : List Nat) (e : I)
  | swp (ks : List Nat) (es : List I)
  | aug (k : Nat) (op : Operator) (e : I)
  | extd (k : Nat) (e : I)
  | app (k : Nat) (e : I)
  | sit (k : Nat) (i e : I)
  | del (k : Nat) (last : Bool)
  | ite (t : I) (a b : List S)
  | for_ (k : Nat) (it : I) (body : List S)
  | whl (t : I) (body : List S)
  | ret (e : I)
  | brk
  | cont
  | pass
  | asrt (t : I)
  | rel (k : Nat)
  | orc (n : Nat)

noncomputable def pfor (body : Ws → (Out → Prop) → Prop) (k : Nat) : List D → Ws → (Out → Prop) → Prop
  | [], W, R => R (.go W)
  | d :: ds, W, R => body (W.set k (.val d)) fun o => match o with
    | .go W' => pfor body k ds W' R
    | .cont W' => pfor body k ds W' R
    | .brk W' => R (.go W')
    | .ret d => R (.ret d)
noncomputable def pwhl (test : Ws → (Bool → Prop) → Prop) (body : Ws → (Out → Prop) → Prop) : Nat → Ws → (Out → Prop) → Prop
  | 0, _, _ => False
  | n + 1, W, R => test W fun t => if t = true then body W fun o => (match o with
    | .go W' => pwhl test body n W' R
    | .cont W' => pwhl test body n W' R
    | .brk W' => R (.go W')
    | .ret d => R (.ret d)) else R (.go W)

noncomputable def setAll : List Nat → List D → Ws → Ws
  | k :: ks, d :: ds, W => setAll ks ds (W.set k (.val d))
  | _, _, W => W

noncomputable def fl (d : D) : Prop := match d with
  | .list _ => False
  | .tup _ => False
  | _ => True

structure Xt where
  G : Gt
  orcs : List (Stmt × (Ws → (Out → Prop) → Prop))

noncomputable def onLs (d : D) (P : List D → Prop) : Prop := match d with | .list ds => P ds | .tup ds => P ds | _ => False
noncomputable def onV (o : Option V) (P : D → Prop) : Prop := match o with | some (.val d) => P d | _ => False
noncomputable def onO (o : Option V) (P : List D → Prop) : Prop := match o with | some (.own ds) => P ds | _ => False
theorem onV_i {o : Option V} {P : D → Prop} (h : onV o P) : ∃ d, o = some (.val d) ∧ P d := by
  cases o with
  | none => exact False.elim h
  | some v => cases v with
    | val d => exact ⟨d, rfl, h⟩
    | _ => exact False.elim h
theorem onO_i {o : Option V} {P : List D → Prop} (h : onO o P) : ∃ ds, o = some (.own ds) ∧ P ds := by
  cases o with
  | none => exact False.elim h
  | some v => cases v with
    | own d => exact ⟨d, rfl, h⟩
    | _ => exact False.elim h
theorem onLs_i {d : D} {P : List D → Prop} (h : onLs d P) : ∃ ds, (d = .list ds ∨ d = .tup ds) ∧ P ds := by
  cases d with
  | list ds => exact ⟨ds, .inl rfl, h⟩
  | tup ds => exact ⟨ds, .inr rfl, h⟩
  | _ => exact False.elim h

mutual
noncomputable def px (X : Xt) : S → Ws → (Out → Prop) → Prop
  | .asn k e, W, R => pe X.G e (hid W) fun d => R (.go (W.set k (.val d)))
  | .asnf k e, W, R => pe X.G e (vis W) fun d => fl d ∧ R (.go (W.set k (.val d)))
  | .asnc own k out elt it, W, R => pit X.G it (hid W) fun ds => pcompif (fun _ Q => Q true) (fun d Q => pe X.G elt (inner (hid W) out d) Q) ds fun ys => R (.go (W.set k (if own = true then .own ys else .val (.list ys))))
  | .own k e, W, R => pe X.G e.i (hid W) fun d => onL d fun ds => R (.go (W.set k (.own ds)))
  | .unp ks e, W, R => pe X.G e (hid W) fun d => onLs d fun ds => ds.length = ks.length ∧ R (.go (setAll ks ds W))
  | .swp ks es, W, R => pes X.G es (hid W) fun ds => R (.go (setAll ks.reverse ds.reverse W))
  | .aug k op e, W, R => onV W[k]? fun o => pe X.G e (vis W) fun d => pinp op o d fun r => fl r ∧ R (.go (W.set k (.val r)))
  | .extd k e, W, R => onO W[k]? fun xs => pe X.G e (hid W) fun d => onL d fun ys => (xs.length + ys.length ≤ 1048576) ∧ R (.go (W.set k (.own (xs ++ ys))))
  | .app k e, W, R => onO W[k]? fun xs => pe X.G e (hid W) fun d => (xs.length ≤ 1048576) ∧ R (.go (W.set k (.own (xs ++ [d]))))
  | .sit k i e, W, R => onO W[k]? fun xs => pe X.G e (hid W) fun d => pe X.G i (hid W) fun j => onI j fun n => (0 ≤ n ∧ n < xs.length ∧ xs.length ≤ 1048576) ∧ R (.go (W.set k (.own (xs.set n.toNat d))))
  | .del k last, W, R => onO W[k]? fun xs => (xs ≠ [] ∧ xs.length ≤ 1048576) ∧ R (.go (W.set k (.own (if last = true then xs.dropLast else xs.tail))))
  | .ite t a b, W, R => pt X.G t (vis W) fun ok => if ok = true then pxs X a W R else pxs X b W R
  | .for_ k it body, W, R => pit X.G it (hid W) fun ds => pfor (fun W R => pxs X body W R) k ds W R
  | .whl t body, W, R => ∃ n, pwhl (fun W R => pt X.G t (vis W) R) (fun W R => pxs X body W R) n W R
  | .ret e, W, R => pe X.G e (vis W) fun d => R (.ret d)
  | .brk, W, R => R (.brk W)
  | .cont, W, R => R (.cont W)
  | .pass, W, R => R (.go W)
  | .asrt t, W, R => pt X.G t (vis W) fun ok => ok = true ∧ R (.go W)
  | .rel k, W, R => onO W[k]? fun xs => R (.go (W.set k (.val (.list xs))))
  | .orc n, W, R => (match X.orcs[n]? with | some p => p.2 W R | none => False)
noncomputable def pxs (X : Xt) : List S → Ws → (Out → Prop) → Prop
  | [], W, R => R (.go W)
  | st :: r, W, R => px X st W fun o => match o with
    | .go W' => pxs X r W' R
    | o => R o
end

noncomputable def notComp (x : Expr) : Bool := !(Nat.beq x.ctorIdx 8) && (!(Nat.beq x.ctorIdx 9) && !(Nat.beq x.ctorIdx 10))
noncomputable def notTup (x : Expr) : Bool := !(Nat.beq x.ctorIdx 25)

noncomputable def isLoc (c : Cx) (k : Nat) (x : Str) : Bool := x != "__debug__" && c.vars[k]? == some (x, false)
noncomputable def isCell (c : Cx) (k : Nat) (x : Str) : Bool := x != "__debug__" && c.vars[k]? == some (x, true)

noncomputable def nmV (c : Cx) (k : Nat) : Str := nmK c.vars k
noncomputable def areVars (c : Cx) : List Nat → Bool
  | [] => true
  | k :: ks => isVar c k (nmV c k) && areVars c ks
noncomputable def names (c : Cx) : List Nat → List Expr → List Expr
  | [], _ => []
  | k :: ks, xs => .Name (nmV c k) (hdE xs).pos :: names c ks xs.tail

/-- what lies below a statement -/
structure Ps where
  e : List Expr
  a : List Stmt
  b : List Stmt
  h : List ExceptHandler := []
noncomputable def partS : Stmt → Ps
  | .Return v _ => ⟨v.toList, [], [], []⟩
  | .Delete ts _ => ⟨ts, [], [], []⟩
  | .Assign ts v _ => ⟨v :: ts, [], [], []⟩
  | .AugAssign t _ v _ => ⟨[v, t], [], [], []⟩
  | .For t i b _ _ => ⟨[i, t], b, [], []⟩
  | .While t b _ _ => ⟨[t], b, [], []⟩
  | .If t a b _ => ⟨[t], a, b, []⟩
  | .Assert t _ _ => ⟨[t], [], [], []⟩
  | .Expr v _ => ⟨[v], [], [], []⟩
  | .Try b h _ _ _ => ⟨[], b, [], h⟩
  | _ => ⟨[], [], [], []⟩
noncomputable def vE (x : Stmt) : Expr := (partS x).e.headD default
noncomputable def tE (x : Stmt) : Expr := (partS x).e.getD 1 default
noncomputable def hdS (xs : List Stmt) : Stmt := xs.headD default
noncomputable def isRel : S → Bool
  | .rel _ => true
  | _ => false
noncomputable def nmT (x : Stmt) : Str := (parts (kid (vE x) 1)).y
noncomputable def scT (x : Stmt) : Scope := (parts (vE x)).sc

mutual
noncomputable def emitS (X : Xt) (c : Cx) : S → Stmt → Stmt
  | .asn k e, x => .Assign [.Name (nmV c k) (tE x).pos] (emit X.G e c (vE x)) x.pos
  | .asnf k e, x => .Assign [.Name (nmV c k) (tE x).pos] (emit X.G e c (vE x)) x.pos
  | .asnc _ k out elt it, x => .Assign [.Name (nmV c k) (tE x).pos] (.ListComp (emit X.G elt (innerCx c (nmT x) out (scT x)) (kid (vE x) 0)) [⟨.Name (nmT x) (kid (vE x) 1).pos, emit X.G it c (kid (vE x) 2), [], 0⟩] (scT x) (vE x).pos) x.pos
  | .own k e, x => .Assign [.Name (nmV c k) (tE x).pos] (emit X.G e.i c (vE x)) x.pos
  | .unp ks e, x => .Assign [.Tuple (names c ks (parts (tE x)).k) (parts (tE x)).n (tE x).pos] (emit X.G e c (vE x)) x.pos
  | .swp ks as, x => .Assign [.Tuple (names c ks (parts (tE x)).k) (parts (tE x)).n (tE x).pos] (.Tuple (emits X.G as c (parts (vE x)).k) (parts (vE x)).n (vE x).pos) x.pos
  | .aug k op e, x => .AugAssign (.Name (nmV c k) (tE x).pos) op (emit X.G e c (vE x)) x.pos
  | .extd k e, x => .AugAssign (.Name (nmV c k) (tE x).pos) .Add (emit X.G e c (vE x)) x.pos
  | .app k e, x => .Expr (.Call (.Attribute (.Name (nmV c k) (kid (kid (vE x) 0) 0).pos) "append" (kid (vE x) 0).pos) [emit X.G e c (kid (vE x) 1)] [] (vE x).pos) x.pos
  | .sit k i e, x => .Assign [.Subscript (.Name (nmV c k) (kid (tE x) 0).pos) (emit X.G i c (kid (tE x) 1)) (tE x).pos] (emit X.G e c (vE x)) x.pos
  | .del k last, x => .Delete [.Subscript (.Name (nmV c k) (kid (vE x) 0).pos) (bif last then .UnaryOp .USub (.Constant (.int 1) (parts (kid (kid (vE x) 1) 0)).n (kid (kid (vE x) 1) 0).pos) (kid (vE x) 1).pos else .Constant (.int 0) (parts (kid (vE x) 1)).n (kid (vE x) 1).pos) (vE x).pos] x.pos
  | .ite t a b, x => .If (emit X.G t c (vE x)) (emitSs X c a (partS x).a) (emitSs X c b (partS x).b) x.pos
  | .for_ k it body, x => .For (.Name (nmV c k) (tE x).pos) (emit X.G it c (vE x)) (emitSs X c body (partS x).a) [] x.pos
  | .whl t body, x => .While (emit X.G t c (vE x)) (emitSs X c body (partS x).a) [] x.pos
  | .ret e, x => .Return (some (emit X.G e c (vE x))) x.pos
  | .brk, x => .Break x.pos
  | .cont, x => .Continue x.pos
  | .pass, x => .Pass x.pos
  | .asrt t, x => .Assert (emit X.G t c (vE x)) none x.pos
  | .rel _, x => x
  | .orc n, x => (match X.orcs[n]? with | some p => p.1 | none => x)
noncomputable def emitSs (X : Xt) (c : Cx) : List S → List Stmt → List Stmt
  | [], _ => []
  | s :: r, xs => bif isRel s then emitSs X c r xs else emitS X c s (hdS xs) :: emitSs X c r xs.tail
end

mutual
noncomputable def okT (X : Xt) (c : Cx) : S → Stmt → Bool
  | .asn k e, x => isVar c k (nmV c k) && ((notComp (emit X.G e c (vE x)) || isCell c k (nmV c k)) && ok X.G e c (vE x))
  | .asnf k e, x => isVar c k (nmV c k) && (notComp (emit X.G e c (vE x)) && ok X.G e c (vE x))
  | .asnc _ k out elt it, x => isLoc c k (nmV c k) && (((tE x).pos.line == (vE x).pos.line) && (!((scT x).names.any fun q => q.1 == nmV c k && (q.2 == .local || q.2 == .cell)) &&
      (notGen (emit X.G it c (kid (vE x) 2)) && (scopeOk c (nmT x) out (scT x) && (ok X.G it c (kid (vE x) 2) && ok X.G elt (innerCx c (nmT x) out (scT x)) (kid (vE x) 0))))))
  | .own k e, x => isVar c k (nmV c k) && (notComp (emit X.G e.i c (vE x)) && ok X.G e.i c (vE x))
  | .unp ks e, x => areVars c ks && (decide (ks.length < 1000) && (notComp (emit X.G e c (vE x)) && (notTup (emit X.G e c (vE x)) && ok X.G e c (vE x))))
  | .swp ks as, x => (match ks, as with
    | [k1, k2], [_, _] => isLoc c k1 (nmV c k1) && (isLoc c k2 (nmV c k2) && (((hdE (parts (tE x)).k.tail).pos.line == (hdE (parts (tE x)).k).pos.line) && (decide (k1 ≠ k2) && ((emits X.G as c (parts (vE x)).k).all notStar &&
        (!((emits X.G as c (parts (vE x)).k).all (foldedForSure 8)) && (!((emits X.G as c (parts (vE x)).k).all (constantsAlone 8)) && oks X.G as c (parts (vE x)).k))))))
    | _, _ => false)
  | .aug k _ e, x => isVar c k (nmV c k) && ok X.G e c (vE x)
  | .extd k e, x => isVar c k (nmV c k) && ok X.G e c (vE x)
  | .app k e, x => isVar c k (nmV c k) && (((kid (vE x) 0).pos.endLine == (vE x).pos.line) && (notStar (emit X.G e c (kid (vE x) 1)) && ok X.G e c (kid (vE x) 1)))
  | .sit k i e, x => isVar c k (nmV c k) && (notComp (emit X.G e c (vE x)) && (ok X.G i c (kid (tE x) 1) && ok X.G e c (vE x)))
  | .del k _, _ => isVar c k (nmV c k)
  | .ite t a b, x => ok X.G t c (vE x) && (okTs X c a (partS x).a && okTs X c b (partS x).b)
  | .for_ k it body, x => isVar c k (nmV c k) && (notGen (emit X.G it c (vE x)) && (ok X.G it c (vE x) && okTs X c body (partS x).a))
  | .whl t body, x => ok X.G t c (vE x) && okTs X c body (partS x).a
  | .ret e, x => ok X.G e c (vE x)
  | .brk, _ => true
  | .cont, _ => true
  | .pass, _ => true
  | .asrt t, x => ok X.G t c (vE x)
  | .rel _, _ => false
  | .orc n, _ => X.orcs[n]?.isSome
noncomputable def okTs (X : Xt) (c : Cx) : List S → List Stmt → Bool
  | [], _ => true
  | s :: r, xs => bif isRel s then okTs X c r xs else okT X c s (hdS xs) && okTs X c r xs.tail
end

/-- all the statements of a body -/
noncomputable def okB (X : Xt) (c : Cx) (sts : List S) (body : List Stmt) : Prop := okTs X c sts body = true ∧ emitSs X c sts body = body

/-! ## the equations, one by one -/
section
variable {G : Gt} {m : Vs} {Q : D → Prop} {op : Operator} {co : CmpOp} {a b c i : I} {as : List I} {k : Nat} {d : D} {z : Int} {Qs : List D → Prop} {Qb : Bool → Prop} {me : Me} {out : List Nat}
theorem pe_cst : pe G (.cst d) m Q = Q d := propext Iff.rfl
theorem pe_neg : pe G (.neg z) m Q = Q (.int (-z)) := propext Iff.rfl
theorem pe_var : pe G (.var k) m Q = (match m[k]? with | some (some d) => Q d | _ => False) := propext Iff.rfl
theorem pe_gval : pe G (.gval k) m Q = (match G.vals[k]? with | some p => Q (.str p.2) | none => False) := propext Iff.rfl
theorem pe_bin : pe G (.bin op a b) m Q = pe G a m fun x => pe G b m fun y => pbin op x y Q := propext Iff.rfl
theorem pe_cmp : pe G (.cmp co a b) m Q = pe G a m fun x => pe G b m fun y => pcmp co x y Q := propext Iff.rfl
theorem pe_ite : pe G (.ite c a b) m Q = pt G c m fun t => if t = true then pe G a m Q else pe G b m Q := propext Iff.rfl
theorem pe_and : pe G (.and a b) m Q = pe G a m fun d => ptruth d fun t => if t = true then pe G b m Q else Q d := propext Iff.rfl
theorem pe_one : pe G (.one a) m Q = pe G a m Q := propext Iff.rfl
theorem pe_bi : pe G (.bi k as) m Q = pes G as m fun ds => (match G.bis[k]? with | some p => pbi p.2 ds Q | none => False) := propext Iff.rfl
theorem pe_fn : pe G (.fn k as) m Q = pes G as m fun ds => (match G.fns[k]? with | some p => p.2 ds Q | none => False) := propext Iff.rfl
theorem pe_meth : pe G (.meth me a as) m Q = pe G a m fun x => x.text.isSome = true ∧ pes G as m fun ds => pmeth me x ds Q := propext Iff.rfl
theorem pe_item : pe G (.item a i) m Q = pe G a m fun x => pe G i m fun y => pitem (frm m) x y Q := propext Iff.rfl
theorem pe_slA : pe G (.slA a) m Q = pe G a m fun x => pslice x none none Q := propext Iff.rfl
theorem pe_slL : pe G (.slL a i) m Q = pe G a m fun x => pe G i m fun y => onI y fun l => pslice x (some l) none Q := propext Iff.rfl
theorem pe_slU : pe G (.slU a i) m Q = pe G a m fun x => pe G i m fun y => onI y fun l => pslice x none (some l) Q := propext Iff.rfl
theorem pe_lst : pe G (.lst as) m Q = pes G as m fun ds => Q (.list ds) := propext Iff.rfl
theorem pe_tup : pe G (.tup as) m Q = pes G as m fun ds => Q (.tup ds) := propext Iff.rfl
theorem pe_isint : pe G (.isint a) m Q = pe G a m fun d => pisint d Q := propext Iff.rfl
theorem pe_comp : pe G (.comp out a b) m Q = pit G b m fun ds => pcompif (fun _ Q => Q true) (fun d Q => pe G a (inner m out d) Q) ds fun ys => Q (.list ys) := propext Iff.rfl
theorem pe_compif : pe G (.compif out a b c) m Q = pit G b m fun ds => pcompif (fun d Q => pt G c (inner m out d) Q) (fun d Q => pe G a (inner m out d) Q) ds fun ys => Q (.list ys) := propext Iff.rfl
theorem pes_nil : pes G [] m Qs = Qs [] := propext Iff.rfl
theorem pes_cons : pes G (a :: as) m Qs = pe G a m fun d => pes G as m fun ds => Qs (d :: ds) := propext Iff.rfl
theorem pt_cmp : pt G (.cmp co a b) m Qb = pe G a m fun x => pe G b m fun y => pcmp co x y fun d => ptruth d Qb := propext Iff.rfl
theorem pt_and : pt G (.and a b) m Qb = pt G a m fun t => if t = true then pt G b m Qb else Qb false := propext Iff.rfl
theorem pt_or : pt G (.or a b) m Qb = pt G a m fun t => if t = true then Qb true else pt G b m Qb := propext Iff.rfl
theorem pt_one : pt G (.one a) m Qb = pt G a m Qb := propext Iff.rfl
theorem pt_var : pt G (.var k) m Qb = (match m[k]? with | some (some d) => ptruth d Qb | _ => False) := propext Iff.rfl
theorem pt_isint : pt G (.isint a) m Qb = pe G a m fun d => pisint d fun d => ptruth d Qb := propext Iff.rfl
theorem pt_fn : pt G (.fn k as) m Qb = pes G as m fun ds => (match G.fns[k]? with | some p => p.2 ds fun d => ptruth d Qb | none => False) := propext Iff.rfl
theorem pt_meth : pt G (.meth me a as) m Qb = pe G a m fun x => x.text.isSome = true ∧ pes G as m fun ds => pmeth me x ds fun d => ptruth d Qb := propext Iff.rfl
theorem pit_rng : pit G (.rng as) m Qs = pes G as m fun ds => prng ds Qs := propext Iff.rfl
theorem pit_var : pit G (.var k) m Qs = (match m[k]? with | some (some d) => piter d Qs | _ => False) := propext Iff.rfl
theorem pit_slA : pit G (.slA a) m Qs = pe G a m fun x => pslice x none none fun d => piter d Qs := propext Iff.rfl
theorem pit_slL : pit G (.slL a i) m Qs = pe G a m fun x => pe G i m fun y => onI y fun l => pslice x (some l) none fun d => piter d Qs := propext Iff.rfl
theorem pit_slU : pit G (.slU a i) m Qs = pe G a m fun x => pe G i m fun y => onI y fun l => pslice x none (some l) fun d => piter d Qs := propext Iff.rfl
end
section
variable {Q : D → Prop} {Qb : Bool → Prop} {a b : Int} {x y z : UInt64} {t u : Str} {m n : Tok} {l k : List D} {p q : Bool}
theorem pbin_addI : pbin .Add (.int a) (.int b) Q = Q (.int (a + b)) := propext Iff.rfl
theorem pbin_subI : pbin .Sub (.int a) (.int b) Q = Q (.int (a - b)) := propext Iff.rfl
theorem pbin_modI : pbin .Mod (.int a) (.int b) Q = (b ≠ 0 ∧ Q (.int (a.fmod b))) := propext Iff.rfl
theorem pbin_fdivI : pbin .FloorDiv (.int a) (.int b) Q = ((b ≠ 0 ∧ small b) ∧ Q (.int (a.fdiv b))) := propext Iff.rfl
theorem pbin_mulI' : pbin .Mult (.int a) (.int b) Q = (small a ∧ Q (.int (a * b))) := propext Iff.rfl
theorem pbin_addF : pbin .Add (.flt x) (.flt y) Q = Q (.flt (Float64.add x y)) := propext Iff.rfl
theorem pbin_subF : pbin .Sub (.flt x) (.flt y) Q = Q (.flt (Float64.sub x y)) := propext Iff.rfl
theorem pbin_mulF : pbin .Mult (.flt x) (.flt y) Q = Q (.flt (Float64.mul x y)) := propext Iff.rfl
theorem pbin_divF : pbin .Div (.flt x) (.flt y) Q = (Float64.isZero y = false ∧ Q (.flt (Float64.div x y))) := propext Iff.rfl
theorem pbin_modF : pbin .Mod (.flt x) (.flt y) Q = (Float64.isZero y = false ∧ Q (.flt (Float64.divmod x y).snd)) := propext Iff.rfl
theorem pbin_subFI : pbin .Sub (.flt x) (.int b) Q = (small b ∧ Q (.flt (Float64.sub x (Float64.ofInt b)))) := propext Iff.rfl
theorem pbin_mulFI : pbin .Mult (.flt x) (.int b) Q = (small b ∧ Q (.flt (Float64.mul x (Float64.ofInt b)))) := propext Iff.rfl
theorem pbin_subB : pbin .Sub (.bool p) (.bool q) Q = Q (.int (bint p - bint q)) := propext Iff.rfl
theorem pbin_addL : pbin .Add (.list l) (.list k) Q = (l.length + k.length ≤ 1048576 ∧ Q (.list (l ++ k))) := propext Iff.rfl
theorem pbin_mulL : pbin .Mult (.list l) (.int b) Q = ((0 ≤ b ∧ b ≤ 1048576 ∧ l.length = 1) ∧ Q (.list (List.replicate b.toNat l).flatten)) := propext Iff.rfl
theorem pbin_text : pbin .Add (.str t) (.str u) Q = (t.length + u.length ≤ 1048576 ∧ Q (.str (t ++ u))) := propext Iff.rfl
theorem pcmp_ltI : pcmp .Lt (.int a) (.int b) Q = Q (.bool (decide (a < b))) := propext Iff.rfl
theorem pcmp_leI : pcmp .LtE (.int a) (.int b) Q = Q (.bool (decide (a ≤ b))) := propext Iff.rfl
theorem pcmp_gtI' : pcmp .Gt (.int a) (.int b) Q = Q (.bool (decide (a > b))) := propext Iff.rfl
theorem pcmp_geI : pcmp .GtE (.int a) (.int b) Q = Q (.bool (decide (a ≥ b))) := propext Iff.rfl
theorem pcmp_eqI : pcmp .Eq (.int a) (.int b) Q = Q (.bool (decide (a = b))) := propext Iff.rfl
theorem pcmp_neI' : pcmp .NotEq (.int a) (.int b) Q = Q (.bool (!decide (a = b))) := propext Iff.rfl
theorem pcmp_eqF : pcmp .Eq (.flt x) (.flt y) Q = Q (.bool (Float64.cmp x y == some Ordering.eq)) := propext Iff.rfl
theorem pcmp_eqFI : pcmp .Eq (.flt x) (.int b) Q = Q (.bool (Float64.cmpInt x b == some Ordering.eq)) := propext Iff.rfl
theorem pcmp_isB : pcmp .Is (.bool p) (.bool q) Q = Q (.bool (p == q)) := propext Iff.rfl
theorem pcmp_isnotB : pcmp .IsNot (.bool p) (.bool q) Q = Q (.bool (p != q)) := propext Iff.rfl
theorem pcmp_eq_strt : pcmp .Eq (.strt t m) (.strt u n) Q = Q (.bool (decide (t = u))) := propext Iff.rfl
theorem pinp_addI : pinp .Add (.int a) (.int b) Q = Q (.int (a + b)) := propext Iff.rfl
theorem pinp_subI : pinp .Sub (.int a) (.int b) Q = Q (.int (a - b)) := propext Iff.rfl
theorem pinp_text : pinp .Add (.str t) (.strt u m) Q = (t.length + u.length ≤ 1048576 ∧ Q (.str (t ++ u))) := propext Iff.rfl
theorem ptruth_bool : ptruth (.bool p) Qb = Qb p := propext Iff.rfl
theorem pbi_len : pbi .len [.list l] Q = (l.length ≤ 1048576 ∧ Q (.int l.length)) := propext Iff.rfl
theorem pbi_min : pbi .min [.int a, .int b] Q = Q (.int (if b < a then b else a)) := propext Iff.rfl
theorem pbi_max2 : pbi .max [.int a, .int b] Q = Q (.int (if b > a then b else a)) := propext Iff.rfl
theorem pbi_min3 : pbi .min [.flt x, .flt y, .flt z] Q = Q (.flt (fbest flt' x y z)) := propext Iff.rfl
theorem pbi_max3 : pbi .max [.flt x, .flt y, .flt z] Q = Q (.flt (fbest fgt x y z)) := propext Iff.rfl
theorem pmeth_split : pmeth .split (.str t) [.str u] Q = ((u.length ≠ 0 ∧ t.length ≤ 1048576) ∧ Q (.list ((Txt.split t u).map D.str))) := propext Iff.rfl
theorem pmeth_startswith : pmeth .startswith (.str t) [.str u] Q = Q (.bool (Txt.startswith t u)) := propext Iff.rfl
theorem pmeth_endswith : pmeth .endswith (.str t) [.str u] Q = Q (.bool (Txt.endswith t u)) := propext Iff.rfl
theorem pmeth_find : pmeth .find (.str t) [.str u, .int a, .int b] Q = ((0 ≤ a ∧ 0 ≤ b ∧ b ≤ t.length) ∧ Q (.int (occ1 (Builtin.Str.occurrences t u a.toNat b.toNat 1)))) := propext Iff.rfl
end
section
variable {X : Xt} {W : Ws} {R : Out → Prop} {e : I}
theorem pxs_nil : pxs X [] W R = R (.go W) := propext Iff.rfl
theorem pxs_cons {st : S} {r : List S} : pxs X (st :: r) W R = px X st W fun o => match o with
    | .go W' => pxs X r W' R
    | o => R o := propext Iff.rfl
theorem px_ret : px X (.ret e) W R = pe X.G e (vis W) fun d => R (.ret d) := propext Iff.rfl
end
end Mp
end

section
open PySem PySem.W PyProof.Rows PySem.Calls
set_option maxRecDepth 100000
namespace Mp

noncomputable abbrev Os' := List (Option Addr)
noncomputable def Tf (env : Env) (a : Addr) : Prop := a = env.locals ∨ ∃ x, env.cells.lookup x = some a
noncomputable def inO (O : Os') (a : Addr) : Prop := ∃ k : Nat, O[k]? = some (some a)
noncomputable def Ft (Fc : Addr → Prop) (env : Env) (O : Os') (a : Addr) : Prop := Fc a ∨ Tf env a ∨ inO O a

/-- what is fixed while a function runs -/
structure FR (sB s0 : Shared) (c : Cx) (env : Env) (Fc : Addr → Prop) : Prop where
  kind : env.scope.kind = .function
  gl : env.globals = mainGlobals
  bl : env.builtins = builtinsNs
  sb : Kp sB s0
  hF : Live s0 Fc
  glob : ∀ x ∈ c.gs, env.kindOf x = some .globalImplicit
  locs : ∀ x, (x, false) ∈ c.vars → env.kindOf x = some .local
  cels : ∀ x, (x, true) ∈ c.vars → env.kindOf x = some .cell ∧ ∃ a, env.cells.lookup x = some a
  cinj : ∀ x y a, env.cells.lookup x = some a → env.cells.lookup y = some a → x = y
  cloc : ∀ x a, env.cells.lookup x = some a → a ≠ env.locals
  tnew : ∀ a, Tf env a → s0.heap.get? a = none
  nodup : ∀ (k k' : Nat) x b b', c.vars[k]? = some (x, b) → c.vars[k']? = some (x, b') → k = k'

structure SR (s0 : Shared) (c : Cx) (env : Env) (Fc : Addr → Prop) (s : Shared) (O : Os') (W : Ws) : Prop where
  base : Kp s0 s
  toks : s.toks ≠ 0
  lenW : W.length = c.vars.length
  lenO : O.length = c.vars.length
  ns : ∃ n, s.heap.Ns env.locals n
  cell : ∀ x a, env.cells.lookup x = some a → ∃ ov, s.heap.IsCell a ov
  onew : ∀ (k : Nat) a, O[k]? = some (some a) → s0.heap.get? a = none ∧ ∃ vs n, s.heap.get? a = some (lob vs n)
  oinj : ∀ (k k' : Nat) a, O[k]? = some (some a) → O[k']? = some (some a) → k = k'
  vals : ∀ (k : Nat) x b d, c.vars[k]? = some (x, b) → W[k]? = some (.val d) → ∃ v, Slot env s x b v ∧ VR s (Ft Fc env O) v d
  owns : ∀ (k : Nat) x b ds, c.vars[k]? = some (x, b) → W[k]? = some (.own ds) → ∃ a vs n, O[k]? = some (some a) ∧ Slot env s x b (.ref a) ∧ s.heap.get? a = some (lob vs n) ∧ VRs s (Ft Fc env O) vs ds

section
variable {sB s0 : Shared} {c : Cx} {env : Env} {Fc : Addr → Prop} {s : Shared} {O : Os'} {W : Ws}

theorem not_loc {h : Heap} {m : Str → Option Value} {vs : List Value} {n : Nat} {a b : Addr} (hn : h.Ns b m) (ha : h.get? a = some (lob vs n)) : a ≠ b := by
  rintro rfl
  obtain ⟨o, es, ep, e, hd, _⟩ := hn
  rw [ha] at e; cases e; cases hd
theorem not_cel {h : Heap} {ov : Option Value} {vs : List Value} {n : Nat} {a b : Addr} (hn : h.IsCell b ov) (ha : h.get? a = some (lob vs n)) : a ≠ b := by
  rintro rfl
  obtain ⟨o, e, hd⟩ := hn
  rw [ha] at e; cases e; cases hd
theorem SR.notTf (h : SR s0 c env Fc s O W) {a : Addr} {vs : List Value} {n : Nat} (ha : s.heap.get? a = some (lob vs n)) : ¬ Tf env a := by
  rintro (rfl | ⟨x, hx⟩)
  · obtain ⟨m, hm⟩ := h.ns; exact not_loc hm ha rfl
  · obtain ⟨ov, hm⟩ := h.cell x a hx; exact not_cel hm ha rfl

theorem SR.live (hf : FR sB s0 c env Fc) (h : SR s0 c env Fc s O W) : Live s (Ft Fc env O) := by
  rintro a (ha | (rfl | ⟨x, hx⟩) | ⟨k, hk⟩)
  · obtain ⟨o, e⟩ := hf.hF a ha; exact ⟨o, h.base.hp _ _ e⟩
  · obtain ⟨m, o, _, _, e, _⟩ := h.ns; exact ⟨o, e⟩
  · obtain ⟨ov, o, e, _⟩ := h.cell x a hx; exact ⟨o, e⟩
  · obtain ⟨_, vs, n, e⟩ := h.onew k a hk; exact ⟨_, e⟩

theorem SR.up {s' : Shared} (h : SR s0 c env Fc s O W) (k : Kp s s') : SR s0 c env Fc s' O W where
  base := h.base.trans k
  toks := by have := h.toks; have := k.tk; omega
  lenW := h.lenW
  lenO := h.lenO
  ns := let ⟨n, e⟩ := h.ns; ⟨n, e.keeps k.hp⟩
  cell := fun x a e => let ⟨ov, e'⟩ := h.cell x a e; ⟨ov, e'.keeps k.hp⟩
  onew := fun i a e => let ⟨e1, vs, n, e2⟩ := h.onew i a e; ⟨e1, vs, n, k.hp _ _ e2⟩
  oinj := h.oinj
  vals := fun i x b d e1 e2 => let ⟨v, h1, h2⟩ := h.vals i x b d e1 e2; ⟨v, h1.up k, h2.up k⟩
  owns := fun i x b ds e1 e2 => let ⟨a, vs, n, h1, h2, h3, h4⟩ := h.owns i x b ds e1 e2; ⟨a, vs, n, h1, h2.up k, k.hp _ _ h3, h4.up k⟩

theorem SR.er_hid (hf : FR sB s0 c env Fc) (h : SR s0 c env Fc s O W) : ER sB c env s (Ft Fc env O) (hid W) where
  kind := hf.kind
  gl := hf.gl
  bl := hf.bl
  base := hf.sb.trans h.base
  toks := h.toks
  live := h.live hf
  len := by simp [hid, h.lenW]
  glob := hf.glob
  locs := hf.locs
  cels := hf.cels
  vals := by
    intro k x b d e1 e2
    simp only [hid, List.getElem?_map, Option.map_eq_some_iff] at e2
    obtain ⟨v, h1, h2⟩ := e2
    cases v with
    | val d' => simp [V.hid] at h2; subst h2; exact h.vals k x b d' e1 h1
    | _ => simp [V.hid] at h2

theorem SR.er_vis (hf : FR sB s0 c env Fc) (h : SR s0 c env Fc s O W) : ER sB c env s (fun a => Fc a ∨ Tf env a) (vis W) where
  kind := hf.kind
  gl := hf.gl
  bl := hf.bl
  base := hf.sb.trans h.base
  toks := h.toks
  live := fun a ha => h.live hf a (ha.elim .inl fun h => .inr (.inl h))
  len := by simp [vis, h.lenW]
  glob := hf.glob
  locs := hf.locs
  cels := hf.cels
  vals := by
    have sub : ∀ a, (Fc a ∨ Tf env a) → Ft Fc env O a := fun a h => h.elim .inl fun h => .inr (.inl h)
    intro k x b d e1 e2
    simp only [vis, List.getElem?_map, Option.map_eq_some_iff] at e2
    obtain ⟨v, h1, h2⟩ := e2
    cases v with
    | no => simp [V.vis] at h2
    | val d' =>
      simp [V.vis] at h2; subst h2
      obtain ⟨v, h3, h4⟩ := h.vals k x b d' e1 h1
      exact ⟨v, h3, h4.mono (Kp.refl s) fun a o _ ha => sub a ha⟩
    | own ds =>
      simp [V.vis] at h2; subst h2
      obtain ⟨a, vs, n, h3, h4, h5, h6⟩ := h.owns k x b ds e1 h1
      refine ⟨_, h4, .list a n vs ds h5 (fun hh => ?_) (h6.mono (Kp.refl s) fun a o _ ha => sub a ha)⟩
      rcases hh with hh | hh
      · obtain ⟨o, e⟩ := hf.hF a hh; rw [(h.onew k a h3).1] at e; cases e
      · exact h.notTf h5 hh

/-! ## names, stored -/
structure Stored (env : Env) (s s' : Shared) (x : Str) (b : Bool) (v : Value) : Prop where
  kp : ∀ a o, ¬ Tf env a → s.heap.get? a = some o → s'.heap.get? a = some o
  tk : s.toks ≤ s'.toks
  os : s'.os = s.os
  gn : s'.gens = s.gens
  slot : Slot env s' x b v
  other : ∀ y b' v', y ≠ x → Slot env s y b' v' → Slot env s' y b' v'
  ns : ∃ n, s'.heap.Ns env.locals n
  cell : ∀ y a, env.cells.lookup y = some a → ∃ ov, s'.heap.IsCell a ov

theorem ns_unique {h : Heap} {a : Addr} {m m' : Str → Option Value} (x : h.Ns a m) (y : h.Ns a m') : ∀ n, m n = m' n := by
  obtain ⟨o, es, ep, e, hd, _, hm⟩ := x
  obtain ⟨o', es', ep', e', hd', _, hm'⟩ := y
  rw [e] at e'; cases e'
  rw [hd] at hd'; cases hd'
  intro n; rw [← hm, ← hm']

theorem wp_store0 {prog : Program} {w : World} {A : Around} {E : Value → Shared → Prop} {k : Nat} {x : Str} {b : Bool} {v : Value} (hf : FR sB s0 c env Fc) (hns : ∃ n, s.heap.Ns env.locals n) (hcell : ∀ x a, env.cells.lookup x = some a → ∃ ov, s.heap.IsCell a ov)
    (hk : c.vars[k]? = some (x, b)) : wpAny (model prog w) A (storeName env x v) (fun _ s' => Stored env s s' x b v) E s := by
  have hmem := List.mem_of_getElem? hk
  obtain ⟨n, hn⟩ := hns
  cases b with
  | false =>
    refine wpAny_storeName_local (hf.locs x hmem) hn (fun h' hn' hs => ?_) (by simp [hf.kind])
    refine ⟨fun a o ha e => hs.extBut a o (fun e' => ha (.inl e')) e, Nat.le_succ _, rfl, rfl, ⟨_, hn', by simp⟩, fun y b' v' hy hsl => ?_, ⟨_, hn'⟩, fun y a e => ?_⟩
    · cases b' with
      | true => obtain ⟨a, h1, h2⟩ := hsl; exact ⟨a, h1, h2.sameBut hs (hf.cloc y a h1)⟩
      | false => obtain ⟨m, h1, h2⟩ := hsl; exact ⟨_, hn', by simp [hy, ns_unique hn h1 y, h2]⟩
    · obtain ⟨ov, h2⟩ := hcell y a e; exact ⟨ov, h2.sameBut hs (hf.cloc y a e)⟩
  | true =>
    obtain ⟨hkd, a, ha⟩ := hf.cels x hmem
    obtain ⟨ov, hov⟩ := hcell x a ha
    refine wpAny_storeName_cell hf.kind hkd ha hov fun h' hc' hs => ?_
    refine ⟨fun a' o ha' e => hs.extBut a' o (fun e' => ha' (.inr ⟨x, e' ▸ ha⟩)) e, Nat.le_refl _, rfl, rfl, ⟨a, ha, hc'⟩, fun y b' v' hy hsl => ?_, ⟨n, hn.sameBut hs (Ne.symm (hf.cloc x a ha))⟩, fun y a' e => ?_⟩
    · cases b' with
      | true => obtain ⟨a', h1, h2⟩ := hsl; exact ⟨a', h1, h2.sameBut hs fun e => hy (hf.cinj y x a' h1 (e ▸ ha))⟩
      | false => obtain ⟨m, h1, h2⟩ := hsl; exact ⟨m, h1.sameBut hs (Ne.symm (hf.cloc x a ha)), h2⟩
    · by_cases e' : a' = a
      · subst e'; exact ⟨_, hc'⟩
      · obtain ⟨ov', h2⟩ := hcell y a' e; exact ⟨ov', h2.sameBut hs e'⟩

theorem inO_set {k : Nat} {oa : Option Addr} {a : Addr} (h : inO (O.set k oa) a) : oa = some a ∨ inO O a := by
  obtain ⟨i, hi⟩ := h
  rw [List.getElem?_set] at hi
  split at hi
  · split at hi
    · exact .inl (by simpa using hi)
    · cases hi
  · exact .inr ⟨i, hi⟩

theorem kp_stored {s₁ s' : Shared} {x : Str} {b : Bool} {v : Value} (hf : FR sB s0 c env Fc) (h : SR s0 c env Fc s O W) (k : Kp s s₁) (st : Stored env s₁ s' x b v) : Kp s0 s' := by
  have hb := h.base.trans k
  refine ⟨fun a o e => st.kp a o (fun ht => by rw [hf.tnew a ht] at e; cases e) (hb.hp a o e), Nat.le_trans hb.tk st.tk, st.os.trans hb.os, ?_⟩
  rw [st.gn]; exact hb.gn

theorem SR.stored {s₁ s' : Shared} {k : Nat} {x : Str} {b : Bool} {v : Value} {V' : V} {oa : Option Addr} (hf : FR sB s0 c env Fc) (h : SR s0 c env Fc s O W) (kp : Kp s s₁) (hk : c.vars[k]? = some (x, b)) (st : Stored env s₁ s' x b v)
    (hnew : ∀ a, oa = some a → s.heap.get? a = none ∧ ∃ vs n, s'.heap.get? a = some (lob vs n))
    (hV : match V' with
      | .no => True
      | .val d => VR s' (Ft Fc env (O.set k oa)) v d
      | .own ds => ∃ a vs n, oa = some a ∧ v = .ref a ∧ s'.heap.get? a = some (lob vs n) ∧ VRs s' (Ft Fc env (O.set k oa)) vs ds) :
    SR s0 c env Fc s' (O.set k oa) (W.set k V') := by
  have hlt : k < c.vars.length := (List.getElem?_eq_some_iff.mp hk).1
  have hkeep : ∀ a o, ¬ Ft Fc env O a → s.heap.get? a = some o → s'.heap.get? a = some o := fun a o ha e => st.kp a o (fun ht => ha (.inr (.inl ht))) (kp.hp a o e)
  have hsub : ∀ a o, s.heap.get? a = some o → Ft Fc env (O.set k oa) a → Ft Fc env O a := by
    rintro a o e (h1 | h1 | h1)
    · exact .inl h1
    · exact .inr (.inl h1)
    · rcases inO_set h1 with h2 | h2
      · rw [(hnew a h2).1] at e; cases e
      · exact .inr (.inr h2)
  have htk : s.toks ≤ s'.toks := Nat.le_trans kp.tk st.tk
  have nek : ∀ {i : Nat} {y : Str} {b' : Bool}, c.vars[i]? = some (y, b') → i ≠ k → y ≠ x := fun h1 h2 e => h2 (hf.nodup _ _ _ _ _ (e ▸ h1) hk)
  exact {
    base := kp_stored hf h kp st
    toks := by have := h.toks; omega
    lenW := by simpa using h.lenW
    lenO := by simpa using h.lenO
    ns := st.ns
    cell := st.cell
    onew := by
      intro i a hi
      rw [List.getElem?_set] at hi
      split at hi
      · split at hi
        · have e : oa = some a := by simpa using hi
          obtain ⟨h1, h2⟩ := hnew a e
          refine ⟨?_, h2⟩
          cases e0 : s0.heap.get? a with
          | none => rfl
          | some o => rw [h.base.hp _ _ e0] at h1; cases h1
        · cases hi
      · obtain ⟨h1, vs, n, h2⟩ := h.onew i a hi
        exact ⟨h1, vs, n, st.kp _ _ (h.notTf h2) (kp.hp _ _ h2)⟩
    oinj := by
      intro i j a hi hj
      rw [List.getElem?_set] at hi hj
      split at hi <;> split at hj
      · omega
      · split at hi
        · have e : oa = some a := by simpa using hi
          obtain ⟨_, vs, n, h2⟩ := h.onew j a hj
          rw [(hnew a e).1] at h2; cases h2
        · cases hi
      · split at hj
        · have e : oa = some a := by simpa using hj
          obtain ⟨_, vs, n, h2⟩ := h.onew i a hi
          rw [(hnew a e).1] at h2; cases h2
        · cases hj
      · exact h.oinj i j a hi hj
    vals := by
      intro i y b' d h1 h2
      rw [List.getElem?_set] at h2
      split at h2
      · rename_i e; subst e
        rw [hk] at h1; cases h1
        rw [h.lenW] at h2
        rw [if_pos hlt] at h2
        cases h2
        exact ⟨v, st.slot, hV⟩
      · rename_i e
        obtain ⟨v', h3, h4⟩ := h.vals i y b' d h1 h2
        exact ⟨v', st.other _ _ _ (nek h1 (Ne.symm e)) (h3.up kp), h4.keep htk hkeep hsub⟩
    owns := by
      intro i y b' ds h1 h2
      rw [List.getElem?_set] at h2
      split at h2
      · rename_i e; subst e
        rw [hk] at h1; cases h1
        rw [h.lenW] at h2
        rw [if_pos hlt] at h2
        cases h2
        obtain ⟨a, vs, n, e1, e2, e3, e4⟩ := hV
        subst e2
        exact ⟨a, vs, n, by rw [List.getElem?_set, if_pos rfl, h.lenO, if_pos hlt, e1], st.slot, e3, e4⟩
      · rename_i e
        obtain ⟨a, vs, n, h3, h4, h5, h6⟩ := h.owns i y b' ds h1 h2
        exact ⟨a, vs, n, by rw [List.getElem?_set, if_neg e, h3], st.other _ _ _ (nek h1 (Ne.symm e)) (h4.up kp), st.kp _ _ (h.notTf h5) (kp.hp _ _ h5), h6.keep htk hkeep hsub⟩ }
end
end Mp
end

section
open PySem PySem.W PyProof.Rows PySem.Calls
set_option maxRecDepth 100000
namespace Mp
section
variable {prog : Program} {w : World} {A : Around} {E : Value → Shared → Prop} {s : Shared}

/-! ## changes of a list -/
theorem iadd_list {l b : Addr} {xs ys : List Value} {n n2 : Nat} {Q : Value → Shared → Prop} (hl : s.heap.get? l = some (lob xs n)) (hb : s.heap.get? b = some (lob ys n2)) (hsz : xs.length + ys.length ≤ 1048576)
    (h : ∀ h' n', h'.get? l = some (lob (xs ++ ys) n') → Heap.SameBut l s.heap h' → Q (.ref l) { s with heap := h' }) : wpAny (model prog w) A (inplaceOp .Add (.ref l) (.ref b)) Q E s := by
  have ha : s.TypeIs (.ref l) "list" := ⟨_, hl, rfl⟩
  have hbt : s.TypeIs (.ref b) "list" := ⟨_, hb, rfl⟩
  unfold inplaceOp
  refine wpAny_holding ?_
  have hfi : fillsInplaceSlot (.type "list") "add" (Operator.Add == .Add) = pure false := by
    unfold fillsInplaceSlot
    show (typeLookup (.type "list") (dunderI "add") >>= fun fi => pure (fi.isSome && !isSeqSlot fi)) = pure false
    rw [F.slot_list_iadd.lookup]
    show (pure (true && !isSeqSlotId "list.__iadd__") : Sem Bool) = pure false
    rw [show isSeqSlotId "list.__iadd__" = true from by decide +kernel]; rfl
  have hsi : seqSlot? (.type "list") (dunderI "add") = pure (some (.builtin "list.__iadd__")) := PySem.seqSlot_of F.slot_list_iadd.lookup (by decide +kernel)
  refine wpAny_bind (wpAny_typeOf ha (wpAny_bind (wpAny_of_eq hfi ?_)))
  show wpAny _ A (if false = true then _ else _) Q E s
  rw [if_neg Bool.false_ne_true]
  refine wpAny_bind (PyProof.Rows.binaryOp1_none (nm := "add") ha hbt noFill_list_add ?_)
  refine wpAny_bind (wpAny_of_eq hsi ?_)
  refine wpAny_bind (wpAny_rule (call_meets F.slot_list_iadd ha F.entry_list_iadd (F.args_list_iadd_2 _ _)
    (AutoSeq1.list___iadd___list_list_0 l xs.toArray n b ys.toArray n2 ?_ ?_ ?_) ⟨hl, hb, ?_⟩))
  · simp [Builtin.List.listTooLong, sizeLine]; omega
  · rw [List.size_toArray]; exact Nat.le_trans (by omega : xs.length ≤ 1048576) (by decide)
  · rw [List.size_toArray, List.size_toArray]; exact Nat.le_trans hsz (by decide)
  · have hu := IsL.update (n := n) hl (fun x => x ++ ys.toArray)
    have e : xs.toArray ++ ys.toArray = (xs ++ ys).toArray := by simp
    rw [e] at hu
    exact h _ _ hu (Heap.SameBut.update ..)

theorem setItem_lob {l : Addr} {xs : List Value} {n : Nat} {k : Int} {t : Tok} {v : Value} {Q : Unit → Shared → Prop} (hl : s.heap.get? l = some (lob xs n)) (h0 : 0 ≤ k) (hn : k < xs.length) (hsz : xs.length ≤ 1048576)
    (h : ∀ h' n', h'.get? l = some (lob (xs.set k.toNat v) n') → Heap.SameBut l s.heap h' → Q () { s with heap := h' }) : wpAny (model prog w) A (setItem (.ref l) (.int k t) v) Q E s := by
  have hT : s.TypeIs (.ref l) "list" := ⟨_, hl, rfl⟩
  unfold setItem
  try with_reducible refine wpAny_holding ?_
  first | refine wpAny_bind (wpAny_pure ?_) | skip
  refine wpAny_bind (wpAny_sequenceKey hT (by decide) ?_)
  refine wpAny_bind (wpAny_callSpecial?_slot (name := Str.ofString "__setitem__") hT slot_list_setitem
    (wpAny_call_entry slot_list_setitem hT entry_list_setitem ?_ (args_list_setitem _ _ _)))
  show wpAny _ _ (Builtin.List.listSubscript? (.int k t) >>= _) _ _ s
  refine wpAny_bind (wpAny_listSubscript_int (fitsIndex_of h0 (by omega)) ?_)
  obtain ⟨j, rfl⟩ := Int.eq_ofNat_of_zero_le h0
  have hj : j < xs.toArray.size := by rw [List.size_toArray]; omega
  have hx' : xs.toArray[j]? = some xs.toArray[j] := Array.getElem?_eq_getElem hj
  show wpAny _ _ ((seqItemAt l j >>= fun r => pure (r.map (j, ·))) >>= _) _ _ s
  refine wpAny_bind (wpAny_bind (wpAny_seqItemAt hl rfl (wpAny_pure ?_)))
  rw [hx']
  show wpAny _ _ (setSeqItemAt l j v >>= _) _ _ s
  have hu := IsL.update (n := n) hl (fun x => x.setIfInBounds j v)
  have e : xs.toArray.setIfInBounds j v = (xs.set j v).toArray := by simp
  have fin : Q () { s with heap := s.heap.update l (Obj.mapSeq (·.setIfInBounds j v)) } := by
    rw [e] at hu
    exact h _ _ hu (Heap.SameBut.update ..)
  refine wpAny_bind (wpAny_setSeqItemAt hl rfl ?_)
  first
    | exact wpAny_bind (wpAny_pure (wpAny_pure ⟨.none, rfl, wpAny_pure fin⟩))
    | exact wpAny_pure ⟨.none, rfl, wpAny_pure fin⟩

theorem delItem_lob {l : Addr} {xs : List Value} {n : Nat} {i : Int} {u : Tok} (last : Bool) {Q : Unit → Shared → Prop} (hl : s.heap.get? l = some (lob xs n)) (hne : xs ≠ []) (hi : i = if last = true then -1 else 0) (hsz : xs.length ≤ 1048576)
    (h : ∀ h' n', h'.get? l = some (lob (if last = true then xs.dropLast else xs.tail) n') → Heap.SameBut l s.heap h' → Q () { s with heap := h' }) : wpAny (model prog w) A (delItem (.ref l) (.int i u)) Q E s := by
  have hpos : 0 < xs.length := List.length_pos_iff.mpr hne
  refine P.delItem_list (n := n) (items := xs.toArray) (k := if last = true then xs.length - 1 else 0) hl ?_ ?_ ?_ (by rw [List.size_toArray]; exact Nat.le_trans hsz (by decide))
  · subst hi; cases last <;> decide
  · subst hi
    cases last
    · simp [seqIndex?]; omega
    · simp [seqIndex?]; omega
  · have hu := IsL.update (n := n) hl (fun x => x.eraseIdxIfInBounds (if last = true then xs.length - 1 else 0))
    have e : xs.toArray.eraseIdxIfInBounds (if last = true then xs.length - 1 else 0) = (if last = true then xs.dropLast else xs.tail).toArray := by
      cases last
      · simp [List.eraseIdx_zero]
      · simp [List.eraseIdx_length_sub_one]
    rw [e] at hu
    exact h _ _ hu (Heap.SameBut.update ..)

/-! ## unpacking -/
theorem wp_draw {F : Addr → Prop} {I : Addr} {fp : List Addr} {P : Nat → Value → Prop} {St : Nat → Heap → Prop} {ds : List D} {s₁ : Shared} (W : Walks prog w A I fp [I] ds.length P St) (hI : s₁.heap.get? I = none)
    (hP : ∀ i v, i < ds.length → P i v → ∃ d, ds[i]? = some d ∧ VR s₁ F v d) : ∀ (n i : Nat) (s : Shared) (Q : List Value → Shared → Prop), Kp s₁ s → St i s.heap → i + n = ds.length →
    (∀ s' vs, Kp s₁ s' → St ds.length s'.heap → VRs s₁ F vs (ds.drop i) → Q vs s') → wpAny (model prog w) A (draw (.ref I) n) Q E s
  | 0, i, s, Q, k, st, hi, h => by
    show wpAny _ _ (pure []) Q E s
    have : i = ds.length := by omega
    subst this
    exact wpAny_pure (h s [] k st (by rw [List.drop_length]; exact .nil))
  | n + 1, i, s, Q, k, st, hi, h => by
    have hlt : i < ds.length := by omega
    show wpAny _ _ (pyNext (.ref I) >>= _) Q E s
    refine wpAny_bind (wpAny_with_toks (Nat.le_refl _) (W.item i _ _ _ hlt st fun v h' tk hPv st' hk' htk => ?_))
    obtain ⟨d, hd, hv⟩ := hP i v hlt hPv
    have k₂ : Kp s₁ { s with heap := h', toks := tk } := k.step (fun b o e => hk' b o (fun hm => by rw [List.mem_singleton] at hm; rw [hm, hI] at e; cases e) (k.hp b o e)) (Nat.le_trans k.tk htk)
    refine wpAny_bind (wpAny_holding (wp_draw W hI hP n (i + 1) _ _ k₂ st' (by omega) fun s' vs k' st'' hvs => wpAny_pure (h s' (v :: vs) k' st'' ?_)))
    have e : ds.drop i = d :: ds.drop (i + 1) := by
      rw [List.drop_eq_getElem_cons hlt]
      rw [List.getElem?_eq_getElem hlt] at hd
      simp at hd; rw [hd]
    rw [e]
    exact .cons hv hvs

theorem wp_iter_tup (hA : A.handled = none) {F : Addr → Prop} (hF : Live s F) {v : Value} {ds : List D} (ha : VR s F v (.tup ds)) :
    wpAny (model prog w) A (pyIter v) (fun it s' => IterR prog w A s s' F it ds) E s := by
  cases ha with
  | tup l n vs ds e nf r =>
    have hlen := r.length
    refine wpAny_pyIter_tuple (items := vs.toArray) ⟨_, e, rfl, n, rfl⟩ ⟨s.heap.objs.size, _, _, _, rfl,
      by have := Walks.tuple (prog := prog) (w := w) hA s.heap.objs.size l (some_ne e (Nat.le_refl _)) vs.toArray; simpa [hlen] using this, ?_, ?_, fresh_none, ?_, ?_, ?_⟩
    · exact ⟨⟨_, Heap.get?_push_size _ rfl, rfl, rfl⟩, ⟨_, Heap.get?_push_of_some _ e, rfl, n, rfl⟩⟩
    · intro b hb
      rcases List.mem_cons.mp hb with rfl | hb
      · exact ⟨⟨_, Heap.get?_push_size _ rfl⟩, hF.fresh⟩
      · rw [List.mem_singleton] at hb; subst hb
        exact ⟨⟨_, Heap.get?_push_of_some _ e⟩, nf⟩
    · exact Kp.of (push_keeps _) (Nat.le_refl _)
    · intro i v _ hv
      exact r.get' i v (by simpa using hv)
    · rintro i h ⟨⟨o, ho, _, hd⟩, _⟩
      exact ⟨o, ho, fun vs n e' => by rw [hd] at e'; cases e'⟩

theorem wp_unpackItems (hA : A.handled = none) {F : Addr → Prop} (hF : Live s F) {v : Value} {d : D} {ds : List D} (hd : d = .list ds ∨ d = .tup ds) (ha : VR s F v d) (hlen : ds.length ≤ 1048576) :
    wpAny (model prog w) A (unpackItems v ds.length none) (fun vs s' => VRs s' F vs ds ∧ Kp s s') E s := by
  have hit : wpAny (model prog w) A (pyIter v) (fun it s' => IterR prog w A s s' F it ds) E s := by
    rcases hd with rfl | rfl
    · refine wpAny_mono (wp_iter hA hF ha (Q := fun es => es = ds) ⟨hlen, rfl⟩) (fun it s' h => ?_) fun _ _ e => e
      obtain ⟨es, ⟨_, rfl⟩, h⟩ := h
      exact h
    · exact wp_iter_tup hA hF ha
  have hni : ∀ {Q : Bool → Shared → Prop}, Q false s → wpAny (model prog w) A (notIterableAtAll v) Q E s := by
    intro Q hq
    unfold notIterableAtAll
    rcases hd with rfl | rfl
    · cases ha with
      | list l n vs ds e nf r =>
        exact wpAny_bind (wpAny_specialOf (s := s) (v := .ref l) (T := "list") ⟨_, e, rfl⟩ slot_list_iter.lookup (wpAny_pure hq))
    · cases ha with
      | tup l n vs ds e nf r =>
        exact wpAny_bind (wpAny_specialOf (s := s) (v := .ref l) (T := "tuple") ⟨_, e, rfl⟩ PySem.F.slot_tuple_iter.lookup (wpAny_pure hq))
  unfold unpackItems
  refine wpAny_bind (hni ?_)
  simp only [Bool.false_eq_true, if_false]
  refine wpAny_bind (wpAny_holding (wpAny_mono hit (fun it s₁ h₁ => ?_) fun _ _ e => e))
  obtain ⟨I, fp, P, St, rfl, W, hst, hfp, hI, k, hP, hIo⟩ := h₁
  refine wpAny_bind (wpAny_holding ?_)
  refine wp_draw (s₁ := s) W hI hP ds.length 0 s₁ _ k hst (by omega) fun s' vs k' st' hvs => ?_
  rw [List.drop_zero] at hvs
  rw [if_neg (by rw [hvs.length]; exact Nat.lt_irrefl _)]
  refine wpAny_bind (wpAny_holding (wpAny_with_toks (Nat.le_refl _) (W.done _ _ _ st' fun h' tk hk' htk => ?_)))
  simp only [Option.isSome_none, Bool.false_eq_true, if_false]
  have k₂ : Kp s { s' with heap := h', toks := tk } := k'.step (fun b o e => hk' b o (fun hm => by rw [List.mem_singleton] at hm; rw [hm, hI] at e; cases e) (k'.hp b o e)) (Nat.le_trans k'.tk htk)
  exact wpAny_pure ⟨hvs.up k₂, k₂⟩
end
end Mp
end

section
open PySem PySem.W PyProof.Rows PySem.Calls
set_option maxRecDepth 100000
namespace Mp
section
variable {sB s0 : Shared} {c : Cx} {env : Env} {Fc : Addr → Prop} {s : Shared} {O : Os'} {W : Ws}

theorem SR.mutated {s₁ : Shared} {h' : Heap} {tk : Nat} {k : Nat} {x : Str} {b : Bool} {xs ds' : List D} {a : Addr} {vs' : List Value} {n' : Nat} (hf : FR sB s0 c env Fc) (h : SR s0 c env Fc s O W) (kp : Kp s s₁)
    (hk : c.vars[k]? = some (x, b)) (ho : O[k]? = some (some a)) (hW : W[k]? = some (.own xs))
    (hs : ∀ b o, b ≠ a → s₁.heap.get? b = some o → h'.get? b = some o) (htk : s₁.toks ≤ tk) (hl : h'.get? a = some (lob vs' n')) (hv : VRs s₁ (Ft Fc env O) vs' ds') :
    SR s0 c env Fc { s₁ with heap := h', toks := tk } O (W.set k (.own ds')) := by
  have h1 := h.up kp
  have hlt : k < c.vars.length := (List.getElem?_eq_some_iff.mp hk).1
  obtain ⟨hna, vs, n, ha⟩ := h1.onew k a ho
  have hkeep : ∀ b o, ¬ Ft Fc env O b → s₁.heap.get? b = some o → h'.get? b = some o := fun b o hb e => hs b o (fun e' => hb (.inr (.inr ⟨k, e' ▸ ho⟩))) e
  have hsl : ∀ y b' v', Slot env s₁ y b' v' → Slot env { s₁ with heap := h', toks := tk } y b' v' := by
    intro y b' v' hsl
    cases b' with
    | true =>
      obtain ⟨a', e1, e2⟩ := hsl
      obtain ⟨o, e3, e4⟩ := e2
      exact ⟨a', e1, o, hs _ _ (fun e => not_cel ⟨o, e3, e4⟩ ha e.symm) e3, e4⟩
    | false =>
      obtain ⟨m, e1, e2⟩ := hsl
      exact ⟨m, e1.at' fun o e => hs _ o (fun e' => not_loc e1 ha e'.symm) e, e2⟩
  exact {
    base := ⟨fun b o e => hs b o (fun e' => by rw [e', hna] at e; cases e) (h1.base.hp b o e), Nat.le_trans h1.base.tk htk, h1.base.os, h1.base.gn⟩
    toks := by have := h1.toks; show tk ≠ 0; omega
    lenW := by simpa using h1.lenW
    lenO := h1.lenO
    ns := by obtain ⟨m, e1⟩ := h1.ns; exact ⟨m, e1.at' fun o e => hs _ o (fun e' => not_loc e1 ha e'.symm) e⟩
    cell := by
      intro y a' e
      obtain ⟨ov, o, e3, e4⟩ := h1.cell y a' e
      exact ⟨ov, o, hs _ _ (fun e => not_cel ⟨o, e3, e4⟩ ha e.symm) e3, e4⟩
    onew := by
      intro i a' hi
      obtain ⟨e1, vs2, n2, e2⟩ := h1.onew i a' hi
      by_cases e : a' = a
      · subst e; exact ⟨e1, _, _, hl⟩
      · exact ⟨e1, _, _, hs _ _ e e2⟩
    oinj := h1.oinj
    vals := by
      intro i y b' d e1 e2
      rw [List.getElem?_set] at e2
      split at e2
      · split at e2 <;> cases e2
      · obtain ⟨v, e3, e4⟩ := h1.vals i y b' d e1 e2
        exact ⟨v, hsl _ _ _ e3, e4.keep htk hkeep fun _ _ _ h => h⟩
    owns := by
      intro i y b' ds e1 e2
      rw [List.getElem?_set] at e2
      split at e2
      · rename_i e; subst e
        rw [h.lenW, if_pos hlt] at e2
        cases e2
        obtain ⟨a2, vs2, n2, e3, e4, e5, e6⟩ := h1.owns k y b' xs e1 hW
        rw [ho] at e3; cases e3
        exact ⟨a, vs', n', ho, hsl _ _ _ e4, hl, hv.keep htk hkeep fun _ _ _ h => h⟩
      · rename_i hne
        obtain ⟨a2, vs2, n2, e3, e4, e5, e6⟩ := h1.owns i y b' ds e1 e2
        have hne2 : a2 ≠ a := fun e => hne (h.oinj k i a ho (e ▸ e3))
        exact ⟨a2, vs2, n2, e3, hsl _ _ _ e4, hs _ _ hne2 e5, e6.keep htk hkeep fun _ _ _ h => h⟩ }

/-- an own list, let go -/
theorem SR.release {k : Nat} {x : Str} {b : Bool} {xs : List D} (hf : FR sB s0 c env Fc) (h : SR s0 c env Fc s O W) (hk : c.vars[k]? = some (x, b)) (hW : W[k]? = some (.own xs)) :
    SR s0 c env Fc s (O.set k none) (W.set k (.val (.list xs))) := by
  have hlt : k < c.vars.length := (List.getElem?_eq_some_iff.mp hk).1
  have hsub : ∀ a, Ft Fc env (O.set k none) a → Ft Fc env O a := by
    rintro a (h1 | h1 | h1)
    · exact .inl h1
    · exact .inr (.inl h1)
    · rcases inO_set h1 with h2 | h2
      · cases h2
      · exact .inr (.inr h2)
  have hO : ∀ {i : Nat} {a : Addr}, (O.set k none)[i]? = some (some a) → i ≠ k ∧ O[i]? = some (some a) := by
    intro i a hi
    rw [List.getElem?_set] at hi
    split at hi
    · split at hi <;> cases hi
    · rename_i e; exact ⟨Ne.symm e, hi⟩
  obtain ⟨a, vs, n, h3, h4, h5, h6⟩ := h.owns k x b xs hk hW
  exact {
    base := h.base
    toks := h.toks
    lenW := by simpa using h.lenW
    lenO := by simpa using h.lenO
    ns := h.ns
    cell := h.cell
    onew := fun i a hi => h.onew i a (hO hi).2
    oinj := fun i j a hi hj => h.oinj i j a (hO hi).2 (hO hj).2
    vals := by
      intro i y b' d e1 e2
      rw [List.getElem?_set] at e2
      split at e2
      · rename_i e; subst e
        rw [h.lenW, if_pos hlt] at e2
        cases e2
        rw [hk] at e1; cases e1
        refine ⟨_, h4, .list a n vs xs h5 (fun hh => ?_) (h6.mono (Kp.refl s) fun a o _ ha => hsub a ha)⟩
        rcases hh with hh | hh | ⟨i, hi⟩
        · obtain ⟨o, e⟩ := hf.hF a hh; rw [(h.onew k a h3).1] at e; cases e
        · exact h.notTf h5 hh
        · exact (hO hi).1 (h.oinj i k a (hO hi).2 h3)
      · obtain ⟨v, e3, e4⟩ := h.vals i y b' d e1 e2
        exact ⟨v, e3, e4.mono (Kp.refl s) fun a o _ ha => hsub a ha⟩
    owns := by
      intro i y b' ds e1 e2
      rw [List.getElem?_set] at e2
      split at e2
      · split at e2 <;> cases e2
      · rename_i hne
        obtain ⟨a2, vs2, n2, e3, e4, e5, e6⟩ := h.owns i y b' ds e1 e2
        exact ⟨a2, vs2, n2, by rw [List.getElem?_set, if_neg hne, e3], e4, e5, e6.mono (Kp.refl s) fun a o _ ha => hsub a ha⟩ }

/-! ## what a statement hands on -/
structure Kt (env : Env) (O : Os') (s s' : Shared) : Prop where
  hp : ∀ b o, ¬ (Tf env b ∨ inO O b) → s.heap.get? b = some o → s'.heap.get? b = some o
  tk : s.toks ≤ s'.toks
  gn : ∃ t : List GenState, s'.gens.toList = s.gens.toList ++ t
theorem gnx {a b c : Array GenState} (x : ∃ t, b.toList = a.toList ++ t) (y : ∃ t, c.toList = b.toList ++ t) : ∃ t, c.toList = a.toList ++ t :=
  let ⟨t, e⟩ := x; let ⟨u, f⟩ := y; ⟨t ++ u, by rw [f, e, List.append_assoc]⟩
theorem Kp.gx {s s' : Shared} (k : Kp s s') : ∃ t, s'.gens.toList = s.gens.toList ++ t := let ⟨t, e, _⟩ := k.gn; ⟨t, e⟩
noncomputable def Osub (O O' : Os') (s : Shared) : Prop := ∀ a, inO O' a → inO O a ∨ s.heap.get? a = none

inductive OkS (s0 : Shared) (c : Cx) (env : Env) (Fc : Addr → Prop) (s : Shared) (O : Os') (s' : Shared) : Flow → Out → Prop where
  | next (W O') : SR s0 c env Fc s' O' W → Osub O O' s → OkS s0 c env Fc s O s' .next (.go W)
  | brk (W O') : SR s0 c env Fc s' O' W → Osub O O' s → OkS s0 c env Fc s O s' .brk (.brk W)
  | cont (W O') : SR s0 c env Fc s' O' W → Osub O O' s → OkS s0 c env Fc s O s' .cont (.cont W)
  | ret (v d) : VR s' Fc v d → Kp s0 s' → OkS s0 c env Fc s O s' (.ret v) (.ret d)
noncomputable def PostS (s0 : Shared) (c : Cx) (env : Env) (Fc : Addr → Prop) (s : Shared) (O : Os') (R : Out → Prop) (f : Flow) (s' : Shared) : Prop := ∃ o, R o ∧ Kt env O s s' ∧ OkS s0 c env Fc s O s' f o

theorem Kt.of {s' : Shared} (k : Kp s s') : Kt env O s s' := ⟨fun b o _ e => k.hp b o e, k.tk, k.gx⟩
theorem Kt.trans {s₁ s₂ : Shared} {O₁ : Os'} (a : Kt env O s s₁) (b : Kt env O₁ s₁ s₂) (ho : Osub O O₁ s) : Kt env O s s₂ :=
  ⟨fun x o hx e => b.hp x o (fun h => h.elim (fun h => hx (.inl h)) fun h => (ho x h).elim (fun h => hx (.inr h)) fun h => by rw [h] at e; cases e) (a.hp x o hx e), Nat.le_trans a.tk b.tk, gnx a.gn b.gn⟩
theorem Osub.refl (O : Os') (s : Shared) : Osub O O s := fun _ h => .inl h
theorem Osub.trans {s₁ : Shared} {O₁ O₂ : Os'} (a : Osub O O₁ s) (b : Osub O₁ O₂ s₁) (k : ∀ b o, ¬ (Tf env b ∨ inO O b) → s.heap.get? b = some o → s₁.heap.get? b = some o) (hT : ∀ b, inO O₂ b → ¬ Tf env b) : Osub O O₂ s := fun x h => by
  by_cases hx : inO O x
  · exact .inl hx
  · rcases b x h with h' | h'
    · exact a x h'
    · right
      cases e : s.heap.get? x with
      | none => rfl
      | some o =>
        have := k x o (fun hh => hh.elim (hT x h) hx) e
        rw [this] at h'; cases h'

theorem SR.inO_notTf {s : Shared} {O : Os'} {W : Ws} (h : SR s0 c env Fc s O W) : ∀ b, inO O b → ¬ Tf env b := by
  rintro b ⟨k, hk⟩
  obtain ⟨_, vs, n, e⟩ := h.onew k b hk
  exact h.notTf e

theorem OkS.trans {s₁ s₂ : Shared} {O₁ : Os'} {f : Flow} {o : Out} (h : OkS s0 c env Fc s₁ O₁ s₂ f o) (a : Kt env O s s₁) (ho : Osub O O₁ s) : OkS s0 c env Fc s O s₂ f o := by
  cases h with
  | next W O' h1 h2 => exact .next W O' h1 (ho.trans h2 a.hp h1.inO_notTf)
  | brk W O' h1 h2 => exact .brk W O' h1 (ho.trans h2 a.hp h1.inO_notTf)
  | cont W O' h1 h2 => exact .cont W O' h1 (ho.trans h2 a.hp h1.inO_notTf)
  | ret v d h1 h2 => exact .ret v d h1 h2
theorem OkS.go_inv {s' : Shared} {f : Flow} {W : Ws} (h : OkS s0 c env Fc s O s' f (.go W)) : f = .next ∧ ∃ O', SR s0 c env Fc s' O' W ∧ Osub O O' s := by
  cases h with | next W O' h1 h2 => exact ⟨rfl, O', h1, h2⟩
theorem OkS.brk_inv {s' : Shared} {f : Flow} {W : Ws} (h : OkS s0 c env Fc s O s' f (.brk W)) : f = .brk ∧ ∃ O', SR s0 c env Fc s' O' W ∧ Osub O O' s := by
  cases h with | brk W O' h1 h2 => exact ⟨rfl, O', h1, h2⟩

theorem PostS.trans {s₁ s₂ : Shared} {O₁ : Os'} {R : Out → Prop} {f : Flow} (a : Kt env O s s₁) (ho : Osub O O₁ s) (h : PostS s0 c env Fc s₁ O₁ R f s₂) : PostS s0 c env Fc s O R f s₂ := by
  obtain ⟨o, hr, hk, h⟩ := h
  exact ⟨o, hr, a.trans hk ho, h.trans a ho⟩

theorem Osub_set (k : Nat) : Osub O (O.set k none) s := fun a h => by
  rcases inO_set h with h | h
  · cases h
  · exact .inl h

variable {prog : Program} {w : World} {A : Around} {E : Value → Shared → Prop}

/-- a value, stored under a name -/
theorem wp_setv {s₁ : Shared} {k : Nat} {x : Str} {b : Bool} {v : Value} {d : D} (hf : FR sB s0 c env Fc) (h : SR s0 c env Fc s O W) (kp : Kp s s₁) (hk : c.vars[k]? = some (x, b)) (hv : VR s₁ (Ft Fc env O) v d) :
    wpAny (model prog w) A (storeName env x v) (fun _ s' => Kt env O s s' ∧ SR s0 c env Fc s' (O.set k none) (W.set k (.val d)) ∧ ∀ a o, ¬ Tf env a → s₁.heap.get? a = some o → s'.heap.get? a = some o) E s₁ := by
  have h₁ := h.up kp
  refine wpAny_mono (wp_store0 hf h₁.ns h₁.cell hk) (fun _ s' st => ?_) fun _ _ e => e
  have hsub : ∀ a o, s₁.heap.get? a = some o → Ft Fc env (O.set k none) a → Ft Fc env O a := by
    rintro a o _ (h1 | h1 | h1)
    · exact .inl h1
    · exact .inr (.inl h1)
    · rcases inO_set h1 with h2 | h2
      · cases h2
      · exact .inr (.inr h2)
  refine ⟨⟨fun a o ha e => st.kp a o (fun ht => ha (.inl ht)) (kp.hp a o e), Nat.le_trans kp.tk st.tk, by rw [st.gn]; exact kp.gx⟩, ?_, st.kp⟩
  exact h.stored hf kp hk st (fun a e => by cases e) (hv.keep st.tk (fun a o ha e => st.kp a o (fun ht => ha (.inr (.inl ht))) e) hsub)

/-- a new list, stored under a name -/
theorem wp_seto {s₁ : Shared} {k : Nat} {x : Str} {b : Bool} {a : Addr} {vs : List Value} {n : Nat} {ds : List D} (hf : FR sB s0 c env Fc) (h : SR s0 c env Fc s O W) (kp : Kp s s₁) (hk : c.vars[k]? = some (x, b))
    (hn : s.heap.get? a = none) (hl : s₁.heap.get? a = some (lob vs n)) (hv : VRs s₁ (fun b => Ft Fc env O b ∨ b = a) vs ds) :
    wpAny (model prog w) A (storeName env x (.ref a)) (fun _ s' => Kt env O s s' ∧ SR s0 c env Fc s' (O.set k (some a)) (W.set k (.own ds)) ∧ Osub O (O.set k (some a)) s ∧ ∀ a o, ¬ Tf env a → s₁.heap.get? a = some o → s'.heap.get? a = some o) E s₁ := by
  have h₁ := h.up kp
  refine wpAny_mono (wp_store0 hf h₁.ns h₁.cell hk) (fun _ s' st => ?_) fun _ _ e => e
  have hT : ¬ Tf env a := h₁.notTf hl
  have hl' := st.kp a _ hT hl
  have hsub : ∀ a' o, s₁.heap.get? a' = some o → Ft Fc env (O.set k (some a)) a' → (Ft Fc env O a' ∨ a' = a) := by
    rintro a' o _ (h1 | h1 | h1)
    · exact .inl (.inl h1)
    · exact .inl (.inr (.inl h1))
    · rcases inO_set h1 with h2 | h2
      · cases h2; exact .inr rfl
      · exact .inl (.inr (.inr h2))
  refine ⟨⟨fun a o ha e => st.kp a o (fun ht => ha (.inl ht)) (kp.hp a o e), Nat.le_trans kp.tk st.tk, by rw [st.gn]; exact kp.gx⟩, ?_, fun a' ha' => ?_, st.kp⟩
  · refine h.stored hf kp hk st (fun a' e => ?_) ⟨a, vs, n, rfl, rfl, hl', hv.keep st.tk (fun a o ha e => st.kp a o (fun ht => ha (.inl (.inr (.inl ht)))) e) hsub⟩
    cases e; exact ⟨hn, _, _, hl'⟩
  · rcases inO_set ha' with h2 | h2
    · cases h2; exact .inr hn
    · exact .inl h2
end
end Mp
end

section
open PySem PySem.W PyProof.Rows PySem.Calls
set_option maxRecDepth 100000
namespace Mp
section
variable {prog : Program} {w : World} {sB : Shared} {mg mb : Str → Option Value} {L : Nat} {G : Gt}

mutual
theorem VR.keepI {s s' : Shared} {F : Addr → Prop} (tk : s.toks ≤ s'.toks) (hk : ∀ b o, (∃ vs n, o.data = .seq vs n) → s.heap.get? b = some o → s'.heap.get? b = some o) : ∀ {v d}, VR s F v d → VR s' F v d
  | _, _, .none => .none
  | _, _, .bool b => .bool b
  | _, _, .int i t => .int i t
  | _, _, .flt i t => .flt i t
  | _, _, .str i t => .str i t
  | _, _, .strt i t h0 h1 => .strt i t h0 (Nat.lt_of_lt_of_le h1 tk)
  | _, _, .list a n vs ds e nf r => .list a n vs ds (hk _ _ ⟨_, _, rfl⟩ e) nf (VRs.keepI tk hk r)
  | _, _, .tup a n vs ds e nf r => .tup a n vs ds (hk _ _ ⟨_, _, rfl⟩ e) nf (VRs.keepI tk hk r)
theorem VRs.keepI {s s' : Shared} {F : Addr → Prop} (tk : s.toks ≤ s'.toks) (hk : ∀ b o, (∃ vs n, o.data = .seq vs n) → s.heap.get? b = some o → s'.heap.get? b = some o) : ∀ {vs ds}, VRs s F vs ds → VRs s' F vs ds
  | _, _, .nil => .nil
  | _, _, .cons x r => .cons (VR.keepI tk hk x) (VRs.keepI tk hk r)
end

theorem SR.upI {s0 : Shared} {c : Cx} {env : Env} {Fc : Addr → Prop} {s : Shared} {O : Os'} {W : Ws} {I : Addr} {oI : Obj} {h' : Heap} {tk : Nat} (hf : FR sB s0 c env Fc) (h : SR s0 c env Fc s O W) (hI : s.heap.get? I = some oI) (hI1 : ∀ vs n, oI.data ≠ .seq vs n)
    (hT : ¬ Tf env I) (h0 : s0.heap.get? I = none) (htk : s.toks ≤ tk) (hk : ∀ b o, b ≠ I → s.heap.get? b = some o → h'.get? b = some o) : SR s0 c env Fc { s with heap := h', toks := tk } O W := by
  have hv : ∀ b o, (∃ vs n, o.data = .seq vs n) → s.heap.get? b = some o → h'.get? b = some o := fun b o hc e => hk b o (by rintro rfl; rw [hI] at e; cases e; obtain ⟨vs, n, hd⟩ := hc; exact hI1 _ _ hd) e
  have hsl : ∀ y b' v', Slot env s y b' v' → Slot env { s with heap := h', toks := tk } y b' v' := by
    intro y b' v' hsl
    cases b' with
    | true =>
      obtain ⟨a', e1, o, e3, e4⟩ := hsl
      exact ⟨a', e1, o, hk _ _ (by rintro rfl; exact hT (.inr ⟨y, e1⟩)) e3, e4⟩
    | false =>
      obtain ⟨m, e1, e2⟩ := hsl
      exact ⟨m, e1.at' fun o e => hk _ o (by rintro rfl; exact hT (.inl rfl)) e, e2⟩
  exact {
    base := ⟨fun b o e => hk b o (by rintro rfl; rw [h0] at e; cases e) (h.base.hp b o e), Nat.le_trans h.base.tk htk, h.base.os, h.base.gn⟩
    toks := by have := h.toks; show tk ≠ 0; omega
    lenW := h.lenW
    lenO := h.lenO
    ns := by obtain ⟨m, e1⟩ := h.ns; exact ⟨m, e1.at' fun o e => hk _ o (by rintro rfl; exact hT (.inl rfl)) e⟩
    cell := by
      intro y a' e
      obtain ⟨ov, o, e3, e4⟩ := h.cell y a' e
      exact ⟨ov, o, hk _ _ (by rintro rfl; exact hT (.inr ⟨y, e⟩)) e3, e4⟩
    onew := by
      intro i a' hi
      obtain ⟨e1, vs2, n2, e2⟩ := h.onew i a' hi
      exact ⟨e1, _, _, hv _ _ ⟨_, _, rfl⟩ e2⟩
    oinj := h.oinj
    vals := by
      intro i y b' d e1 e2
      obtain ⟨v, e3, e4⟩ := h.vals i y b' d e1 e2
      exact ⟨v, hsl _ _ _ e3, e4.keepI htk hv⟩
    owns := by
      intro i y b' ds e1 e2
      obtain ⟨a2, vs2, n2, e3, e4, e5, e6⟩ := h.owns i y b' ds e1 e2
      exact ⟨a2, vs2, n2, e3, hsl _ _ _ e4, hv _ _ ⟨_, _, rfl⟩ e5, e6.keepI htk hv⟩ }

/-! ## new lists -/
noncomputable def PostN (s : Shared) (F : Addr → Prop) (Q : List D → Prop) (v : Value) (s' : Shared) : Prop :=
  ∃ a vs n ds, v = .ref a ∧ s.heap.get? a = none ∧ s'.heap.get? a = some (lob vs n) ∧ VRs s' (fun b => F b ∨ b = a) vs ds ∧ Kp s s' ∧ Q ds

theorem postN_push {s : Shared} {F : Addr → Prop} {Q : List D → Prop} {vs : List Value} {ds : List D} {tk : Nat} (htk : s.toks ≤ tk) (r : VRs s F vs ds) (q : Q ds) : PostN s F Q (.ref s.heap.objs.size) { s with heap := s.heap.push (lob vs 0), toks := tk } := by
  have k : Kp s { s with heap := s.heap.push (lob vs 0), toks := tk } := Kp.of (push_keeps _) htk
  exact ⟨_, vs, 0, ds, rfl, fresh_none, Heap.get?_push_size _ rfl, r.mono k (fun a o e h => h.elim id fun e' => by rw [e', fresh_none] at e; cases e), k, q⟩

theorem postN_kp {s s₁ : Shared} {F : Addr → Prop} {Q : List D → Prop} {v : Value} {s' : Shared} (k : Kp s s₁) (h : PostN s₁ F Q v s') : PostN s F Q v s' := by
  obtain ⟨a, vs, n, ds, e1, e2, e3, e4, e5, e6⟩ := h
  refine ⟨a, vs, n, ds, e1, ?_, e3, e4, k.trans e5, e6⟩
  cases e : s.heap.get? a with
  | none => rfl
  | some o => rw [k.hp _ _ e] at e2; cases e2

noncomputable def onList (Q : List D → Prop) : D → Prop := fun d => onL d Q

noncomputable def WpN (prog : Program) (w : World) (sB : Shared) (L : Nat) (G : Gt) (e : I) : Prop := ∀ ⦃c : Cx⦄ ⦃x : Expr⦄ ⦃env : Env⦄ ⦃s : Shared⦄ ⦃F : Addr → Prop⦄ ⦃m : Vs⦄ ⦃A : Around⦄ ⦃E : Value → Shared → Prop⦄ ⦃Q : List D → Prop⦄,
  ok G e c x = true → AOk L A → ER sB c env s F m → pe G e m (onList Q) → wpAny (model prog w) A (eval (emit G e c x) env) (PostN s F Q) E s

theorem mono_n {A : Around} {E : Value → Shared → Prop} {s s₁ : Shared} {F : Addr → Prop} {T : Sem Value} {Q : List D → Prop} (k : Kp s s₁) (h : wpAny (model prog w) A T (PostN s₁ F Q) E s₁) : wpAny (model prog w) A T (PostN s F Q) E s₁ :=
  wpAny_mono h (fun _ _ p => postN_kp k p) fun _ _ e => e

theorem wpn_lst (hG : GOk prog w sB mg mb L G) {as : List I} : WpN prog w sB L G (.lst as) := fun _ _ _ _ _ _ _ _ Q hc hA hr h =>
  PySem.wpAny_List (mono_l (wpes hG as (Q := Q) (and2 (and2 hc).2).2 (and2 hc).1 hA hr h) fun _ _ _ hvl p₁ rs k₁ =>
    ⟨lt_thousand hvl (and2 (and2 hc).2).1, postN_kp k₁ (postN_push (Nat.le_refl _) rs p₁)⟩)

theorem mul_new {x y : D} {Q : List D → Prop} (h : pbin .Mult x y (onList Q)) : ∃ l k, x = .list l ∧ y = .int k ∧ (0 ≤ k ∧ k ≤ 1048576 ∧ l.length = 1) ∧ Q (List.replicate k.toNat l).flatten := by
  cases x with
  | list l =>
    cases y with
    | int k => exact ⟨l, k, rfl, rfl, h⟩
    | _ => exact False.elim h
  | int x =>
    cases y with
    | int y => exact False.elim h.2
    | _ => exact False.elim h
  | flt x =>
    cases y with
    | int y => exact False.elim h.2
    | _ => exact False.elim h
  | _ => exact False.elim h

theorem wpn_mul (hG : GOk prog w sB mg mb L G) {a b : I} : WpN prog w sB L G (.bin .Mult a b) := by
  intro c x env s F m A E Q hc hA hr h
  refine wpAny_BinOp (mono_post (wpe hG a (Q := fun x => pe G b m fun y => pbin .Mult x y (onList Q)) (and2 hc).1 hA hr h) fun _ _ _ p₁ ra k₁ => mono_post (wpe hG b (and2 hc).2 hA (hr.up k₁) p₁) fun _ s₂ _ p₂ rb k₂ => ?_)
  obtain ⟨l, k, rfl, rfl, ⟨q0, q1, q2⟩, hq⟩ := mul_new p₂
  obtain ⟨a, n, vs, rfl, e, nf, r⟩ := (ra.up k₂).list_inv
  obtain ⟨t, rfl⟩ := rb.int_inv
  have hl := r.length
  refine mul_list1 e q0 (Int.lt_of_le_of_lt q1 (by decide)) (by rw [hl, q2]) (by rw [hl, q2]; omega) ?_
  exact postN_kp (k₁.trans k₂) (postN_push (tk := s₂.toks) (Nat.le_refl _) (VRs.rep r _) hq)

theorem wpn_split (hG : GOk prog w sB mg mb L G) {a b : I} : WpN prog w sB L G (.meth .split a [b]) := by
  intro c x env s F m A E Q hc hA hr h
  have c1 := (and2 (and2 hc).2)
  have c2 := (and2 c1.2)
  have c3 := (and2 c2.2)
  have c4 := (and2 c3.2)
  have c5 := (and2 c4.2)
  refine wp_mcall (m := .split) (and2 hc).1 (of_decide_eq_true c1.1) c2.1 c3.1 (mono_post (wpe hG a (Q := fun x => x.text.isSome = true ∧ pes G [b] m fun ds => pmeth .split x ds (onList Q)) c5.1 hA hr h) fun va s₁ da p₁ ra k₁ => ?_)
  obtain ⟨x, hx⟩ := Option.isSome_iff_exists.mp p₁.1
  obtain ⟨t, rfl⟩ := ra.text hx
  refine ⟨⟨_, _, rfl⟩, mono_l (wpes hG [b] c5.2 c3.1 hA (hr.up k₁) p₁.2) fun vs s₂ ds _ p₂ rs k₂ => ?_⟩
  obtain ⟨x, t', y, u, e1, rfl, ⟨h1, h2⟩, p₂⟩ := tt_inv (P := fun x y => (y.length ≠ 0 ∧ x.length ≤ 1048576) ∧ Q ((Txt.split x y).map D.str)) (ra.up k₂) rs p₂
  rw [e1]
  refine call_split0 h1 h2 fun l tk htk hl => ?_
  rw [← hl] at p₂
  exact postN_kp (k₁.trans k₂) (postN_push htk (VRs_strs l) p₂)

theorem wpn_ite (hG : GOk prog w sB mg mb L G) {t a b : I} (ha : WpN prog w sB L G a) (hb : WpN prog w sB L G b) : WpN prog w sB L G (.ite t a b) := fun _ _ _ _ _ m _ _ Q hc hA hr h =>
  PyProof.Rows.IfExp_ (mono_b (wpt hG t (Q := fun t => if t = true then pe G a m (onList Q) else pe G b m (onList Q)) (and2 hc).1 hA hr h) fun ok _ p₁ k₁ => by
    cases ok with
    | true => exact mono_n k₁ (ha (and2 (and2 hc).2).1 hA (hr.up k₁) p₁)
    | false => exact mono_n k₁ (hb (and2 (and2 hc).2).2 hA (hr.up k₁) p₁))

theorem wpn (hG : GOk prog w sB mg mb L G) (n : N) : WpN prog w sB L G n.i := by
  cases n with
  | lst as => exact wpn_lst hG
  | mul as b => exact wpn_mul hG
  | split a b => exact wpn_split hG
  | ite t as bs => exact wpn_ite hG (wpn_lst hG) (wpn_lst hG)
end
end Mp
end

section
open PySem PySem.W PyProof.Rows PySem.Calls
set_option maxRecDepth 100000
namespace Mp
section
variable {prog : Program} {w : World} {sB s0 : Shared} {mg mb : Str → Option Value} {L : Nat} {X : Xt} {c : Cx} {env : Env} {Fc : Addr → Prop}

theorem VR.flat {s : Shared} {F F' : Addr → Prop} {v : Value} {d : D} (h : VR s F v d) (hd : fl d) : VR s F' v d := by
  cases h with
  | list => exact hd.elim
  | tup => exact hd.elim
  | none => exact .none
  | bool b => exact .bool b
  | int i t => exact .int i t
  | flt x t => exact .flt x t
  | str x t => exact .str x t
  | strt x t h0 h1 => exact .strt x t h0 h1

theorem post_go {s s' : Shared} {O O' : Os'} {W : Ws} {R : Out → Prop} (h : R (.go W)) (k : Kt env O s s') (hs : SR s0 c env Fc s' O' W) (ho : Osub O O' s) : PostS s0 c env Fc s O R .next s' := ⟨.go W, h, k, .next W O' hs ho⟩

theorem swaps_no {v : Expr} {t : Option Expr} {n : Nat} (h : notComp v = true) : swapsWith v t n env = pure false := by
  cases v <;> first | rfl | cases h
theorem swaps_cell {v : Expr} {y : Str} {p : Pos} {n : Nat} (hk : env.kindOf y = some .cell) : swapsWith v (some (.Name y p)) n env = pure false := by
  cases v <;> first
    | rfl
    | (show pure _ = pure _
       rw [hk]
       simp [show (NameKind.cell == NameKind.local) = false from rfl])
theorem swaps_yes {e : Expr} {gs : List Comprehension} {scope : Scope} {q p : Pos} {y : Str} {n : Nat} (hk : env.scope.kind = .function) (hy : env.kindOf y = some .local) (hl : (p.line == q.line) = true) (hn : (!(scope.names.any fun r => r.1 == y && (r.2 == .local || r.2 == .cell))) = true) :
    swapsWith (.ListComp e gs scope q) (some (.Name y p)) n env = pure true := by
  show pure (env.blockKind == .function && env.kindOf y == some .local && p.line == q.line && !(scope.names.any fun r => r.1 == y && (r.2 == .local || r.2 == .cell))) = pure true
  have hb : env.blockKind = .function := by simp [Env.blockKind, hk, ScopeKind.isAnnotationScope]
  rw [hb, hy, hl, hn]
  rfl

theorem isVar_get {k : Nat} {y : Str} (h : isVar c k y = true) : ∃ b, c.vars[k]? = some (y, b) := (var_split h).2
theorem isLoc_get {k : Nat} {y : Str} (h : isLoc c k y = true) : c.vars[k]? = some (y, false) := by
  simp only [isLoc, Bool.and_eq_true, beq_iff_eq] at h; exact h.2
theorem isCell_get {k : Nat} {y : Str} (h : isCell c k y = true) : c.vars[k]? = some (y, true) := by
  simp only [isCell, Bool.and_eq_true, beq_iff_eq] at h; exact h.2

theorem wp_load {A : Around} {E : Value → Shared → Prop} {s : Shared} {k : Nat} {x : Str} {b : Bool} {v : Value} {Q : Value → Shared → Prop} (hf : FR sB s0 c env Fc) (hk : c.vars[k]? = some (x, b)) (hs : Slot env s x b v) (h : Q v s) :
    wpAny (model prog w) A (loadName env x) Q E s := by
  have hmem := List.mem_of_getElem? hk
  cases b with
  | true => obtain ⟨a, h1, h2⟩ := hs; exact wpAny_loadName_cell hf.kind (hf.cels x hmem).1 h1 h2 h
  | false => obtain ⟨m, h1, h2⟩ := hs; exact wpAny_loadName_local hf.kind (hf.locs x hmem) h1 h2 h

/-- targets, each of which stores a name -/
inductive Tg (prog : Program) (w : World) (c : Cx) (env : Env) : List Nat → List (Value → Sem Unit) → Prop where
  | nil : Tg prog w c env [] []
  | cons {k x b t ks ts} : c.vars[k]? = some (x, b) → (∀ A v s Q E, wpAny (model prog w) A (storeName env x v) Q E s → wpAny (model prog w) A (t v) Q E s) → Tg prog w c env ks ts → Tg prog w c env (k :: ks) (t :: ts)
theorem Tg.length {ks : List Nat} {ts : List (Value → Sem Unit)} (h : Tg prog w c env ks ts) : ts.length = ks.length := by
  induction h with
  | nil => rfl
  | cons _ _ _ ih => exact congrArg (· + 1) ih

theorem vrs_after {s₁ s₂ : Shared} {O : Os'} {k : Nat} {vs : List Value} {ds : List D} (hk : Kt env O s₁ s₂) (hkeep : ∀ a o, ¬ Tf env a → s₁.heap.get? a = some o → s₂.heap.get? a = some o) (h : VRs s₁ (Ft Fc env O) vs ds) : VRs s₂ (Ft Fc env (O.set k none)) vs ds :=
  h.keep hk.tk (fun a o ha e => hk.hp a o (fun hh => ha (.inr hh)) e) fun a o _ ha => by
    rcases ha with h | h | h
    · exact .inl h
    · exact .inr (.inl h)
    · exact (inO_set h).elim (fun e => nomatch e) fun h => .inr (.inr h)

/-- several names, one after the other -/
theorem wp_inOrder {A : Around} {E : Value → Shared → Prop} (hf : FR sB s0 c env Fc) {ks : List Nat} {ts : List (Value → Sem Unit)} (ht : Tg prog w c env ks ts) : ∀ {vs : List Value} {ds : List D} {s₁ : Shared} {O : Os'} {W : Ws} {Q : Unit → Shared → Prop},
    ds.length = ks.length → SR s0 c env Fc s₁ O W → VRs s₁ (Ft Fc env O) vs ds → (∀ s' O', Kt env O s₁ s' → SR s0 c env Fc s' O' (setAll ks ds W) → Osub O O' s₁ → Q () s') → wpAny (model prog w) A (assignInOrder ts vs) Q E s₁ := by
  induction ht with
  | nil =>
    intro vs ds s₁ O W Q hl hr hv h
    have e3 : ds = [] := List.length_eq_zero_iff.mp hl
    rw [e3] at hv h
    cases hv
    exact wpAny_pure (h s₁ O (Kt.of (Kp.refl _)) hr (Osub.refl _ _))
  | @cons k x b t ks ts hk ht _ ih =>
    intro vs ds s₁ O W Q hl hr hv h
    cases hv with
    | nil => cases hl
    | @cons v d vs ds hv hvs =>
      show wpAny _ A (do holding vs (t v); assignInOrder ts vs) Q E s₁
      refine wpAny_bind (wpAny_holding (ht _ _ _ _ _ (wpAny_mono (wp_setv hf hr (Kp.refl _) hk hv) (fun _ s₂ h₂ => ?_) fun _ _ e => e)))
      exact ih (Nat.succ.inj hl) h₂.2.1 (vrs_after h₂.1 h₂.2.2 hvs) fun s' O' k' r' o' => h s' O' (h₂.1.trans k' (Osub_set k)) r' ((Osub_set k).trans o' h₂.1.hp r'.inO_notTf)
end
end Mp
end

section
open PySem PySem.W PyProof.Rows PySem.Calls
set_option maxRecDepth 100000
namespace Mp
section
variable {prog : Program} {w : World} {sB s0 : Shared} {mg mb : Str → Option Value} {L : Nat} {X : Xt} {c : Cx} {env : Env} {Fc : Addr → Prop}

theorem names_tg {ks : List Nat} (h : areVars c ks = true) : ∀ (xs : List Expr), Tg prog w c env ks ((assignEach (names c ks xs) env).map (·.2)) ∧ (assignEach (names c ks xs) env).length = ks.length ∧ (assignEach (names c ks xs) env).findIdx? (·.1) = none := by
  induction ks with
  | nil => exact fun _ => ⟨.nil, rfl, rfl⟩
  | cons k ks ih =>
    intro xs
    obtain ⟨b, hb⟩ := isVar_get (and2 h).1
    obtain ⟨h1, h2, h3⟩ := ih (and2 h).2 xs.tail
    refine ⟨.cons hb (fun _ _ _ _ _ hs => wpAny_assign_Name hs) h1, congrArg (· + 1) h2, ?_⟩
    show ((false, assign (.Name (nmV c k) (hdE xs).pos) env) :: assignEach (names c ks xs.tail) env).findIdx? (·.1) = none
    rw [List.findIdx?_cons, h3]; rfl

theorem wp_unpack {A : Around} {E : Value → Shared → Prop} {s₁ : Shared} {O : Os'} {W : Ws} {ks : List Nat} {xs : List Expr} {n : Nat} {tp : Pos} {v : Value} {d : D} {ds : List D} {Q : Unit → Shared → Prop} (hA : A.handled = none) (hf : FR sB s0 c env Fc) (hr : SR s0 c env Fc s₁ O W) (hv : areVars c ks = true)
    (hd : d = .list ds ∨ d = .tup ds) (hlen : ds.length = ks.length) (hsz : ds.length ≤ 1048576) (hvr : VR s₁ (Ft Fc env O) v d)
    (h : ∀ s' O', Kt env O s₁ s' → SR s0 c env Fc s' O' (setAll ks ds W) → Osub O O' s₁ → Q () s') : wpAny (model prog w) A (assign (.Tuple (names c ks xs) n tp) env v) Q E s₁ := by
  obtain ⟨ht, h3, h4⟩ := names_tg (prog := prog) (w := w) (env := env) hv xs
  rw [arm_assign_Tuple]
  refine wpAny_bind (wpAny_standAt ?_)
  unfold unpack
  rw [h4, h3, ← hlen]
  refine wpAny_bind (wpAny_holding (wpAny_mono (wp_unpackItems hA (hr.live hf) hd hvr hsz) (fun vs s₂ h₂ => ?_) fun _ _ e => e))
  exact wp_inOrder hf ht hlen (hr.up h₂.2) h₂.1 fun s' O' k' r' o' => h s' O' ((Kt.of h₂.2).trans k' (Osub.refl _ _)) r' ((Osub.refl O s₁).trans o' (Kt.of h₂.2).hp r'.inO_notTf)
end
end Mp
end

section
open PySem PySem.W PyProof.Rows PySem.Calls
set_option maxRecDepth 100000
namespace Mp
section
variable {prog : Program} {w : World} {sB s0 : Shared} {mg mb : Str → Option Value} {L : Nat} {X : Xt} {c : Cx} {env : Env} {Fc : Addr → Prop}

noncomputable def OrcOk (prog : Program) (w : World) (s0 : Shared) (L : Nat) (X : Xt) (c : Cx) (env : Env) (Fc : Addr → Prop) (A : Around) : Prop :=
  ∀ (n : Nat) p, X.orcs[n]? = some p → ∀ (W : Ws) (R : Out → Prop) s O E, AOk L A → SR s0 c env Fc s O W → p.2 W R → wpAny (model prog w) A (exec p.1 env) (PostS s0 c env Fc s O R) E s

theorem post_setv {s s₁ : Shared} {O : Os'} {W : Ws} {R : Out → Prop} {A : Around} {E : Value → Shared → Prop} {k : Nat} {x : Str} {b : Bool} {v : Value} {d : D} (hf : FR sB s0 c env Fc) (h : SR s0 c env Fc s O W) (kp : Kp s s₁) (hk : c.vars[k]? = some (x, b)) (hv : VR s₁ (Ft Fc env O) v d)
    (hR : R (.go (W.set k (.val d)))) : wpAny (model prog w) A (storeName env x v) (fun _ s' => PostS s0 c env Fc s O R .next s') E s₁ :=
  wpAny_mono (wp_setv hf h kp hk hv) (fun _ _ h' => post_go hR h'.1 h'.2.1 (Osub_set k)) fun _ _ e => e

theorem post_mut {s s₁ : Shared} {O : Os'} {W : Ws} {R : Out → Prop} {k : Nat} {x : Str} {b : Bool} {xs ds' : List D} {a : Addr} {vs' : List Value} {n' : Nat} {h' : Heap} {tk : Nat} (hf : FR sB s0 c env Fc) (h : SR s0 c env Fc s O W) (kp : Kp s s₁)
    (hk : c.vars[k]? = some (x, b)) (ho : O[k]? = some (some a)) (hW : W[k]? = some (.own xs))
    (hs : ∀ b o, b ≠ a → s₁.heap.get? b = some o → h'.get? b = some o) (htk : s₁.toks ≤ tk) (hl : h'.get? a = some (lob vs' n')) (hv : VRs s₁ (Ft Fc env O) vs' ds') (hR : R (.go (W.set k (.own ds')))) :
    PostS s0 c env Fc s O R .next { s₁ with heap := h', toks := tk } :=
  post_go hR ⟨fun b o hb e => hs b o (fun e' => hb (.inr ⟨k, e' ▸ ho⟩)) (kp.hp b o e), Nat.le_trans kp.tk htk, kp.gx⟩ (h.mutated hf kp hk ho hW hs htk hl hv) (Osub.refl _ _)

theorem VRs.set {s : Shared} {F : Addr → Prop} {ds : List D} : ∀ {vs : List Value} (i : Nat) {v : Value} {d : D}, VRs s F vs ds → VR s F v d → VRs s F (vs.set i v) (ds.set i d) := by
  induction ds with
  | nil => intro vs i v d h _; cases h; exact .nil
  | cons e ds ih =>
    intro vs i v d h hv
    cases h with
    | cons x r => cases i with
      | zero => exact .cons hv r
      | succ i => exact .cons x (ih i r hv)
theorem VRs.tl {s : Shared} {F : Addr → Prop} {vs : List Value} {ds : List D} (r : VRs s F vs ds) : VRs s F vs.tail ds.tail := by
  cases r with
  | nil => exact .nil
  | cons _ r => exact r
theorem VRs.dl {s : Shared} {F : Addr → Prop} {vs : List Value} {ds : List D} (r : VRs s F vs ds) : VRs s F vs.dropLast ds.dropLast := by
  rw [List.dropLast_eq_take, List.dropLast_eq_take, r.length]; exact r.take _

theorem wp_asnc {A : Around} {E : Value → Shared → Prop} {own : Bool} {k : Nat} {out : List Nat} {elt it : I} {y z : Str} {yp zp p pos : Pos} {e iter : Expr} {scope : Scope} {s : Shared} {O : Os'} {W : Ws} {R : Out → Prop}
    (hG : GOk prog w sB mg mb L X.G) (hf : FR sB s0 c env Fc) (hA : AOk L A) (hr : SR s0 c env Fc s O W) (hy : isLoc c k y = true) (hl : (yp.line == p.line) = true) (hn : (!(scope.names.any fun q => q.1 == y && (q.2 == .local || q.2 == .cell))) = true)
    (hgen : notGen (emit X.G it c iter) = true) (hs : scopeOk c z out scope = true) (h1 : ok X.G it c iter = true) (h2 : ok X.G elt (innerCx c z out scope) e = true)
    (h : pit X.G it (hid W) fun ds => pcompif (fun _ Q => Q true) (fun d Q => pe X.G elt (inner (hid W) out d) Q) ds fun ys => R (.go (W.set k (if own = true then .own ys else .val (.list ys))))) :
    wpAny (model prog w) A (exec (.Assign [.Name y yp] (.ListComp (emit X.G elt (innerCx c z out scope) e) [⟨.Name z zp, emit X.G it c iter, [], 0⟩] scope p) pos) env) (PostS s0 c env Fc s O R) E s := by
  have hk := isLoc_get hy
  have hloc := hf.locs y (List.mem_of_getElem? hk)
  rw [exec_Assign_Name_used _ _ _ _ (swaps_yes hf.kind hloc hl hn)]
  refine wpAny_bind (wpAny_standAt (wpAny_bind ?_))
  show wpAny _ A (do let _ ← comprehension (.ListComp _ _ _ _) scope env _ (newList []) false (eval (emit X.G it c iter) env) (some (assign (.Name y yp) env))) _ _ s
  have hr' := hr.er_hid hf
  refine wpAny_bind (wpAny_mono (wp_comp (use := some (assign (.Name y yp) env)) (Q := fun _ s' => PostS s0 c env Fc s O R .next s') hA hr' (scopeOk_iff hs) hgen (wpit hG it h1 hA hr' h) (fun env' s' F' d Qb E' _ hq => wpAny_tests_nil ⟨hq, Kp.refl _⟩)
        (fun env' s' F' d Qy E' hr' hq => wpe hG elt h2 hA hr' hq) ?_) (fun _ s' hq => wpAny_pure (wpAny_pure hq)) fun _ _ e => e)
  intro acc C J s' m' vs n ys ha hC hJ hne hn hacc hvs hq kp
  show wpAny _ A (assign (.Name y yp) env (.ref acc)) _ _ _
  refine wpAny_assign_Name ?_
  have hCT : ¬ Tf env C := by
    intro ht
    obtain ⟨o, e⟩ := hr.live hf C (.inr (.inl ht))
    rw [hC] at e; cases e
  have hC0 : s0.heap.get? C = none := by
    cases e : s0.heap.get? C with
    | none => rfl
    | some o => rw [hr.base.hp _ _ e] at hC; cases hC
  have fin : ∀ (O' : Os') (W' : Ws) (s'' : Shared), R (.go W') → Kt env O s s'' → SR s0 c env Fc s'' O' W' → Osub O O' s → s''.heap.Ns C m' → ∃ m, s''.heap.Ns C m ∧ ∀ h', Heap.SameBut C s''.heap h' → PostS s0 c env Fc s O R .next { s'' with heap := h' } := by
    intro O' W' s'' hR hkt hsr ho hns
    refine ⟨m', hns, fun h' hsb => ?_⟩
    obtain ⟨oC, es, ep, eC, hd, _⟩ := hns
    refine post_go hR ⟨fun b o hb e => hsb.extBut b o (fun e' => by rw [e', hC] at e; cases e) (hkt.hp b o hb e), hkt.tk, hkt.gn⟩ (hsr.upI (tk := s''.toks) hf eC (fun vs n e' => by rw [hd] at e'; cases e') hCT hC0 (Nat.le_refl _) fun b o hb e => hsb.extBut b o hb e) ho
  cases own with
  | true =>
    refine wpAny_mono (wp_seto hf hr kp hk ha hacc (hvs.mono (Kp.refl s') fun a o _ h => h.elim .inl fun e => .inr (.inl e))) (fun _ s'' h => ?_) fun _ _ e => e
    exact fin _ _ s'' (by simpa using hq) h.1 h.2.1 h.2.2.1 (hn.at' fun o e => h.2.2.2 _ o hCT e)
  | false =>
    have hv : VR s' (Ft Fc env O) (.ref acc) (.list ys) := .list acc n vs ys hacc (fun hh => by obtain ⟨o, e⟩ := hr.live hf acc hh; rw [ha] at e; cases e) (hvs.mono (Kp.refl s') fun a o _ h => .inl h)
    refine wpAny_mono (wp_setv hf hr kp hk hv) (fun _ s'' h => ?_) fun _ _ e => e
    exact fin _ _ s'' (by simpa using hq) h.1 h.2.1 (Osub_set k) (hn.at' fun o e => h.2.2 _ o hCT e)
end
end Mp
end

section
open PySem PySem.W PyProof.Rows PySem.Calls
set_option maxRecDepth 100000
namespace Mp
section
variable {prog : Program} {w : World} {sB s0 : Shared} {mg mb : Str → Option Value} {L : Nat} {X : Xt} {c : Cx} {env : Env} {Fc : Addr → Prop}

theorem okS_kt {s s₁ s₂ : Shared} {O O₁ : Os'} {R : Out → Prop} {f : Flow} (a : Kt env O s s₁) (ho : Osub O O₁ s) (h : PostS s0 c env Fc s₁ O₁ R f s₂) : PostS s0 c env Fc s O R f s₂ := h.trans a ho

/-- what is fixed while a loop walks along -/
structure FX (s0 : Shared) (env : Env) (Fc : Addr → Prop) (s s₂ : Shared) (O : Os') (I : Addr) (fp : List Addr) (St : Nat → Heap → Prop) : Prop where
  Is : s.heap.get? I = none
  I0 : s0.heap.get? I = none
  fpo : ∀ b ∈ fp, ∃ o, s₂.heap.get? b = some o
  fpF : ∀ b ∈ fp, ¬ Ft Fc env O b
  IT : ¬ Tf env I
  Io : ∀ i h, St i h → ∃ o, h.get? I = some o ∧ ∀ vs n, o.data ≠ .seq vs n
/-- what holds ahead of each item -/
structure FI (s0 : Shared) (c : Cx) (env : Env) (Fc : Addr → Prop) (s s₂ : Shared) (O : Os') (I : Addr) (fp : List Addr) (s' : Shared) (O' : Os') (Wc : Ws) : Prop where
  sr : SR s0 c env Fc s' O' Wc
  kt : Kt env O s s'
  os : Osub O O' s
  fo : ∀ b ∈ fp, ¬ inO O' b
  k2 : ∀ b o, ¬ (Tf env b ∨ inO O b) → b ≠ I → s₂.heap.get? b = some o → s'.heap.get? b = some o
  tk2 : s₂.toks ≤ s'.toks
  os2 : ∀ b, inO O' b → inO O b ∨ s₂.heap.get? b = none

section
variable {s s₂ : Shared} {O O' O'' : Os'} {I : Addr} {fp : List Addr} {St : Nat → Heap → Prop} {s' s₃ s₄ : Shared} {Wc : Ws} {i : Nat} {h' : Heap} {tk : Nat}

/-- the walk itself moves nothing but its iterator -/
theorem FI.walk (hf : FR sB s0 c env Fc) (x : FX s0 env Fc s s₂ O I fp St) (hst : St i s'.heap) (h : FI s0 c env Fc s s₂ O I fp s' O' Wc) (hk : ∀ b o, b ∉ [I] → s'.heap.get? b = some o → h'.get? b = some o) (htk : s'.toks ≤ tk) :
    FI s0 c env Fc s s₂ O I fp { s' with heap := h', toks := tk } O' Wc := by
  have nI : ∀ {b : Addr}, b ≠ I → b ∉ [I] := fun h hm => h (List.mem_singleton.mp hm)
  obtain ⟨oI, eI, hdI⟩ := x.Io _ _ hst
  exact ⟨h.sr.upI hf eI hdI x.IT x.I0 htk fun b o hb e => hk b o (nI hb) e,
    ⟨fun b o hb e => hk b o (nI fun e' => by rw [e', x.Is] at e; cases e) (h.kt.hp b o hb e), Nat.le_trans h.kt.tk htk, h.kt.gn⟩,
    h.os, h.fo, fun b o h1 h2 e => hk b o (nI h2) (h.k2 b o h1 h2 e), Nat.le_trans h.tk2 htk, h.os2⟩

theorem inO_set_none {k : Nat} {b : Addr} (h : inO (O'.set k none) b) : inO O' b := (inO_set h).elim (fun e => nomatch e) id

/-- an item, stored under the loop's name -/
theorem FI.item {k : Nat} {d : D} (h : FI s0 c env Fc s s₂ O I fp s' O' Wc) (hkt : Kt env O' s' s₃) (hsr : SR s0 c env Fc s₃ (O'.set k none) (Wc.set k (.val d))) (hoff : ∀ a o, ¬ Tf env a → s'.heap.get? a = some o → s₃.heap.get? a = some o) :
    FI s0 c env Fc s s₂ O I fp s₃ (O'.set k none) (Wc.set k (.val d)) :=
  ⟨hsr, h.kt.trans hkt h.os, h.os.trans (Osub_set k) h.kt.hp hsr.inO_notTf, fun b hb hi => h.fo b hb (inO_set_none hi), fun b o h1 h2 e => hoff b o (fun ht => h1 (.inl ht)) (h.k2 b o h1 h2 e),
    Nat.le_trans h.tk2 hkt.tk, fun b hi => h.os2 b (inO_set_none hi)⟩

/-- the body, run -/
theorem FI.body {W'' : Ws} (x : FX s0 env Fc s s₂ O I fp St) (hst : St i s'.heap) (h : FI s0 c env Fc s s₂ O I fp s' O' Wc) (hkt : Kt env O' s' s₄) (hsr : SR s0 c env Fc s₄ O'' W'') (hos : Osub O' O'' s') : FI s0 c env Fc s s₂ O I fp s₄ O'' W'' := by
  have live : ∀ b ∈ fp, ∃ o, s'.heap.get? b = some o := by
    intro b hb
    by_cases hbI : b = I
    · subst hbI; exact let ⟨o, e, _⟩ := x.Io _ _ hst; ⟨o, e⟩
    · obtain ⟨o, e⟩ := x.fpo b hb
      exact ⟨o, h.k2 b o (fun hh => x.fpF b hb (.inr hh)) hbI e⟩
  refine ⟨hsr, h.kt.trans hkt h.os, h.os.trans hos h.kt.hp hsr.inO_notTf, ?_, ?_, Nat.le_trans h.tk2 hkt.tk, ?_⟩
  · intro b hb hi
    rcases hos b hi with h1 | h1
    · exact h.fo b hb h1
    · obtain ⟨o, e⟩ := live b hb; rw [e] at h1; cases h1
  · intro b o hb hbI e
    refine hkt.hp b o (fun hh => hh.elim (fun ht => hb (.inl ht)) fun hi => ?_) (h.k2 b o hb hbI e)
    rcases h.os2 b hi with h1 | h1
    · exact hb (.inr h1)
    · rw [e] at h1; cases h1
  · intro b hi
    by_cases hO : inO O b
    · exact .inl hO
    · right
      cases e : s₂.heap.get? b with
      | none => rfl
      | some o =>
        exfalso
        have hbT := hsr.inO_notTf b hi
        rcases hos b hi with h1 | h1
        · exact (h.os2 b h1).elim hO fun h1 => by rw [e] at h1; cases h1
        · by_cases hbI : b = I
          · subst hbI; obtain ⟨o', e', _⟩ := x.Io _ _ hst; rw [e'] at h1; cases h1
          · rw [h.k2 b o (fun hh => hh.elim hbT hO) hbI e] at h1; cases h1
end

theorem pfor_cons {pb : Ws → (Out → Prop) → Prop} {k : Nat} {d : D} {ds : List D} {W : Ws} {R : Out → Prop} : pfor pb k (d :: ds) W R = pb (W.set k (.val d)) fun o => match o with
    | .go W' => pfor pb k ds W' R
    | .cont W' => pfor pb k ds W' R
    | .brk W' => R (.go W')
    | .ret d => R (.ret d) := propext Iff.rfl
theorem pfor_nil {pb : Ws → (Out → Prop) → Prop} {k : Nat} {W : Ws} {R : Out → Prop} : pfor pb k [] W R = R (.go W) := propext Iff.rfl

/-- the loop's measure -/
noncomputable def FM (s0 : Shared) (c : Cx) (env : Env) (Fc : Addr → Prop) (s s₂ : Shared) (O : Os') (I : Addr) (fp : List Addr) (St : Nat → Heap → Prop) (ds : List D) (pf : List D → Ws → Prop) (n : Nat) (s' : Shared) : Prop :=
  ∃ i O' Wc, i + n = ds.length ∧ St i s'.heap ∧ FI s0 c env Fc s s₂ O I fp s' O' Wc ∧ pf (ds.drop i) Wc

theorem drop_at {ds : List D} {i : Nat} {d : D} (h : ds[i]? = some d) : ds.drop i = d :: ds.drop (i + 1) := by
  obtain ⟨hi, e⟩ := List.getElem?_eq_some_iff.mp h
  rw [List.drop_eq_getElem_cons hi, e]

theorem wp_for {A : Around} {E : Value → Shared → Prop} {k : Nat} {y : Str} {yp pos : Pos} {iter : Expr} {body : List Stmt} {s : Shared} {O : Os'} {W : Ws} {R : Out → Prop} {pb : Ws → (Out → Prop) → Prop}
    (hf : FR sB s0 c env Fc) (hr : SR s0 c env Fc s O W) (hy : isVar c k y = true) (hgen : notGen iter = true)
    (hiter : wpAny (model prog w) A (eval iter env) (PostI prog w A E s (Ft Fc env O) (fun ds => pfor pb k ds W R)) E s)
    (hbody : ∀ (W : Ws) (R : Out → Prop) s O E, SR s0 c env Fc s O W → pb W R → wpAny (model prog w) A (execs body env) (PostS s0 c env Fc s O R) E s) :
    wpAny (model prog w) A (exec (.For (.Name y yp) iter body [] pos) env) (PostS s0 c env Fc s O R) E s := by
  obtain ⟨bk, hk⟩ := isVar_get hy
  have hset' : ∀ x, foldedSetIterable iter env x = pure x := by intro x; cases iter <;> first | rfl | cases hgen
  refine wpAny_For (wpAny_mono hiter (fun v s₁ h₁ => ?_) fun _ _ e => e) hset'
  refine wpAny_mono h₁.2 (fun it s₂ h₂ => ?_) fun _ _ e => e
  have k₁ := h₁.1
  clear h₁ hiter
  obtain ⟨ds, ⟨_, hp⟩, I, fp, P, St, rfl, W', hst, hfp, hI1, k₂, hP, hIo⟩ := h₂
  have hIs : s.heap.get? I = none := by
    cases e : s.heap.get? I with
    | none => rfl
    | some o => rw [k₁.hp _ _ e] at hI1; cases hI1
  have hI0 : s0.heap.get? I = none := by
    cases e : s0.heap.get? I with
    | none => rfl
    | some o => rw [hr.base.hp _ _ e] at hIs; cases hIs
  have hIT : ¬ Tf env I := fun ht => let ⟨o, e⟩ := hr.live hf I (.inr (.inl ht)); nomatch hIs.symm.trans e
  have hX : FX s0 env Fc s s₂ O I fp St := ⟨hIs, hI0, fun b hb => (hfp b hb).1, fun b hb => (hfp b hb).2, hIT, hIo⟩
  have kk := k₁.trans k₂
  refine codeAny_forLoop (FM s0 c env Fc s s₂ O I fp St ds fun l V => pfor pb k l V R) ?_ ds.length
    ⟨0, O, W, Nat.zero_add _, hst, ⟨hr.up kk, Kt.of kk, Osub.refl _ _, fun b hb h => (hfp b hb).2 (.inr (.inr h)), fun _ _ _ _ e => e, Nat.le_refl _, fun _ h => .inl h⟩, hp⟩
  rintro n s' ⟨i, O', Wc, hin, hst', hfi, hpf⟩
  cases n with
  | zero =>
    subst hin
    rw [List.drop_length] at hpf
    refine wpAny_with_toks (Nat.le_refl _) (W'.done _ _ _ hst' fun h' tk hk' htk => wpAny_execs_nil ?_)
    have hfi' := hfi.walk hf hX hst' hk' htk
    exact post_go hpf hfi'.kt hfi'.sr hfi'.os
  | succ n =>
    have hi : i < ds.length := hin ▸ Nat.lt_add_of_pos_right (Nat.succ_pos n)
    refine wpAny_with_toks (Nat.le_refl _) (W'.item i _ _ _ hi hst' fun v h' tk hPv hst₂ hk' htk => ?_)
    obtain ⟨d, hd, hv⟩ := hP i v hi hPv
    have hfi₂ := hfi.walk hf hX hst' hk' htk
    have hv₂ : VR { s' with heap := h', toks := tk } (Ft Fc env O') v d := by
      refine VR.keep (s := s₁) (F := Ft Fc env O) (Nat.le_trans k₂.tk hfi₂.tk2) (fun b o hb e => hfi₂.k2 b o (fun hh => hb (.inr hh)) (fun e' => by rw [e', hI1] at e; cases e) (k₂.hp _ _ e)) (fun a o e ha => ?_) hv
      rcases ha with h | h | h
      · exact .inl h
      · exact .inr (.inl h)
      · rcases hfi₂.os2 a h with h | h
        · exact .inr (.inr h)
        · rw [k₂.hp _ _ e] at h; cases h
    rw [drop_at hd, pfor_cons] at hpf
    refine wpAny_assign_Name (wpAny_mono (wp_setv hf hfi₂.sr (Kp.refl _) hk hv₂) (fun _ s₃ h₃ => ?_) fun _ _ e => e)
    have hfi₃ := hfi₂.item h₃.1 h₃.2.1 h₃.2.2
    have hst₃ : St (i + 1) s₃.heap := W'.frame _ _ _ hst₂ fun b hb o e => h₃.2.2 b o (fun ht => (hfp b hb).2 (.inr (.inl ht))) e
    refine wpAny_mono (hbody _ _ s₃ _ _ h₃.2.1 hpf) (fun f s₄ h₄ => ?_) fun _ _ e => e
    obtain ⟨o, hR, hkt₅, hok⟩ := h₄
    have again : ∀ O'' W'', SR s0 c env Fc s₄ O'' W'' → Osub (O'.set k none) O'' s₃ → pfor pb k (ds.drop (i + 1)) W'' R → ∃ m, m < n + 1 ∧ FM s0 c env Fc s s₂ O I fp St ds (fun l V => pfor pb k l V R) m s₄ :=
      fun O'' W'' hsr₅ hos₅ hpf₅ => ⟨n, Nat.lt_succ_self _, i + 1, O'', W'', by rw [← hin, Nat.add_assoc, Nat.add_comm 1 n],
        W'.frame _ _ _ hst₃ fun b hb o e => hkt₅.hp b o (fun hh => hh.elim (fun ht => (hfp b hb).2 (.inr (.inl ht))) fun hi => hfi₃.fo b hb hi) e, hfi₃.body hX hst₃ hkt₅ hsr₅ hos₅, hpf₅⟩
    cases hok with
    | next W' O'' hsr₅ hos₅ => exact again O'' _ hsr₅ hos₅ hR
    | cont W' O'' hsr₅ hos₅ => exact again O'' _ hsr₅ hos₅ hR
    | brk W' O'' hsr₅ hos₅ => exact post_go hR (hfi₃.kt.trans hkt₅ hfi₃.os) hsr₅ (hfi₃.os.trans hos₅ hfi₃.kt.hp hsr₅.inO_notTf)
    | ret v d h1 h2 => exact ⟨_, hR, hfi₃.kt.trans hkt₅ hfi₃.os, .ret v d h1 h2⟩
end
end Mp
end

section
open PySem PySem.W PyProof.Rows PySem.Calls
set_option maxRecDepth 100000
namespace Mp
section
variable {prog : Program} {w : World} {sB s0 : Shared} {mg mb : Str → Option Value} {L : Nat} {X : Xt} {c : Cx} {env : Env} {Fc : Addr → Prop}

theorem wp_whl {A : Around} {E : Value → Shared → Prop} {pos : Pos} {test : Expr} {body : List Stmt} {s : Shared} {O : Os'} {W : Ws} {R : Out → Prop} {ptst : Ws → (Bool → Prop) → Prop} {pb : Ws → (Out → Prop) → Prop} {n : Nat}
    (hr : SR s0 c env Fc s O W)
    (htest : ∀ (W : Ws) (Q : Bool → Prop) s O E, SR s0 c env Fc s O W → ptst W Q → wpAny (model prog w) A (isTrue test env (eval test env)) (PostB s Q) E s)
    (hbody : ∀ (W : Ws) (R : Out → Prop) s O E, SR s0 c env Fc s O W → pb W R → wpAny (model prog w) A (execs body env) (PostS s0 c env Fc s O R) E s)
    (h : pwhl ptst pb n W R) : wpAny (model prog w) A (exec (.While test body [] pos) env) (PostS s0 c env Fc s O R) E s := by
  refine wpAny_While (codeAny_whileLoop (fun n s' => ∃ O' Wc, SR s0 c env Fc s' O' Wc ∧ Kt env O s s' ∧ Osub O O' s ∧ pwhl ptst pb n Wc R) ?_ n ⟨O, W, hr, Kt.of (Kp.refl _), Osub.refl _ _, h⟩)
  rintro n s' ⟨O', Wc, hsr, hkt, hos, hp⟩
  cases n with
  | zero => exact hp.elim
  | succ n =>
    unfold pwhl at hp
    refine wpAny_mono (htest Wc _ s' O' _ hsr hp) (fun ok s₁ h₁ => ?_) fun _ _ e => e
    obtain ⟨h₁, k₁⟩ := h₁
    have hkt₁ : Kt env O s s₁ := hkt.trans (Kt.of (O := O') k₁) hos
    cases ok with
    | false =>
      rw [if_neg (by simp)] at h₁ ⊢
      exact wpAny_execs_nil (post_go h₁ hkt₁ (hsr.up k₁) hos)
    | true =>
      rw [if_pos rfl] at h₁ ⊢
      refine wpAny_mono (hbody Wc _ s₁ O' _ (hsr.up k₁) h₁) (fun f s₂ h₂ => ?_) fun _ _ e => e
      obtain ⟨o, hR, hkt₂, hok⟩ := h₂
      cases hok with
      | next W' O'' hsr₅ hos₅ => exact ⟨n, Nat.lt_succ_self _, O'', _, hsr₅, hkt₁.trans hkt₂ hos, hos.trans hos₅ hkt₁.hp hsr₅.inO_notTf, hR⟩
      | cont W' O'' hsr₅ hos₅ => exact ⟨n, Nat.lt_succ_self _, O'', _, hsr₅, hkt₁.trans hkt₂ hos, hos.trans hos₅ hkt₁.hp hsr₅.inO_notTf, hR⟩
      | brk W' O'' hsr₅ hos₅ => exact post_go hR (hkt₁.trans hkt₂ hos) hsr₅ (hos.trans hos₅ hkt₁.hp hsr₅.inO_notTf)
      | ret v d h1 h2 => exact ⟨_, hR, hkt₁.trans hkt₂ hos, .ret v d h1 h2⟩

theorem interactive_no (hf : FR sB s0 c env Fc) : interactive env = false := by
  unfold interactive; rw [hf.kind]; rfl

theorem own_get {s : Shared} {O : Os'} {W : Ws} {k : Nat} {y : Str} {b : Bool} {xs : List D} (hr : SR s0 c env Fc s O W) (hk : c.vars[k]? = some (y, b)) (hW : W[k]? = some (.own xs)) :
    ∃ a vs n, O[k]? = some (some a) ∧ Slot env s y b (.ref a) ∧ s.heap.get? a = some (lob vs n) ∧ VRs s (Ft Fc env O) vs xs := hr.owns k y b xs hk hW

theorem wp_app {A : Around} {E : Value → Shared → Prop} {k : Nat} {e : I} {y : Str} {yp ap p pos : Pos} {a : Expr} {s : Shared} {O : Os'} {W : Ws} {R : Out → Prop} (hG : GOk prog w sB mg mb L X.G) (hf : FR sB s0 c env Fc) (hA : AOk L A) (hr : SR s0 c env Fc s O W)
    (hy : isVar c k y = true) (hl : (ap.endLine == p.line) = true) (hs : notStar (emit X.G e c a) = true) (hc : ok X.G e c a = true) (h : px X (.app k e) W R) :
    wpAny (model prog w) A (exec (.Expr (.Call (.Attribute (.Name y yp) "append" ap) [emit X.G e c a] [] p) pos) env) (PostS s0 c env Fc s O R) E s := by
  obtain ⟨hd, b, hk⟩ := var_split hy
  obtain ⟨xs, hW, h⟩ := onO_i h
  obtain ⟨l, vs, n, ho, hsl, hl', hvs⟩ := own_get hr hk hW
  refine wpAny_Expr ?_ (interactive_no hf) rfl
  refine wpAny_Call_append rfl ?_ hl ?_ ?_
  · rw [star_cons hs]; rfl
  · rw [star_cons hs]; rfl
  refine wpAny_Name (wp_load hf hk hsl ⟨l, vs.toArray, rfl, ⟨_, n, hl', rfl, rfl, rfl⟩, ?_⟩) hd
  refine mono_post (wpe hG e hc hA (hr.er_hid hf) h) fun v s₁ d p₁ rv k₁ => ?_
  refine wpAny_list_append_plain (items := vs.toArray) ⟨n, k₁.hp _ _ hl'⟩ (fun h₅ ⟨n', hpl⟩ hs₅ => ?_) (by rw [List.size_toArray, hvs.length]; exact Nat.le_trans p₁.1 (by decide))
  exact post_mut (tk := s₁.toks) hf hr k₁ hk ho hW (fun b o hb e => hs₅.extBut b o hb e) (Nat.le_refl _) (vs' := vs ++ [v]) (by simpa using hpl) ((hvs.up k₁).append (.cons rv .nil)) p₁.2

theorem wp_sit {A : Around} {E : Value → Shared → Prop} {k : Nat} {i e : I} {y : Str} {yp sp pos : Pos} {j v : Expr} {s : Shared} {O : Os'} {W : Ws} {R : Out → Prop} (hG : GOk prog w sB mg mb L X.G) (hf : FR sB s0 c env Fc) (hA : AOk L A) (hr : SR s0 c env Fc s O W)
    (hy : isVar c k y = true) (hn : notComp (emit X.G e c v) = true) (hi : ok X.G i c j = true) (hc : ok X.G e c v = true) (h : px X (.sit k i e) W R) :
    wpAny (model prog w) A (exec (.Assign [.Subscript (.Name y yp) (emit X.G i c j) sp] (emit X.G e c v) pos) env) (PostS s0 c env Fc s O R) E s := by
  obtain ⟨hd, b, hk⟩ := var_split hy
  obtain ⟨xs, hW, h⟩ := onO_i h
  obtain ⟨l, vs, n, ho, hsl, hl', hvs⟩ := own_get hr hk hW
  refine wpAny_Assign_Subscript (mono_post (wpe hG e hc hA (hr.er_hid hf) h) fun v s₁ d p₁ rv k₁ => ?_) (swaps_no hn)
  refine wpAny_Name (wp_load hf hk (hsl.up k₁) ?_) hd
  refine mono_post (wpe hG i hi hA ((hr.up k₁).er_hid hf) p₁) fun vi s₂ di p₂ ri k₂ => ?_
  obtain ⟨m, t, rfl, ⟨h0, h1, h2⟩, hR⟩ := onI_v ri p₂
  refine setItem_lob ((k₁.trans k₂).hp _ _ hl') h0 (by rw [hvs.length]; exact h1) (by rw [hvs.length]; exact h2) fun h' n' hl₂ hsb => ?_
  exact post_mut (tk := s₂.toks) hf hr (k₁.trans k₂) hk ho hW (fun b o hb e => hsb.extBut b o hb e) (Nat.le_refl _) hl₂ ((hvs.up (k₁.trans k₂)).set _ (rv.up k₂)) hR

theorem wp_del {A : Around} {E : Value → Shared → Prop} {k : Nat} {last : Bool} {y : Str} {yp sp pos : Pos} {j : Expr} {s : Shared} {O : Os'} {W : Ws} {R : Out → Prop} (hf : FR sB s0 c env Fc) (hr : SR s0 c env Fc s O W)
    (hy : isVar c k y = true) (hj : ∀ (s : Shared) (Q : Value → Shared → Prop), (∀ t m, Q (.int (if last = true then -1 else 0) t) { s with toks := s.toks + m }) → wpAny (model prog w) A (eval j env) Q E s) (h : px X (.del k last) W R) :
    wpAny (model prog w) A (exec (.Delete [.Subscript (.Name y yp) j sp] pos) env) (PostS s0 c env Fc s O R) E s := by
  obtain ⟨hd, b, hk⟩ := var_split hy
  obtain ⟨xs, hW, ⟨h1, h2⟩, hR⟩ := onO_i h
  obtain ⟨l, vs, n, ho, hsl, hl', hvs⟩ := own_get hr hk hW
  have hl := hvs.length
  refine wpAny_Delete (wpAny_deleteEach_cons (wpAny_delete_Subscript (wpAny_Name (wp_load hf hk hsl (hj s _ fun t m => ?_)) hd)))
  have hne : vs ≠ [] := fun e => h1 (List.length_eq_zero_iff.mp (by rw [← hl, e]; rfl))
  refine delItem_lob last (s := { s with toks := s.toks + m }) hl' hne rfl (by rw [hl]; exact h2) fun h' n' hl₂ hsb => wpAny_deleteEach_nil ?_
  refine post_mut (s₁ := { s with toks := s.toks + m }) (tk := s.toks + m) hf hr (Kp.tok s m) hk ho hW (fun b o hb e => hsb.extBut b o hb e) (Nat.le_refl _) hl₂ (ds' := if last = true then xs.dropLast else xs.tail) ?_ hR
  have hvs' := hvs.up (Kp.tok s m)
  cases last
  · exact hvs'.tl
  · exact hvs'.dl

/-- an own list, bound to its name anew -/
theorem SR.again {k : Nat} {y : Str} {b : Bool} {l : Addr} {xs : List D} {s s' : Shared} {O : Os'} {W : Ws} (hf : FR sB s0 c env Fc) (hm : SR s0 c env Fc s O W) (hk : c.vars[k]? = some (y, b)) (ho : O[k]? = some (some l)) (hW : W[k]? = some (.own xs)) (st : Stored env s s' y b (.ref l)) : SR s0 c env Fc s' O W :=
  have hkeep : ∀ a o, ¬ Ft Fc env O a → s.heap.get? a = some o → s'.heap.get? a = some o := fun a o ha e => st.kp a o (fun ht => ha (.inr (.inl ht))) e
  have nek : ∀ {i : Nat} {y' : Str} {b' : Bool}, c.vars[i]? = some (y', b') → i ≠ k → y' ≠ y := fun h1 h2 e => h2 (hf.nodup _ _ _ _ _ (e ▸ h1) hk)
  { base := ⟨fun a o e => st.kp a o (fun ht => by rw [hf.tnew a ht] at e; cases e) (hm.base.hp a o e), Nat.le_trans hm.base.tk st.tk, st.os.trans hm.base.os, by rw [st.gn]; exact hm.base.gn⟩
    toks := fun e => hm.toks (Nat.le_zero.mp (e ▸ st.tk))
    lenW := hm.lenW
    lenO := hm.lenO
    ns := st.ns
    cell := st.cell
    onew := fun i a hi => let ⟨e1, vs3, n3, e3⟩ := hm.onew i a hi; ⟨e1, vs3, n3, st.kp _ _ (hm.notTf e3) e3⟩
    oinj := hm.oinj
    vals := fun i y' b' d e1 e3 =>
      let ⟨v, e4, e5⟩ := hm.vals i y' b' d e1 e3
      ⟨v, st.other _ _ _ (nek e1 fun hik => by rw [hik, hW] at e3; cases e3) e4, e5.keep st.tk hkeep fun _ _ _ h => h⟩
    owns := fun i y' b' ds e1 e3 => by
      obtain ⟨a3, vs3, n3, e4, e5, e6, e7⟩ := hm.owns i y' b' ds e1 e3
      refine ⟨a3, vs3, n3, e4, ?_, st.kp _ _ (hm.notTf e6) e6, e7.keep st.tk hkeep fun _ _ _ h => h⟩
      by_cases hik : i = k
      · subst hik
        rw [hk] at e1; cases e1
        rw [ho] at e4; cases e4
        exact st.slot
      · exact st.other _ _ _ (nek e1 hik) e5 }

theorem wp_extd {A : Around} {E : Value → Shared → Prop} {k : Nat} {e : I} {y : Str} {yp pos : Pos} {v : Expr} {s : Shared} {O : Os'} {W : Ws} {R : Out → Prop} (hG : GOk prog w sB mg mb L X.G) (hf : FR sB s0 c env Fc) (hA : AOk L A) (hr : SR s0 c env Fc s O W)
    (hy : isVar c k y = true) (hc : ok X.G e c v = true) (h : px X (.extd k e) W R) :
    wpAny (model prog w) A (exec (.AugAssign (.Name y yp) .Add (emit X.G e c v) pos) env) (PostS s0 c env Fc s O R) E s := by
  obtain ⟨hd, b, hk⟩ := var_split hy
  obtain ⟨xs, hW, h⟩ := onO_i h
  obtain ⟨l, vs, n, ho, hsl, hl', hvs⟩ := own_get hr hk hW
  refine wpAny_AugAssign_Name (wp_load hf hk hsl ?_)
  refine mono_post (wpe hG e hc hA (hr.er_hid hf) h) fun v s₁ d p₁ rv k₁ => ?_
  obtain ⟨a2, n2, vs2, ys, rfl, e2, _, r2, h2, hR⟩ := onL_v rv p₁
  refine iadd_list (k₁.hp _ _ hl') e2 (by rw [hvs.length, r2.length]; exact h2) fun h' n' hl₂ hsb => ?_
  have hm : SR s0 c env Fc { s₁ with heap := h' } O (W.set k (.own (xs ++ ys))) := hr.mutated (tk := s₁.toks) hf k₁ hk ho hW (fun b o hb e => hsb.extBut b o hb e) (Nat.le_refl _) hl₂ ((hvs.up k₁).append r2)
  have hkm : Kt env O s { s₁ with heap := h' } := ⟨fun b o hb e => hsb.extBut b o (fun e' => hb (.inr ⟨k, e' ▸ ho⟩)) (k₁.hp b o e), k₁.tk, k₁.gx⟩
  refine wpAny_mono (wp_store0 (v := .ref l) hf hm.ns hm.cell hk) (fun _ s' st => ?_) fun _ _ e => e
  have hW' : (W.set k (.own (xs ++ ys)))[k]? = some (.own (xs ++ ys)) := by
    have hlt : k < W.length := (List.getElem?_eq_some_iff.mp hW).1
    rw [List.getElem?_set_self hlt]
  exact post_go hR ⟨fun a o ha e => st.kp a o (fun ht => ha (.inl ht)) (hkm.hp a o ha e), Nat.le_trans hkm.tk st.tk, by rw [st.gn]; exact hkm.gn⟩ (hm.again hf hk ho hW' st) (Osub.refl _ _)
end
end Mp
end

section
open PySem PySem.W PyProof.Rows PySem.Calls
set_option maxRecDepth 100000
namespace Mp
section
variable {prog : Program} {w : World} {sB s0 : Shared} {mg mb : Str → Option Value} {L : Nat} {X : Xt} {c : Cx} {env : Env} {Fc : Addr → Prop}

noncomputable def swapF (vs : List Expr) (names : List Str) : Sem (Option (List Str)) :=
  if (names.length != 2 || names.eraseDups.length != names.length) = true then pure none else if vs.all (foldedForSure 8) = true then pure none else
    if vs.all (constantsAlone 8) = true then ((unsupported "assign.tuple-of-constant-expressions:order-of-the-stores" : Sem PUnit) >>= fun _ => pure (some names)) else pure (some names)
noncomputable def pickN (env : Env) (line : Nat) : Expr → Option Str := fun x => match x with
  | .Name id pos => if (env.kindOf id == some NameKind.local && pos.line == line) = true then some id else none
  | _ => none
noncomputable def starB : Expr → Bool := fun x => match x with | .Starred _ _ => true | _ => false
theorem star_no {v : Expr} (h : notStar v = true) : starB v = false := by
  cases v <;> first | rfl | exact Bool.noConfusion h
theorem swapped_two {env : Env} {x y : Str} {p q tp vp : Pos} {n m : Nat} {v1 v2 : Expr} (hk : env.scope.kind = .function) (hx : env.kindOf x = some .local) (hy : env.kindOf y = some .local) (hl : (q.line == p.line) = true) (hxy : x ≠ y)
    (hst : [v1, v2].all notStar = true) (h1 : [v1, v2].all (foldedForSure 8) = false) (h2 : [v1, v2].all (constantsAlone 8) = false) :
    swappedStores [.Tuple [.Name x p, .Name y q] n tp] (.Tuple [v1, v2] m vp) env = pure (some [x, y]) := by
  have hb : (env.blockKind != .function) = false := by unfold Env.blockKind; rw [hk]; rfl
  have hs : [v1, v2].any starB = false := by
    show (starB v1 || (starB v2 || false)) = false
    rw [star_no (and2 hst).1, star_no (and2 (and2 hst).2).1]; rfl
  have hn : ([.Name x p, .Name y q] : List Expr).filterMap (pickN env p.line) = [x, y] := by
    have e1 : pickN env p.line (.Name x p) = some x := by
      show (if (env.kindOf x == some NameKind.local && p.line == p.line) = true then some x else none) = _
      rw [hx, beq_self_eq_true p.line]; rfl
    have e2 : pickN env p.line (.Name y q) = some y := by
      show (if (env.kindOf y == some NameKind.local && q.line == p.line) = true then some y else none) = _
      rw [hy, hl]; rfl
    rw [List.filterMap_cons_some e1, List.filterMap_cons_some e2]; rfl
  have he : ([x, y].eraseDups.length != 2) = false := by
    rw [List.eraseDups_cons, List.filter_cons_of_pos (by simpa using Ne.symm hxy)]; rfl
  show (if (env.blockKind != .function) = true then pure none else if [v1, v2].any starB = true then pure none else swapF [v1, v2] (([.Name x p, .Name y q] : List Expr).filterMap (pickN env p.line)) : Sem _) = _
  rw [hb, hs, hn, if_neg Bool.false_ne_true, if_neg Bool.false_ne_true]
  show (if ([x, y].eraseDups.length != 2) = true then pure none else if [v1, v2].all (foldedForSure 8) = true then pure none else _ : Sem _) = _
  rw [he, h1, h2, if_neg Bool.false_ne_true, if_neg Bool.false_ne_true, if_neg Bool.false_ne_true]

theorem swapped_no {es : List Expr} {n : Nat} {tp : Pos} {v : Expr} (h : notTup v = true) : swappedStores [.Tuple es n tp] v env = pure none := by
  cases v <;> first | rfl | exact Bool.noConfusion h

theorem two_more {ds : List D} (h : ds.length = 2) : ∃ a b, ds = [a, b] := by
  cases ds with
  | nil => cases h
  | cons a ds => cases ds with
    | nil => cases h
    | cons b ds => cases ds with
      | nil => exact ⟨a, b, rfl⟩
      | cons => cases h

theorem wp_swp {A : Around} {E : Value → Shared → Prop} {k1 k2 : Nat} {x y : Str} {p q : Pos} {v1 v2 : Expr} {n m : Nat} {tp vp pos : Pos} {s : Shared} {O : Os'} {W : Ws} {R : Out → Prop} (hf : FR sB s0 c env Fc) (hA : AOk L A) (hr : SR s0 c env Fc s O W)
    (g1 : c.vars[k1]? = some (x, false)) (g2 : c.vars[k2]? = some (y, false)) (hl : (q.line == p.line) = true) (hkk : k1 ≠ k2) (h5 : [v1, v2].all notStar = true) (h6 : [v1, v2].all (foldedForSure 8) = false) (h7 : [v1, v2].all (constantsAlone 8) = false)
    (h : ∀ pos E, wpAny (model prog w) A (spliced (backTo pos (starEach [v1, v2] env))) (PostL s (Ft Fc env O) 2 (fun ds => R (.go (setAll [k2, k1] ds.reverse W)))) E s) :
    wpAny (model prog w) A (exec (.Assign [.Tuple [.Name x p, .Name y q] n tp] (.Tuple [v1, v2] m vp) pos) env) (PostS s0 c env Fc s O R) E s := by
  have hxy : x ≠ y := fun e => hkk (hf.nodup _ _ _ _ _ g1 (e ▸ g2))
  have hsw := swapped_two (tp := tp) (vp := vp) (n := n) (m := m) hf.kind (hf.locs x (List.mem_of_getElem? g1)) (hf.locs y (List.mem_of_getElem? g2)) hl hxy h5 h6 h7
  refine Assign_Tuple_swapped (PySem.wpAny_Tuple (mono_l (h _ _) fun vs s₁ ds hvl hR rs k₁ => ⟨by rw [hvl]; decide, ?_⟩)) rfl hsw
  have hdl : ds.length = [k2, k1].length := by rw [← rs.length, hvl]; rfl
  have hr₁ := hr.up k₁
  obtain ⟨d, rfl, rv, k₂⟩ := post_tup (Q := fun d => d = .tup ds) (hr₁.live hf) rs rfl
  have hr₂ := hr₁.up k₂
  have e2 : [x, y].length = ds.length := hdl.symm
  rw [e2]
  refine wpAny_mono (wp_unpackItems hA.1 (hr₂.live hf) (.inr rfl) rv (Nat.le_trans (Nat.le_of_eq (show ds.length = 2 from hdl)) (by decide))) (fun ws s₃ h₃ => ?_) fun _ _ e => e
  obtain ⟨hws, k₃⟩ := h₃
  have kk := (k₁.trans k₂).trans k₃
  have hrev : VRs s₃ (Ft Fc env O) ws.reverse ds.reverse := by
    obtain ⟨d1, d2, rfl⟩ := two_more hdl
    obtain ⟨v, u, rfl, r1, r2⟩ := hws.two_inv
    exact .cons r2 (.cons r1 .nil)
  exact wp_inOrder hf (ts := [bindName env y, bindName env x]) (.cons g2 (fun _ _ _ _ _ h => bindName_ h) (.cons g1 (fun _ _ _ _ _ h => bindName_ h) .nil)) (by rw [List.length_reverse]; exact hdl) (hr₂.up k₃) hrev fun s' O' k' r' o' =>
    post_go hR ((Kt.of kk).trans k' (Osub.refl _ _)) r' ((Osub.refl O s).trans o' (Kt.of kk).hp r'.inO_notTf)
end
end Mp
end

section
open PySem PySem.W PyProof.Rows PySem.Calls
set_option maxRecDepth 100000
namespace Mp
section
variable (prog : Program) (w : World) (s0 : Shared) (L : Nat) (X : Xt) (c : Cx) (env : Env) (Fc : Addr → Prop) (A : Around)
noncomputable def WpS (st : S) : Prop := ∀ ⦃x : Stmt⦄ ⦃s : Shared⦄ ⦃O : Os'⦄ ⦃W : Ws⦄ ⦃R : Out → Prop⦄ ⦃E : Value → Shared → Prop⦄,
  okT X c st x = true → AOk L A → SR s0 c env Fc s O W → px X st W R → wpAny (model prog w) A (exec (emitS X c st x) env) (PostS s0 c env Fc s O R) E s
noncomputable def WpSs (sts : List S) : Prop := ∀ ⦃xs : List Stmt⦄ ⦃s : Shared⦄ ⦃O : Os'⦄ ⦃W : Ws⦄ ⦃R : Out → Prop⦄ ⦃E : Value → Shared → Prop⦄,
  okTs X c sts xs = true → AOk L A → SR s0 c env Fc s O W → pxs X sts W R → wpAny (model prog w) A (execs (emitSs X c sts xs) env) (PostS s0 c env Fc s O R) E s
end
section
variable {prog : Program} {w : World} {sB s0 : Shared} {mg mb : Str → Option Value} {L : Nat} {X : Xt} {c : Cx} {env : Env} {Fc : Addr → Prop} {A : Around}

theorem WpS.no {st : S} (h : ∀ x, okT X c st x = true → False) : WpS prog w s0 L X c env Fc A st := fun _ _ _ _ _ _ hc => (h _ hc).elim

theorem s_bef {s s₁ s₂ : Shared} {O : Os'} {R : Out → Prop} {f : Flow} (k : Kp s s₁) (p : PostS s0 c env Fc s₁ O R f s₂) : PostS s0 c env Fc s O R f s₂ := p.trans (Kt.of k) (Osub.refl _ _)

theorem ws_asn (hG : GOk prog w sB mg mb L X.G) (hf : FR sB s0 c env Fc) {k : Nat} {e : I} : WpS prog w s0 L X c env Fc A (.asn k e) := by
  intro x s O W R E hc hA hr h
  obtain ⟨b, hk⟩ := isVar_get (and2 hc).1
  refine wpAny_Assign_Name (mono_post (wpe hG e (Q := fun d => R (.go (W.set k (.val d)))) (and2 (and2 hc).2).2 hA (hr.er_hid hf) h) fun v s₁ d p₁ rv k₁ => post_setv hf hr k₁ hk rv p₁) ?_
  rcases (Bool.or_eq_true _ _).mp (and2 (and2 hc).2).1 with h2 | h2
  · exact swaps_no h2
  · exact swaps_cell (hf.cels _ (List.mem_of_getElem? (isCell_get h2))).1

theorem ws_asnf (hG : GOk prog w sB mg mb L X.G) (hf : FR sB s0 c env Fc) {k : Nat} {e : I} : WpS prog w s0 L X c env Fc A (.asnf k e) := by
  intro x s O W R E hc hA hr h
  obtain ⟨b, hk⟩ := isVar_get (and2 hc).1
  exact wpAny_Assign_Name (mono_post (wpe hG e (Q := fun d => fl d ∧ R (.go (W.set k (.val d)))) (and2 (and2 hc).2).2 hA (hr.er_vis hf) h) fun v s₁ d p₁ rv k₁ => post_setv hf hr k₁ hk (rv.flat p₁.1) p₁.2) (swaps_no (and2 (and2 hc).2).1)

theorem ws_asnc (hG : GOk prog w sB mg mb L X.G) (hf : FR sB s0 c env Fc) {own : Bool} {k : Nat} {out : List Nat} {elt it : I} : WpS prog w s0 L X c env Fc A (.asnc own k out elt it) := by
  intro x s O W R E hc hA hr h
  have c1 := and2 (and2 hc).2
  have c2 := and2 c1.2
  have c3 := and2 c2.2
  have c4 := and2 c3.2
  have c5 := and2 c4.2
  exact wp_asnc hG hf hA hr (and2 hc).1 c1.1 c2.1 c3.1 c4.1 c5.1 c5.2 h

theorem ws_own (hG : GOk prog w sB mg mb L X.G) (hf : FR sB s0 c env Fc) {k : Nat} {e : N} : WpS prog w s0 L X c env Fc A (.own k e) := by
  intro x s O W R E hc hA hr h
  obtain ⟨b, hk⟩ := isVar_get (and2 hc).1
  refine wpAny_Assign_Name (wpAny_mono (wpn hG e (Q := fun ds => R (.go (W.set k (.own ds)))) (and2 (and2 hc).2).2 hA (hr.er_hid hf) h) (fun v s₁ p₁ => ?_) fun _ _ e => e) (swaps_no (and2 (and2 hc).2).1)
  obtain ⟨a, vs, n, ds, rfl, e2, e3, e4, e5, e6⟩ := p₁
  exact wpAny_mono (wp_seto hf hr e5 hk e2 e3 e4) (fun _ s' h' => post_go e6 h'.1 h'.2.1 h'.2.2.1) fun _ _ e => e

theorem swaps_sole {t v : Expr} {n : Nat} (h : notComp v = true) : swapsWithSole [t] v n env = pure false := swaps_no h
theorem ws_unp (hG : GOk prog w sB mg mb L X.G) (hf : FR sB s0 c env Fc) {ks : List Nat} {e : I} : WpS prog w s0 L X c env Fc A (.unp ks e) := by
  intro x s O W R E hc hA hr h
  have c1 := and2 (and2 hc).2
  have c2 := and2 c1.2
  have c3 := and2 c2.2
  refine Assign_Tuple (mono_post (wpe hG e (Q := fun d => onLs d fun ds => ds.length = ks.length ∧ R (.go (setAll ks ds W))) c3.2 hA (hr.er_hid hf) h) fun v s₁ d p₁ rv k₁ => ?_) (swaps_sole c2.1) (swapped_no c3.1)
  obtain ⟨ds, hd, hl, hR⟩ := onLs_i p₁
  exact wp_unpack hA.1 hf (hr.up k₁) (and2 hc).1 hd hl (by rw [hl]; exact Nat.le_of_lt (Nat.lt_trans (of_decide_eq_true c1.1) (by decide))) rv fun s' O' k' r' o' =>
    post_go hR ((Kt.of k₁).trans k' (Osub.refl _ _)) r' ((Osub.refl O s).trans o' (Kt.of k₁).hp r'.inO_notTf)

theorem swp_shape {ks : List Nat} {as : List I} {x : Stmt} (h : okT X c (.swp ks as) x = true) : ∃ k1 k2 a1 a2, ks = [k1, k2] ∧ as = [a1, a2] := by
  cases ks with
  | nil => exact Bool.noConfusion h
  | cons k1 ks => cases ks with
    | nil => exact Bool.noConfusion h
    | cons k2 ks => cases ks with
      | nil => cases as with
        | nil => exact Bool.noConfusion h
        | cons a1 as => cases as with
          | nil => exact Bool.noConfusion h
          | cons a2 as => cases as with
            | nil => exact ⟨k1, k2, a1, a2, rfl, rfl⟩
            | cons => exact Bool.noConfusion h
      | cons => exact Bool.noConfusion h

theorem ws_swp (hG : GOk prog w sB mg mb L X.G) (hf : FR sB s0 c env Fc) {ks : List Nat} {as : List I} : WpS prog w s0 L X c env Fc A (.swp ks as) := by
  intro x s O W R E hc hA hr h
  obtain ⟨k1, k2, a1, a2, rfl, rfl⟩ := swp_shape hc
  have c0 := and2 hc
  have c1 := and2 c0.2
  have c2 := and2 c1.2
  have c3 := and2 c2.2
  have c4 := and2 c3.2
  have c5 := and2 c4.2
  have c6 := and2 c5.2
  exact wp_swp hf hA hr (isLoc_get c0.1) (isLoc_get c1.1) c2.1 (of_decide_eq_true c3.1) c4.1 ((Bool.not_eq_true' _).mp c5.1) ((Bool.not_eq_true' _).mp c6.1) fun pos E => wpes hG [a1, a2] c6.2 c4.1 hA (hr.er_hid hf) h

theorem ws_aug (hG : GOk prog w sB mg mb L X.G) (hf : FR sB s0 c env Fc) {k : Nat} {op : Operator} {e : I} : WpS prog w s0 L X c env Fc A (.aug k op e) := by
  intro x s O W R E hc hA hr h
  obtain ⟨b, hk⟩ := isVar_get (and2 hc).1
  obtain ⟨o, hW, h⟩ := onV_i h
  obtain ⟨vo, hso, rvo⟩ := hr.vals k _ b o hk hW
  refine wpAny_AugAssign_Name (wp_load hf hk hso (mono_post (wpe hG e (and2 hc).2 hA (hr.er_vis hf) h) fun v s₁ d p₁ rv k₁ => ?_))
  exact mono_post (wp_inp (rvo.mono k₁ (F' := fun a => Fc a ∨ Tf env a) fun a o _ ha => ha.elim .inl fun h => .inr (.inl h)) rv p₁) fun v s₂ r p₂ rr k₂ => post_setv hf hr (k₁.trans k₂) hk (rr.flat p₂.1) p₂.2

theorem ws_app (hG : GOk prog w sB mg mb L X.G) (hf : FR sB s0 c env Fc) {k : Nat} {e : I} : WpS prog w s0 L X c env Fc A (.app k e) := fun _ _ _ _ _ _ hc hA hr h =>
  wp_app hG hf hA hr (and2 hc).1 (and2 (and2 hc).2).1 (and2 (and2 (and2 hc).2).2).1 (and2 (and2 (and2 hc).2).2).2 h
theorem ws_sit (hG : GOk prog w sB mg mb L X.G) (hf : FR sB s0 c env Fc) {k : Nat} {i e : I} : WpS prog w s0 L X c env Fc A (.sit k i e) := fun _ _ _ _ _ _ hc hA hr h =>
  wp_sit hG hf hA hr (and2 hc).1 (and2 (and2 hc).2).1 (and2 (and2 (and2 hc).2).2).1 (and2 (and2 (and2 hc).2).2).2 h
theorem ws_del (hf : FR sB s0 c env Fc) {k : Nat} {last : Bool} : WpS prog w s0 L X c env Fc A (.del k last) := fun _ _ _ _ _ _ hc _ hr h =>
  wp_del hf hr hc (fun s Q q => by
    cases last with
    | false => exact wpAny_Constant_int (q _ 1)
    | true => exact PySem.wpAny_UnaryOp (wpAny_Constant_int (neg_int (q _ 2)))) h

theorem ws_ite (hG : GOk prog w sB mg mb L X.G) (hf : FR sB s0 c env Fc) {t : I} {a b : List S} (ha : WpSs prog w s0 L X c env Fc A a) (hb : WpSs prog w s0 L X c env Fc A b) : WpS prog w s0 L X c env Fc A (.ite t a b) := fun _ _ _ W R _ hc hA hr h =>
  wpAny_If (mono_b (wpt hG t (Q := fun ok => if ok = true then pxs X a W R else pxs X b W R) (and2 hc).1 hA (hr.er_vis hf) h) fun ok s₁ p₁ k₁ => by
    cases ok with
    | true => exact wpAny_mono (ha (and2 (and2 hc).2).1 hA (hr.up k₁) p₁) (fun f s₂ p₂ => s_bef k₁ p₂) fun _ _ e => e
    | false => exact wpAny_mono (hb (and2 (and2 hc).2).2 hA (hr.up k₁) p₁) (fun f s₂ p₂ => s_bef k₁ p₂) fun _ _ e => e)

theorem ws_for (hG : GOk prog w sB mg mb L X.G) (hf : FR sB s0 c env Fc) {k : Nat} {it : I} {body : List S} (hb : WpSs prog w s0 L X c env Fc A body) : WpS prog w s0 L X c env Fc A (.for_ k it body) := fun _ _ _ _ _ _ hc hA hr h =>
  wp_for (pb := fun W R => pxs X body W R) hf hr (and2 hc).1 (and2 (and2 hc).2).1 (wpit hG it (and2 (and2 (and2 hc).2).2).1 hA (hr.er_hid hf) h) fun _ _ _ _ _ hr' hp => hb (and2 (and2 (and2 hc).2).2).2 hA hr' hp
theorem ws_whl (hG : GOk prog w sB mg mb L X.G) (hf : FR sB s0 c env Fc) {t : I} {body : List S} (hb : WpSs prog w s0 L X c env Fc A body) : WpS prog w s0 L X c env Fc A (.whl t body) := fun _ _ _ _ _ _ hc hA hr h =>
  h.elim fun _ h => wp_whl (ptst := fun W R => pt X.G t (vis W) R) (pb := fun W R => pxs X body W R) hr (fun _ _ _ _ _ hr' hp => wpt hG t (and2 hc).1 hA (hr'.er_vis hf) hp) (fun _ _ _ _ _ hr' hp => hb (and2 hc).2 hA hr' hp) h
theorem ws_ret (hG : GOk prog w sB mg mb L X.G) (hf : FR sB s0 c env Fc) {e : I} : WpS prog w s0 L X c env Fc A (.ret e) := fun _ _ _ _ R _ hc hA hr h =>
  wpAny_Return_some (mono_post (wpe hG e (Q := fun d => R (.ret d)) hc hA (hr.er_vis hf) h) fun _ s₁ d p₁ rv k₁ => ⟨.ret d, p₁, Kt.of k₁, .ret _ _ (rv.mono (Kp.refl s₁) fun _ _ _ h => .inl h) (hr.base.trans k₁)⟩)
theorem ws_brk : WpS prog w s0 L X c env Fc A .brk := fun _ _ O W _ _ _ _ hr h => wpAny_Break ⟨.brk W, h, Kt.of (Kp.refl _), .brk W O hr (Osub.refl _ _)⟩
theorem ws_cont : WpS prog w s0 L X c env Fc A .cont := fun _ _ O W _ _ _ _ hr h => wpAny_Continue ⟨.cont W, h, Kt.of (Kp.refl _), .cont W O hr (Osub.refl _ _)⟩
theorem ws_pass : WpS prog w s0 L X c env Fc A .pass := fun _ _ _ _ _ _ _ _ hr h => wpAny_Pass (post_go h (Kt.of (Kp.refl _)) hr (Osub.refl _ _))
theorem ws_asrt (hG : GOk prog w sB mg mb L X.G) (hf : FR sB s0 c env Fc) {t : I} : WpS prog w s0 L X c env Fc A (.asrt t) := fun _ _ _ W R _ hc hA hr h =>
  wpAny_Assert_holds (mono_b (wpt hG t (Q := fun ok => ok = true ∧ R (.go W)) hc hA (hr.er_vis hf) h) fun _ _ p₁ k₁ => ⟨p₁.1, post_go p₁.2 (Kt.of k₁) (hr.up k₁) (Osub.refl _ _)⟩)
theorem ws_orc (hX : OrcOk prog w s0 L X c env Fc A) {n : Nat} : WpS prog w s0 L X c env Fc A (.orc n) := by
  intro x s O W R E hc hA hr h
  obtain ⟨p, hn⟩ := Option.isSome_iff_exists.mp hc
  have h' : (match X.orcs[n]? with | some p => p.2 W R | none => False) := h
  show wpAny (model prog w) A (exec (match X.orcs[n]? with | some p => p.1 | none => x) env) (PostS s0 c env Fc s O R) E s
  rw [hn] at h' ⊢
  exact hX n p hn W R s O E hA hr h'

theorem wss_nil : WpSs prog w s0 L X c env Fc A [] := fun _ _ _ _ _ _ _ _ hr h => wpAny_execs_nil (post_go h (Kt.of (Kp.refl _)) hr (Osub.refl _ _))
theorem wss_rel (hf : FR sB s0 c env Fc) {k : Nat} {r : List S} (ih : WpSs prog w s0 L X c env Fc A r) : WpSs prog w s0 L X c env Fc A (.rel k :: r) := by
  intro xs s O W R E hc hA hr h
  obtain ⟨ys, hW, h⟩ := onO_i h
  have hlt : k < c.vars.length := by rw [← hr.lenW]; exact (List.getElem?_eq_some_iff.mp hW).1
  have hk : c.vars[k]? = some (c.vars[k].1, c.vars[k].2) := List.getElem?_eq_getElem hlt
  exact wpAny_mono (ih hc hA (hr.release hf hk hW) h) (fun f s₂ p₂ => p₂.trans (Kt.of (Kp.refl _)) (Osub_set k)) fun _ _ e => e
theorem wss_cons {st : S} {r : List S} (hs : WpS prog w s0 L X c env Fc A st) (ih : WpSs prog w s0 L X c env Fc A r) (hn : isRel st = false) : WpSs prog w s0 L X c env Fc A (st :: r) := by
  intro xs s O W R E hc hA hr h
  have hc : (bif isRel st then okTs X c r xs else okT X c st (hdS xs) && okTs X c r xs.tail) = true := hc
  show wpAny (model prog w) A (execs (bif isRel st then emitSs X c r xs else emitS X c st (hdS xs) :: emitSs X c r xs.tail) env) (PostS s0 c env Fc s O R) E s
  rw [hn] at hc ⊢
  refine wpAny_execs_cons (wpAny_mono (hs (and2 hc).1 hA hr h) (fun f s₁ p₁ => ?_) fun _ _ e => e)
  obtain ⟨o, p₁, k₁, hok⟩ := p₁
  cases hok with
  | next W O' hsr hos => exact wpAny_mono (ih (and2 hc).2 hA hsr p₁) (fun f s₂ p₂ => p₂.trans k₁ hos) fun _ _ e => e
  | brk W O' hsr hos => exact ⟨_, p₁, k₁, .brk W O' hsr hos⟩
  | cont W O' hsr hos => exact ⟨_, p₁, k₁, .cont W O' hsr hos⟩
  | ret v d h1 h2 => exact ⟨_, p₁, k₁, .ret v d h1 h2⟩

/-- what a statement and those behind it need -/
noncomputable def WpC (prog : Program) (w : World) (s0 : Shared) (L : Nat) (X : Xt) (c : Cx) (env : Env) (Fc : Addr → Prop) (A : Around) (st : S) : Prop := WpS prog w s0 L X c env Fc A st ∧ ∀ r, WpSs prog w s0 L X c env Fc A r → WpSs prog w s0 L X c env Fc A (st :: r)
theorem WpC.of {st : S} (h : WpS prog w s0 L X c env Fc A st) (hn : isRel st = false) : WpC prog w s0 L X c env Fc A st := ⟨h, fun _ ih => wss_cons h ih hn⟩

theorem wpc (hG : GOk prog w sB mg mb L X.G) (hX : OrcOk prog w s0 L X c env Fc A) (hf : FR sB s0 c env Fc) (st : S) : WpC prog w s0 L X c env Fc A st :=
  S.rec (motive_1 := WpC prog w s0 L X c env Fc A) (motive_2 := WpSs prog w s0 L X c env Fc A)
    (fun _ _ => .of (ws_asn hG hf) rfl)
    (fun _ _ => .of (ws_asnf hG hf) rfl)
    (fun _ _ _ _ _ => .of (ws_asnc hG hf) rfl)
    (fun _ _ => .of (ws_own hG hf) rfl)
    (fun _ _ => .of (ws_unp hG hf) rfl)
    (fun _ _ => .of (ws_swp hG hf) rfl)
    (fun _ _ _ => .of (ws_aug hG hf) rfl)
    (fun _ _ => .of (fun _ _ _ _ _ _ hc hA hr h => wp_extd hG hf hA hr (and2 hc).1 (and2 hc).2 h) rfl)
    (fun _ _ => .of (ws_app hG hf) rfl)
    (fun _ _ _ => .of (ws_sit hG hf) rfl)
    (fun _ _ => .of (ws_del hf) rfl)
    (fun _ _ _ a b => .of (ws_ite hG hf a b) rfl)
    (fun _ _ _ b => .of (ws_for hG hf b) rfl)
    (fun _ _ b => .of (ws_whl hG hf b) rfl)
    (fun _ => .of (ws_ret hG hf) rfl)
    (.of ws_brk rfl)
    (.of ws_cont rfl)
    (.of ws_pass rfl)
    (fun _ => .of (ws_asrt hG hf) rfl)
    (fun _ => ⟨.no fun _ h => Bool.noConfusion h, fun _ ih => wss_rel hf ih⟩)
    (fun _ => .of (ws_orc hX) rfl)
    wss_nil
    (fun _ r a b => a.2 r b)
    st
theorem wps (hG : GOk prog w sB mg mb L X.G) (hX : OrcOk prog w s0 L X c env Fc A) (hf : FR sB s0 c env Fc) (st : S) : WpS prog w s0 L X c env Fc A st := (wpc hG hX hf st).1
theorem wpss (hG : GOk prog w sB mg mb L X.G) (hX : OrcOk prog w s0 L X c env Fc A) (hf : FR sB s0 c env Fc) (sts : List S) : WpSs prog w s0 L X c env Fc A sts := by
  induction sts with
  | nil => exact wss_nil
  | cons st r ih => exact (wpc hG hX hf st).2 r ih
end
end Mp
end

section
open PySem PySem.W PyProof.Rows PySem.Calls
set_option maxRecDepth 100000
namespace Mp

/-! ## a def, called -/
noncomputable def cxOf (scope : Scope) : Cx := ⟨scope.names.filterMap fun p => if p.2 == .local then some (p.1, false) else if p.2 == .cell then some (p.1, true) else none, (scope.names.filter fun p => p.2 == .globalImplicit).map (·.1)⟩
noncomputable def nodupS : List Str → Bool
  | [] => true
  | x :: xs => !xs.contains x && nodupS xs
noncomputable def scopeGood (scope : Scope) (xs : List Str) : Bool :=
  scope.kind == .function && !scope.isGenerator && !scope.isCoroutine && scope.names.all (fun p => scope.names.lookup p.1 == some p.2) && nodupS (scope.names.map (·.1)) &&
    (((cxOf scope).vars.map (·.1)).take xs.length == xs)

theorem nodupS_iff : ∀ {xs : List Str}, nodupS xs = true → xs.Nodup
  | [], _ => List.nodup_nil
  | x :: xs, h => by
    simp only [nodupS, Bool.and_eq_true, Bool.not_eq_true'] at h
    exact List.nodup_cons.mpr ⟨by simpa using h.1, nodupS_iff h.2⟩

noncomputable def initW (c : Cx) (ds : List D) : Ws := ds.map V.val ++ List.replicate (c.vars.length - ds.length) V.no

section
theorem bindL_not {kindOf : Str → Option NameKind} : ∀ {r : List (Str × Value)} {m : Str → Option Value} {x : Str}, x ∉ r.map (·.1) → bindL kindOf r m x = m x
  | [], _, _, _ => rfl
  | (n, v) :: r, m, x, h => by
    simp only [List.map_cons, List.mem_cons, not_or] at h
    unfold bindL
    rw [bindL_not h.2]
    split
    · exact if_neg h.1
    · rfl
theorem bindL_get {kindOf : Str → Option NameKind} : ∀ {r : List (Str × Value)} {m : Str → Option Value} {x : Str} {v : Value}, (x, v) ∈ r → (r.map (·.1)).Nodup → kindOf x = some .local → bindL kindOf r m x = some v
  | (n, u) :: r, m, x, v, h, hn, hk => by
    simp only [List.map_cons, List.nodup_cons] at hn
    unfold bindL
    rcases List.mem_cons.mp h with e | h
    · cases e
      rw [bindL_not hn.1, if_pos hk]
      simp
    · exact bindL_get h hn.2 hk
theorem bindC_not {kindOf : Str → Option NameKind} : ∀ {r : List (Str × Value)} {m : Str → Option Value} {x : Str}, x ∉ r.map (·.1) → bindC kindOf r m x = m x
  | [], _, _, _ => rfl
  | (n, v) :: r, m, x, h => by
    simp only [List.map_cons, List.mem_cons, not_or] at h
    unfold bindC
    rw [bindC_not h.2]
    split
    · rfl
    · exact if_neg h.1
theorem bindC_get {kindOf : Str → Option NameKind} : ∀ {r : List (Str × Value)} {m : Str → Option Value} {x : Str} {v : Value}, (x, v) ∈ r → (r.map (·.1)).Nodup → kindOf x = some .cell → bindC kindOf r m x = some v
  | (n, u) :: r, m, x, v, h, hn, hk => by
    simp only [List.map_cons, List.nodup_cons] at hn
    unfold bindC
    rcases List.mem_cons.mp h with e | h
    · cases e
      rw [bindC_not hn.1, if_neg (by rw [hk]; decide)]
      simp
    · exact bindC_get h hn.2 hk

theorem cellsFrom_has : ∀ {names : List (Str × NameKind)} {n : Nat} {acc : List (Str × Addr)} {x : Str}, ((∃ a, (x, a) ∈ acc) ∨ (x, NameKind.cell) ∈ names) → ∃ a, (x, a) ∈ cellsFrom n names acc
  | [], n, acc, x, h => by
    rcases h with h | h
    · exact h
    · cases h
  | (y, k) :: r, n, acc, x, h => by
    unfold cellsFrom
    split
    · rename_i hk
      refine cellsFrom_has ?_
      rcases h with ⟨a, h⟩ | h
      · exact .inl ⟨a, List.mem_cons_of_mem _ h⟩
      · rcases List.mem_cons.mp h with e | h
        · cases e; exact .inl ⟨n, List.mem_cons_self ..⟩
        · exact .inr h
    · rename_i hk
      refine cellsFrom_has ?_
      rcases h with h | h
      · exact .inl h
      · rcases List.mem_cons.mp h with e | h
        · cases e; exact absurd rfl hk
        · exact .inr h
theorem lookup_of_mem {α : Type} : ∀ {l : List (Str × α)} {x : Str} {a : α}, (x, a) ∈ l → ∃ b, l.lookup x = some b
  | (y, b) :: r, x, a, h => by
    rw [List.lookup_cons]
    by_cases e : x == y
    · rw [e]; exact ⟨b, rfl⟩
    · simp only [Bool.not_eq_true] at e
      rw [e]
      rcases List.mem_cons.mp h with e' | h
      · cases e'; simp at e
      · exact lookup_of_mem h
end

section
variable {prog : Program} {w : World} {sB : Shared} {mg mb : Str → Option Value} {L : Nat} {X : Xt}

theorem con_core {a : Addr} {o : Obj} {fd : FuncData} {body : List Stmt} {xs : List Str} {A : Around} {s : Shared} {F : Addr → Prop} {vs : List Value} {ds : List D} {Q : Value → Shared → Prop} {E : Value → Shared → Prop}
    (ho : sB.heap.get? a = some o) (hd : o.data = .func fd) (hbody : fd.body = .stmts body) (hgl : fd.globals = mainGlobals) (hbl : fd.builtins = builtinsNs) (hcl : fd.closure = []) (hcd : sB.heap.CodeRec fd.code fd.qualname) (hlim : sB.heap.NoLimit)
    (hbind : ∀ vs : List Value, vs.length = xs.length → bindArgs fd ⟨vs, []⟩ = pure (xs.zip vs))
    (hsc : scopeGood fd.scope xs = true) (hA : AOk (L + 1) A) (hk : Kp sB s) (htok : s.toks ≠ 0) (hlive : Live s F) (hvs : VRs s F vs ds) (hlen : ds.length = xs.length)
    (hB : ∀ (env : Env) (s' : Shared), FR sB s (cxOf fd.scope) env F → env.frame = some env.locals → Kp s s' → AOk L (A.deeper env) → SR s (cxOf fd.scope) env F s' (List.replicate (cxOf fd.scope).vars.length none) (initW (cxOf fd.scope) ds) →
      wpAny (model prog w) (A.deeper env) (execs body env) (fun f s' => Q (match f with | .ret v => v | _ => .none) s')
        (fun e s' => wpAny (model prog w) (A.deeper env) (leaving env e) (fun _ s'' => E e s'') (fun e' s'' => E e' s'') s') s') :
    wpAny (model prog w) A (call (.ref a) vs) Q E s := by
  simp only [scopeGood, Bool.and_eq_true, List.all_eq_true, beq_iff_eq, Bool.not_eq_true'] at hsc
  obtain ⟨⟨⟨⟨⟨hkind, hgen⟩, hco⟩, hlook⟩, hnd⟩, htake⟩ := hsc
  have hnd := nodupS_iff hnd
  have hvl : vs.length = xs.length := by rw [hvs.length, hlen]
  generalize hcx : cxOf fd.scope = c at *
  have hvars : ∀ x b, (x, b) ∈ c.vars ↔ (x, if b = true then NameKind.cell else .local) ∈ fd.scope.names := by
    intro x b
    rw [← hcx]
    simp only [cxOf, List.mem_filterMap]
    constructor
    · rintro ⟨⟨y, k⟩, h1, h2⟩
      cases k <;> simp at h2 <;> obtain ⟨rfl, rfl⟩ := h2 <;> simpa using h1
    · intro h
      refine ⟨_, h, ?_⟩
      cases b <;> rfl
  have hlk : ∀ x b, (x, b) ∈ c.vars → fd.scope.names.lookup x = some (if b = true then NameKind.cell else .local) := fun x b h => hlook _ ((hvars x b).mp h)
  -- parameters
  have hpar : ∀ (k : Nat) x, xs[k]? = some x → ∃ b, c.vars[k]? = some (x, b) := by
    intro k x hx
    rw [← htake, List.getElem?_take] at hx
    split at hx
    · rw [List.getElem?_map, Option.map_eq_some_iff] at hx
      obtain ⟨⟨y, b⟩, h1, rfl⟩ := hx
      exact ⟨b, h1⟩
    · cases hx
  refine wpAny_call (codeAny_call_function (by have := hA.2.1; omega) (hk.hp _ _ ho) hd hco hgen hbody (hcd.keeps hk.hp) ?_)
  rw [hbind vs hvl, hgl, hbl, hcl]
  refine wpAny_pure ?_
  refine with_tk (wpAny_newFunctionEnv_cells hkind ?_ ?_)
  · intro p hp
    obtain ⟨x, v⟩ := p
    have hx : x ∈ xs := (List.of_mem_zip hp).1
    obtain ⟨k, hk'⟩ := List.getElem?_of_mem hx
    obtain ⟨b, hb⟩ := hpar k x hk'
    have hm := List.mem_of_getElem? hb
    cases b with
    | false => exact .inl (hlk x false hm)
    | true =>
      refine .inr ⟨hlk x true hm, ?_⟩
      obtain ⟨a', ha'⟩ := cellsFrom_has (n := s.heap.objs.size + 1) (acc := []) (.inr ((hvars x true).mp hm))
      obtain ⟨b', hb'⟩ := lookup_of_mem ha'
      rw [hb']; rfl
  · intro env henv s' hin htk
    have hkf : ∀ x, env.kindOf x = fd.scope.names.lookup x := by intro x; rw [henv]; rfl
    have hcells : env.cells = cellsFrom (s.heap.objs.size + 1) fd.scope.names [] := by rw [henv]; rfl
    have hL : env.locals = s.heap.objs.size := by rw [henv]; rfl
    have hnew : ∀ b, s.heap.objs.size ≤ b → s.heap.get? b = none := fun b hb => by
      cases e : s.heap.get? b with
      | none => rfl
      | some o => exact absurd (Heap.lt_size e) (Nat.not_lt.mpr hb)
    have hFR : FR sB s c env F := {
      kind := by rw [henv]; exact hkind
      gl := by rw [henv]; rfl
      bl := by rw [henv]; rfl
      sb := hk
      hF := hlive
      glob := by
        intro x hx
        rw [← hcx] at hx
        simp only [cxOf, List.mem_map, List.mem_filter, beq_iff_eq] at hx
        obtain ⟨⟨y, k⟩, ⟨h1, h2⟩, rfl⟩ := hx
        simp at h2; subst h2
        rw [hkf]; exact hlook _ h1
      locs := fun x hx => by rw [hkf]; exact hlk x false hx
      cels := fun x hx => by
        refine ⟨by rw [hkf]; exact hlk x true hx, ?_⟩
        rw [hcells]
        obtain ⟨a', ha'⟩ := cellsFrom_has (n := s.heap.objs.size + 1) (acc := []) (.inr ((hvars x true).mp hx))
        exact lookup_of_mem ha'
      cinj := fun x y a' h1 h2 => name_of_addr hin.apart (mem_of_lookup h1) (mem_of_lookup h2)
      cloc := fun x a' h1 => Nat.ne_of_gt (hin.above x a' (mem_of_lookup h1))
      tnew := by
        rintro a' (rfl | ⟨x, hx⟩)
        · exact hnew _ hin.toInCall.fresh
        · exact hnew _ (Nat.le_trans hin.toInCall.fresh (Nat.le_of_lt (hin.above x a' (mem_of_lookup hx))))
      nodup := by
        intro k k' x b b' h1 h2
        have hn : (c.vars.map (·.1)).Nodup := by
          rw [← hcx]
          have : ((cxOf fd.scope).vars.map (·.1)).Sublist (fd.scope.names.map (·.1)) := by
            simp only [cxOf]
            generalize fd.scope.names = l
            induction l with
            | nil => exact List.Sublist.refl _
            | cons p l ih =>
              rw [List.filterMap_cons]
              split
              · exact ih.cons _
              · rename_i q hq
                have : q.1 = p.1 := by
                  split at hq
                  · cases hq; rfl
                  · split at hq <;> cases hq; rfl
                rw [List.map_cons, List.map_cons, this]
                exact ih.cons₂ _
          exact hnd.sublist this
        have e1 : (c.vars.map (·.1))[k]? = some x := by rw [List.getElem?_map, h1]; rfl
        have e2 : (c.vars.map (·.1))[k']? = some x := by rw [List.getElem?_map, h2]; rfl
        obtain ⟨l1, e1'⟩ := List.getElem?_eq_some_iff.mp e1
        obtain ⟨l2, e2'⟩ := List.getElem?_eq_some_iff.mp e2
        exact (List.getElem_inj hn).mp (e1'.trans e2'.symm) }
    obtain ⟨h1, tk1, hsame⟩ := hin.toInCall.same
    have hkp : Kp s s' := ⟨hin.toInCall.keep, htk, by rw [hsame], ⟨[], by rw [hsame]; simp, by simp⟩⟩
    have hzn : ((xs.zip vs).map (·.1)).Nodup := by
      have e : (xs.zip vs).map (·.1) = xs := by
        rw [← List.unzip_fst, List.unzip_zip (by rw [hvl])]
      rw [e, ← htake]
      have hs : ((cxOf fd.scope).vars.map (·.1)).Sublist (fd.scope.names.map (·.1)) := by
        simp only [cxOf]
        generalize fd.scope.names = l
        induction l with
        | nil => exact List.Sublist.refl _
        | cons p l ih =>
          rw [List.filterMap_cons]
          split
          · exact ih.cons _
          · rename_i q hq
            have : q.1 = p.1 := by
              split at hq
              · cases hq; rfl
              · split at hq <;> cases hq; rfl
            rw [List.map_cons, List.map_cons, this]
            exact ih.cons₂ _
      rw [hcx] at hs
      exact (hnd.sublist hs).sublist (List.take_sublist _ _)
    have hlenc : xs.length ≤ c.vars.length := by
      have := congrArg List.length htake
      rw [List.length_take, List.length_map] at this
      omega
    have hSR : SR s c env F s' (List.replicate c.vars.length none) (initW c ds) := {
      base := hkp
      toks := by omega
      lenW := by simp [initW]; omega
      lenO := by simp
      ns := ⟨_, hin.toInCall.ns⟩
      cell := fun x a' e => ⟨_, hin.cell x a' e⟩
      onew := by intro k a' e; rw [List.getElem?_replicate] at e; split at e <;> cases e
      oinj := by intro k k' a' e; rw [List.getElem?_replicate] at e; split at e <;> cases e
      vals := by
        intro k x b d h1 h2
        unfold initW at h2
        by_cases hkl : k < ds.length
        · rw [List.getElem?_append_left (by simpa using hkl), List.getElem?_map, Option.map_eq_some_iff] at h2
          obtain ⟨d', h3, h4⟩ := h2
          cases h4
          obtain ⟨v, h5, h6⟩ := hvs.get k d h3
          have hxk : xs[k]? = some x := by
            have : (xs[k]?) = ((c.vars.map (·.1)).take xs.length)[k]? := by rw [htake]
            rw [this, List.getElem?_take, if_pos (by omega), List.getElem?_map, h1]; rfl
          have hz : (x, v) ∈ xs.zip vs := by
            refine List.mem_of_getElem? (i := k) ?_
            rw [List.getElem?_zip_eq_some]
            exact ⟨hxk, h5⟩
          have hm := List.mem_of_getElem? h1
          refine ⟨v, ?_, h6.mono hkp fun a' o e ha' => ?_⟩
          · cases b with
            | false => exact ⟨_, hin.toInCall.ns, bindL_get hz hzn (by rw [hkf]; exact hlk x false hm)⟩
            | true =>
              obtain ⟨hkd, a', ha'⟩ := hFR.cels x hm
              have := hin.cell x a' ha'
              rw [bindC_get hz hzn hkd] at this
              exact ⟨a', ha', this⟩
          · rcases ha' with h | h | ⟨i, hi⟩
            · exact h
            · rw [hFR.tnew a' h] at e; cases e
            · rw [List.getElem?_replicate] at hi; split at hi <;> cases hi
        · rw [List.getElem?_append_right (by simpa using Nat.le_of_not_lt hkl), List.getElem?_replicate] at h2
          split at h2 <;> cases h2
      owns := by
        intro k x b ys h1 h2
        unfold initW at h2
        by_cases hkl : k < ds.length
        · rw [List.getElem?_append_left (by simpa using hkl), List.getElem?_map, Option.map_eq_some_iff] at h2
          obtain ⟨d', h3, h4⟩ := h2
          cases h4
        · rw [List.getElem?_append_right (by simpa using Nat.le_of_not_lt hkl), List.getElem?_replicate] at h2
          split at h2 <;> cases h2 }
    refine ⟨(hlim.keeps hk.hp).keeps hkp.hp, codeAny_func ?_⟩
    have hA' : AOk L (A.deeper env) := ⟨hA.1, by have := hA.2.1; show A.depth + 1 + L < _; omega, by have := hA.2.2; show A.units + 3 + 3 * L + 70 < _; omega⟩
    exact hB env s' hFR (by rw [henv]; rfl) hkp hA' hSR

theorem con_of {a : Addr} {o : Obj} {fd : FuncData} {body : List Stmt} {xs : List Str} {sts : List S} {f : List D → (D → Prop) → Prop}
    (ho : sB.heap.get? a = some o) (hd : o.data = .func fd) (hbody : fd.body = .stmts body) (hgl : fd.globals = mainGlobals) (hbl : fd.builtins = builtinsNs) (hcl : fd.closure = []) (hcd : sB.heap.CodeRec fd.code fd.qualname) (hlim : sB.heap.NoLimit)
    (hbind : ∀ vs : List Value, vs.length = xs.length → bindArgs fd ⟨vs, []⟩ = pure (xs.zip vs))
    (hsc : scopeGood fd.scope xs = true) (hG : GOk prog w sB mg mb L X.G)
    (hX : ∀ (A : Around) (s0 : Shared) (env : Env) (Fc : Addr → Prop), FR sB s0 (cxOf fd.scope) env Fc → OrcOk prog w s0 L X (cxOf fd.scope) env Fc A)
    (hchk : okB X (cxOf fd.scope) sts body)
    (hf : ∀ ds Q, f ds Q → ds.length = xs.length ∧ pxs X sts (initW (cxOf fd.scope) ds) (fun o => match o with | .ret d => Q d | _ => False)) :
    Con prog w sB (L + 1) a f := by
  intro A s F vs ds Q E hA hk htok hlive hvs hq
  obtain ⟨hlen, hpx⟩ := hf ds Q hq
  refine con_core ho hd hbody hgl hbl hcl hcd hlim hbind hsc hA hk htok hlive hvs hlen fun env s' hFR _ _ hA' hSR => ?_
  have hw := fun E' => wpss hG (hX (A.deeper env) s env F hFR) hFR sts (E := E') hchk.1 hA' hSR hpx
  rw [hchk.2] at hw
  refine wpAny_mono (hw _) (fun fl s₂ p₂ => ?_) fun _ _ e => e
  obtain ⟨o, hR, hkt, hok⟩ := p₂
  cases hok with
  | ret v d h1 h2 => exact ⟨_, hR, h1, h2⟩
  | _ => exact hR.elim
end
end Mp
end

section
open PySem PySem.W PyProof.Rows PySem.Calls
set_option maxRecDepth 100000
namespace Mp

noncomputable abbrev pw : Program := PySem.Challenge.pw_ti0004_01
noncomputable def fnB (x : Str) : List Stmt := ((pw.theDef x).map (·.2.1)).getD []
noncomputable def fnS (x : Str) : Scope := ((pw.theDef x).map (·.2.2)).getD { kind := .function, names := [], isGenerator := false, isCoroutine := false }
noncomputable def fnP (x : Str) : Arguments := ((pw.theDef x).map (·.1)).getD { posonlyargs := [], args := [], vararg := none, kwonlyargs := [], kw_defaults := [], kwarg := none, defaults := [] }

noncomputable def bis0 : List (Str × Bi) := [("len", .len), ("min", .min), ("max", .max), ("int", .int)]
noncomputable def vals0 : List (Str × Str) := [("ELLIPSIS_MARKER", "...")]

noncomputable abbrev Ctr := List D → (D → Prop) → Prop
noncomputable def fl0 : UInt64 := 0
noncomputable def fl1 : UInt64 := 4607182418800017408
noncomputable def fl2 : UInt64 := 4611686018427387904
noncomputable def fl4 : UInt64 := 4616189618054758400
noncomputable def fl6 : UInt64 := 4618441417868443648

noncomputable def ir_strcoll : List S := (.ret (.bin .Sub (.cmp .Gt (.var 0) (.var 1)) (.cmp .Lt (.var 0) (.var 1)))) :: []
noncomputable def rgb_to_hsv_b1 : List S := (.ret (.tup [(.cst (.flt fl0)), (.cst (.flt fl0)), (.var 6)])) :: []
noncomputable def rgb_to_hsv_b2 : List S := (.asn 11 (.bin .Sub (.var 10) (.var 9))) :: []
noncomputable def rgb_to_hsv_b3 : List S := (.asn 11 (.bin .Sub (.bin .Add (.cst (.flt fl2)) (.var 8)) (.var 10))) :: []
noncomputable def rgb_to_hsv_b4 : List S := (.asn 11 (.bin .Sub (.bin .Add (.cst (.flt fl4)) (.var 9)) (.var 8))) :: []
noncomputable def rgb_to_hsv_b5 : List S := (.ite (.cmp .Eq (.var 1) (.var 3))
 rgb_to_hsv_b3
 rgb_to_hsv_b4) :: []
noncomputable def ir_rgb_to_hsv_11 : List S := (.ret (.tup [(.var 11), (.var 7), (.var 6)])) :: []
noncomputable def ir_rgb_to_hsv_10 : List S := (.asn 11 (.bin .Mod (.bin .Div (.var 11) (.cst (.flt fl6))) (.cst (.flt fl1)))) :: ir_rgb_to_hsv_11
noncomputable def ir_rgb_to_hsv_9 : List S := (.ite (.cmp .Eq (.var 0) (.var 3))
 rgb_to_hsv_b2
 rgb_to_hsv_b5) :: ir_rgb_to_hsv_10
noncomputable def ir_rgb_to_hsv_8 : List S := (.asn 10 (.bin .Div (.bin .Sub (.var 3) (.var 2)) (.var 5))) :: ir_rgb_to_hsv_9
noncomputable def ir_rgb_to_hsv_7 : List S := (.asn 9 (.bin .Div (.bin .Sub (.var 3) (.var 1)) (.var 5))) :: ir_rgb_to_hsv_8
noncomputable def ir_rgb_to_hsv_6 : List S := (.asn 8 (.bin .Div (.bin .Sub (.var 3) (.var 0)) (.var 5))) :: ir_rgb_to_hsv_7
noncomputable def ir_rgb_to_hsv_5 : List S := (.asn 7 (.bin .Div (.var 5) (.var 3))) :: ir_rgb_to_hsv_6
noncomputable def ir_rgb_to_hsv_4 : List S := (.ite (.cmp .Eq (.var 4) (.var 3))
 rgb_to_hsv_b1
 []) :: ir_rgb_to_hsv_5
noncomputable def ir_rgb_to_hsv_3 : List S := (.asn 6 (.var 3)) :: ir_rgb_to_hsv_4
noncomputable def ir_rgb_to_hsv_2 : List S := (.asn 5 (.bin .Sub (.var 3) (.var 4))) :: ir_rgb_to_hsv_3
noncomputable def ir_rgb_to_hsv_1 : List S := (.asn 4 (.bi 1 [(.var 0), (.var 1), (.var 2)])) :: ir_rgb_to_hsv_2
noncomputable def ir_rgb_to_hsv : List S := (.asn 3 (.bi 2 [(.var 0), (.var 1), (.var 2)])) :: ir_rgb_to_hsv_1
noncomputable def hsv_to_rgb_b1 : List S := (.ret (.tup [(.var 2), (.var 2), (.var 2)])) :: []
noncomputable def hsv_to_rgb_b2 : List S := (.ret (.tup [(.var 2), (.var 7), (.var 5)])) :: []
noncomputable def hsv_to_rgb_b3 : List S := (.ret (.tup [(.var 6), (.var 2), (.var 5)])) :: []
noncomputable def hsv_to_rgb_b4 : List S := (.ret (.tup [(.var 5), (.var 2), (.var 7)])) :: []
noncomputable def hsv_to_rgb_b5 : List S := (.ret (.tup [(.var 5), (.var 6), (.var 2)])) :: []
noncomputable def hsv_to_rgb_b6 : List S := (.ret (.tup [(.var 7), (.var 5), (.var 2)])) :: []
noncomputable def hsv_to_rgb_b7 : List S := (.ret (.tup [(.var 2), (.var 5), (.var 6)])) :: []
noncomputable def ir_hsv_to_rgb_12 : List S := (.ite (.cmp .Eq (.var 3) (.cst (.int 5)))
 hsv_to_rgb_b7
 []) :: []
noncomputable def ir_hsv_to_rgb_11 : List S := (.ite (.cmp .Eq (.var 3) (.cst (.int 4)))
 hsv_to_rgb_b6
 []) :: ir_hsv_to_rgb_12
noncomputable def ir_hsv_to_rgb_10 : List S := (.ite (.cmp .Eq (.var 3) (.cst (.int 3)))
 hsv_to_rgb_b5
 []) :: ir_hsv_to_rgb_11
noncomputable def ir_hsv_to_rgb_9 : List S := (.ite (.cmp .Eq (.var 3) (.cst (.int 2)))
 hsv_to_rgb_b4
 []) :: ir_hsv_to_rgb_10
noncomputable def ir_hsv_to_rgb_8 : List S := (.ite (.cmp .Eq (.var 3) (.cst (.int 1)))
 hsv_to_rgb_b3
 []) :: ir_hsv_to_rgb_9
noncomputable def ir_hsv_to_rgb_7 : List S := (.ite (.cmp .Eq (.var 3) (.cst (.int 0)))
 hsv_to_rgb_b2
 []) :: ir_hsv_to_rgb_8
noncomputable def ir_hsv_to_rgb_6 : List S := (.asn 3 (.bin .Mod (.var 3) (.cst (.int 6)))) :: ir_hsv_to_rgb_7
noncomputable def ir_hsv_to_rgb_5 : List S := (.asn 7 (.bin .Mult (.var 2) (.bin .Sub (.cst (.flt fl1)) (.bin .Mult (.var 1) (.bin .Sub (.cst (.flt fl1)) (.var 4)))))) :: ir_hsv_to_rgb_6
noncomputable def ir_hsv_to_rgb_4 : List S := (.asn 6 (.bin .Mult (.var 2) (.bin .Sub (.cst (.flt fl1)) (.bin .Mult (.var 1) (.var 4))))) :: ir_hsv_to_rgb_5
noncomputable def ir_hsv_to_rgb_3 : List S := (.asn 5 (.bin .Mult (.var 2) (.bin .Sub (.cst (.flt fl1)) (.var 1)))) :: ir_hsv_to_rgb_4
noncomputable def ir_hsv_to_rgb_2 : List S := (.asn 4 (.bin .Sub (.bin .Mult (.var 0) (.cst (.flt fl6))) (.var 3))) :: ir_hsv_to_rgb_3
noncomputable def ir_hsv_to_rgb_1 : List S := (.asn 3 (.bi 3 [(.bin .Mult (.var 0) (.cst (.flt fl6)))])) :: ir_hsv_to_rgb_2
noncomputable def ir_hsv_to_rgb : List S := (.ite (.cmp .Eq (.var 1) (.cst (.flt fl0)))
 hsv_to_rgb_b1
 []) :: ir_hsv_to_rgb_1
noncomputable def ellipsis_match_b1 : List S := (.ret (.cmp .Eq (.var 0) (.var 1))) :: []
noncomputable def ellipsis_match_b2_1 : List S := (.del 2 false) :: []
noncomputable def ellipsis_match_b2 : List S := (.asn 3 (.bi 0 [(.var 5)])) :: ellipsis_match_b2_1
noncomputable def ellipsis_match_b3 : List S := (.ret (.cst (.bool false))) :: []
noncomputable def ellipsis_match_b4 : List S := (.ite (.meth .startswith (.var 1) [(.var 5)])
 ellipsis_match_b2
 ellipsis_match_b3) :: []
noncomputable def ellipsis_match_b5_1 : List S := (.del 2 true) :: []
noncomputable def ellipsis_match_b5 : List S := (.aug 4 .Sub (.bi 0 [(.var 5)])) :: ellipsis_match_b5_1
noncomputable def ellipsis_match_b6 : List S := (.ret (.cst (.bool false))) :: []
noncomputable def ellipsis_match_b7 : List S := (.ite (.meth .endswith (.var 1) [(.var 5)])
 ellipsis_match_b5
 ellipsis_match_b6) :: []
noncomputable def ellipsis_match_b8 : List S := (.ret (.cst (.bool false))) :: []
noncomputable def ellipsis_match_b9 : List S := (.ret (.cst (.bool false))) :: []
noncomputable def ellipsis_match_b10_2 : List S := (.aug 3 .Add (.bi 0 [(.var 5)])) :: []
noncomputable def ellipsis_match_b10_1 : List S := (.ite (.cmp .Lt (.var 3) (.cst (.int 0)))
 ellipsis_match_b9
 []) :: ellipsis_match_b10_2
noncomputable def ellipsis_match_b10 : List S := (.asn 3 (.meth .find (.var 1) [(.var 5), (.var 3), (.var 4)])) :: ellipsis_match_b10_1
noncomputable def ir_ellipsis_match_11 : List S := (.ret (.cst (.bool true))) :: []
noncomputable def ir_ellipsis_match_10 : List S := (.for_ 5 (.var 2)
 ellipsis_match_b10) :: ir_ellipsis_match_11
noncomputable def ir_ellipsis_match_9 : List S := (.rel 2) :: ir_ellipsis_match_10
noncomputable def ir_ellipsis_match_8 : List S := (.ite (.cmp .Gt (.var 3) (.var 4))
 ellipsis_match_b8
 []) :: ir_ellipsis_match_9
noncomputable def ir_ellipsis_match_7 : List S := (.ite (.var 5)
 ellipsis_match_b7
 []) :: ir_ellipsis_match_8
noncomputable def ir_ellipsis_match_6 : List S := (.asnf 5 (.item (.var 2) (.neg 1))) :: ir_ellipsis_match_7
noncomputable def ir_ellipsis_match_5 : List S := (.ite (.var 5)
 ellipsis_match_b4
 []) :: ir_ellipsis_match_6
noncomputable def ir_ellipsis_match_4 : List S := (.asnf 5 (.item (.var 2) (.cst (.int 0)))) :: ir_ellipsis_match_5
noncomputable def ir_ellipsis_match_3 : List S := (.swp [3, 4] [(.cst (.int 0)), (.bi 0 [(.var 1)])]) :: ir_ellipsis_match_4
noncomputable def ir_ellipsis_match_2 : List S := (.asrt (.cmp .GtE (.bi 0 [(.var 2)]) (.cst (.int 2)))) :: ir_ellipsis_match_3
noncomputable def ir_ellipsis_match_1 : List S := (.own 2 (.split (.var 0) (.gval 0))) :: ir_ellipsis_match_2
noncomputable def ir_ellipsis_match : List S := (.ite (.cmp .NotIn (.gval 0) (.var 0))
 ellipsis_match_b1
 []) :: ir_ellipsis_match_1
noncomputable def law_lamp_b1 : List S := (.ret (.neg 2)) :: []
noncomputable def ir_law_lamp_4 : List S := (.ret (.ite (.cmp .Gt (.var 8) (.cst (.int 0))) (.bi 3 [(.bin .Mult (.var 7) (.var 1))]) (.neg 1))) :: []
noncomputable def ir_law_lamp_3 : List S := (.ite (.or (.cmp .NotEq (.bin .Mult (.var 7) (.var 1)) (.ite (.var 2) (.bin .Mod (.var 0) (.var 1)) (.cst (.int 0)))) (.or (.cmp .NotEq (.bin .Mult (.var 8) (.cst (.int 4))) (.var 3)) (.one (.cmp .NotEq (.bin .Mult (.var 9) (.cst (.int 2))) (.bin .Add (.cst (.int 1)) (.bin .Mod (.var 0) (.cst (.int 2))))))))
 law_lamp_b1
 []) :: ir_law_lamp_4
noncomputable def ir_law_lamp_2 : List S := (.unp [7, 8, 9] (.fn 1 [(.var 4), (.var 5), (.var 6)])) :: ir_law_lamp_3
noncomputable def ir_law_lamp_1 : List S := (.unp [4, 5, 6] (.fn 0 [(.bin .Div (.var 0) (.var 1)), (.bin .Div (.var 3) (.cst (.int 4))), (.bin .Div (.bin .Add (.cst (.int 1)) (.bin .Mod (.var 0) (.cst (.int 2)))) (.cst (.int 2)))])) :: ir_law_lamp_2
noncomputable def ir_law_lamp : List S := (.asn 3 (.ite (.var 2) (.bin .Add (.cst (.int 1)) (.bin .Mod (.var 0) (.cst (.int 4)))) (.cst (.int 0)))) :: ir_law_lamp_1
noncomputable def ir_law_whole : List S := (.ret (.ite (.and (.isint (.var 0)) (.and (.cmp .IsNot (.var 0) (.cst (.bool true))) (.one (.cmp .IsNot (.var 0) (.cst (.bool false)))))) (.var 0) (.neg 2))) :: []
noncomputable def law_strung_b1 : List S := (.cont) :: []
noncomputable def law_strung_b2 : List S := (.ret (.cst (.str ""))) :: []
noncomputable def law_strung_b3 : List S := (.brk) :: []
noncomputable def law_strung_b4_4 : List S := (.app 7 (.var 10)) :: []
noncomputable def law_strung_b4_3 : List S := (.ite (.or (.cmp .Eq (.var 10) (.neg 1)) (.one (.cmp .Eq (.var 10) (.var 6))))
 law_strung_b3
 []) :: law_strung_b4_4
noncomputable def law_strung_b4_2 : List S := (.ite (.cmp .Eq (.var 10) (.neg 2))
 law_strung_b2
 []) :: law_strung_b4_3
noncomputable def law_strung_b4_1 : List S := (.asn 10 (.fn 0 [(.var 9), (.var 1), (.cmp .Lt (.bin .Mod (.var 9) (.var 1)) (.var 3))])) :: law_strung_b4_2
noncomputable def law_strung_b4 : List S := (.asn 9 (.bin .Add (.var 6) (.bin .Mult (.var 8) (.var 2)))) :: law_strung_b4_1
noncomputable def law_strung_b5 : List S := (.sit 4 (.var 5) (.item (.cst (.str "abcdefghijklmnop")) (.var 11))) :: []
noncomputable def law_strung_b6_5 : List S := (.for_ 5 (.var 7)
 law_strung_b5) :: []
noncomputable def law_strung_b6_4 : List S := (.rel 7) :: law_strung_b6_5
noncomputable def law_strung_b6_3 : List S := (.asnf 11 (.bi 2 [(.comp [0] (.item (.var 1) (.var 0)) (.var 7))])) :: law_strung_b6_4
noncomputable def law_strung_b6_2 : List S := (.for_ 8 (.rng [(.cst (.int 1)), (.bin .Add (.var 1) (.cst (.int 1)))])
 law_strung_b4) :: law_strung_b6_3
noncomputable def law_strung_b6_1 : List S := (.own 7 (.ite (.cmp .Lt (.var 6) (.var 3)) [(.var 6)] [])) :: law_strung_b6_2
noncomputable def law_strung_b6 : List S := (.ite (.and (.cmp .Lt (.var 6) (.var 3)) (.one (.cmp .NotEq (.item (.var 4) (.var 6)) (.cst (.str "")))))
 law_strung_b1
 []) :: law_strung_b6_1
noncomputable def ir_law_strung_3 : List S := (.ret (.meth .join (.cst (.str "")) [(.var 4)])) :: []
noncomputable def ir_law_strung_2 : List S := (.for_ 6 (.bin .Add (.comp [] (.var 0) (.rng [(.var 3), (.var 1)])) (.comp [] (.var 0) (.rng [(.var 3)])))
 law_strung_b6) :: ir_law_strung_3
noncomputable def ir_law_strung_1 : List S := (.own 4 (.mul [(.cst (.str ""))] (.var 3))) :: ir_law_strung_2
noncomputable def ir_law_strung : List S := (.asn 3 (.bi 0 [(.var 0)])) :: ir_law_strung_1
noncomputable def law_b1 : List S := (.ret (.cst (.bool false))) :: []
noncomputable def law_b2_2 : List S := (.aug 12 .Add (.item (.var 9) (.var 13))) :: []
noncomputable def law_b2_1 : List S := (.ite (.cmp .NotEq (.var 13) (.item (.var 11) (.var 10)))
 law_b1
 []) :: law_b2_2
noncomputable def law_b2 : List S := (.asn 13 (.fn 0 [(.bin .Add (.item (.var 11) (.var 10)) (.bin .Mult (.var 5) (.bin .Mod (.var 10) (.cst (.int 3))))), (.var 5), (.cst (.bool true))])) :: law_b2_1
noncomputable def law_b3 : List S := (.ret (.cst (.bool false))) :: []
noncomputable def law_b4 : List S := (.ret (.cst (.bool false))) :: []
noncomputable def law_b5 : List S := (.ret (.cst (.bool false))) :: []
noncomputable def law_b6_4 : List S := (.asn 12 (.ite (.cmp .Eq (.var 22) (.neg 1)) (.meth .replace (.var 12) [(.var 20), (.var 21)]) (.meth .replace (.var 12) [(.var 21), (.var 20)]))) :: []
noncomputable def law_b6_3 : List S := (.ite (.cmp .NotEq (.var 22) (.ite (.cmp .Eq (.var 20) (.var 21)) (.cst (.int 0)) (.ite (.cmp .Gt (.meth .index (.var 9) [(.var 20)]) (.meth .index (.var 9) [(.var 21)])) (.cst (.int 1)) (.neg 1))))
 law_b5
 []) :: law_b6_4
noncomputable def law_b6_2 : List S := (.asn 22 (.fn 2 [(.fn 3 [(.var 20), (.var 21)])])) :: law_b6_3
noncomputable def law_b6_1 : List S := (.asn 21 (.item (.var 12) (.bin .Sub (.var 18) (.cst (.int 1))))) :: law_b6_2
noncomputable def law_b6 : List S := (.asn 20 (.item (.var 12) (.bin .Sub (.bin .Sub (.var 18) (.var 19)) (.cst (.int 1))))) :: law_b6_1
noncomputable def law_b7_1 : List S := (.ite (.cmp .LtE (.var 18) (.var 8))
 law_b6
 []) :: []
noncomputable def law_b7 : List S := (.aug 18 .Add (.var 19)) :: law_b7_1
noncomputable def law_b8_1 : List S := (.for_ 19 (.slL (.var 17) (.cst (.int 1)))
 law_b7) :: []
noncomputable def law_b8 : List S := (.asn 18 (.item (.var 17) (.cst (.int 0)))) :: law_b8_1
noncomputable def law_b9 : List S := (.ret (.cst (.bool false))) :: []
noncomputable def law_b10 : List S := (.swp [24, 25] [(.var 25), (.bin .Mod (.var 24) (.var 25))]) :: []
noncomputable def law_b11 : List S := (.ret (.cst (.bool false))) :: []
noncomputable def law_b12 : List S := (.ret (.cst (.bool false))) :: []
noncomputable def law_b13_3 : List S := (.ite (.cmp .NotEq (.compif [12] (.var 0) (.var 30) (.cmp .IsNot (.fn 5 [(.item (.var 0) (.cst (.int 0))), (.var 1)]) (.item (.var 0) (.cst (.int 1))))) (.lst []))
 law_b12
 []) :: []
noncomputable def law_b13_2 : List S := (.asn 30 (.lst [(.lst [(.bin .Add (.var 29) (.cst (.str "..."))), (.var 28)]), (.lst [(.bin .Add (.cst (.str "...")) (.slU (.var 12) (.bin .Sub (.var 8) (.var 27)))), (.var 28)]), (.lst [(.bin .Add (.bin .Add (.var 29) (.cst (.str "..."))) (.var 29)), (.and (.var 28) (.one (.cmp .GtE (.bin .Mult (.cst (.int 2)) (.var 27)) (.var 8))))])])) :: law_b13_3
noncomputable def law_b13_1 : List S := (.asn 29 (.slL (.var 12) (.var 27))) :: law_b13_2
noncomputable def law_b13 : List S := (.asn 28 (.ite (.cmp .LtE (.var 7) (.var 24)) (.cmp .Eq (.bin .Mod (.var 27) (.var 24)) (.cst (.int 0))) (.cmp .Eq (.compif [23, 27] (.var 0) (.rng [(.var 27), (.var 8)]) (.cmp .NotEq (.item (.var 1) (.var 0)) (.item (.var 1) (.bin .Sub (.var 0) (.var 2))))) (.lst [])))) :: law_b13_1
noncomputable def ir_law_28 : List S := (.ret (.cst (.bool true))) :: []
noncomputable def ir_law_27 : List S := (.for_ 27 (.rng [(.cst (.int 1)), (.var 8)])
 law_b13) :: ir_law_28
noncomputable def ir_law_26 : List S := (.ite (.or (.cmp .NotEq (.compif [26] (.var 0) (.var 23) (.cmp .NotIn (.var 0) (.var 1))) (.lst [])) (.one (.cmp .NotEq (.bi 0 [(.var 26)]) (.bi 2 [(.var 7), (.var 24)]))))
 law_b11
 []) :: ir_law_27
noncomputable def ir_law_25 : List S := (.asn 26 (.compif [12] (.var 0) (.slU (.var 9) (.var 5)) (.cmp .Is (.fn 5 [(.bin .Add (.bin .Add (.cst (.str "...")) (.var 0)) (.cst (.str "..."))), (.var 1)]) (.cst (.bool true))))) :: ir_law_26
noncomputable def ir_law_24 : List S := (.whl (.cmp .Gt (.var 25) (.cst (.int 0)))
 law_b10) :: ir_law_25
noncomputable def ir_law_23 : List S := (.swp [24, 25] [(.var 6), (.var 5)]) :: ir_law_24
noncomputable def ir_law_22 : List S := (.ite (.cmp .NotEq (.var 12) (.var 23))
 law_b9
 []) :: ir_law_23
noncomputable def ir_law_21 : List S := (.asn 23 (.fn 4 [(.var 11), (.var 5), (.var 6)])) :: ir_law_22
noncomputable def ir_law_20 : List S := (.for_ 17 (.var 15)
 law_b8) :: ir_law_21
noncomputable def ir_law_19 : List S := (.ite (.cmp .NotEq (.var 15) (.var 16))
 law_b4
 []) :: ir_law_20
noncomputable def ir_law_18 : List S := (.rel 16) :: ir_law_19
noncomputable def ir_law_17 : List S := (.rel 15) :: ir_law_18
noncomputable def ir_law_16 : List S := (.extd 16 (.comp [5, 6] (.bin .Add (.lst [(.bin .Add (.var 0) (.cst (.int 1))), (.bin .Sub (.var 1) (.var 2))]) (.item (.lst [(.lst [(.cst (.int 126)), (.cst (.int 16)), (.cst (.int 16)), (.cst (.int 16))]), (.lst [(.cst (.int 128))]), (.lst [(.cst (.int 128))]), (.lst [])]) (.bin .Mod (.var 0) (.cst (.int 4))))) (.rng [(.var 8)]))) :: ir_law_17
noncomputable def ir_law_15 : List S := (.asnc true 16 [6, 8] (.bin .Add (.lst [(.bin .Add (.var 0) (.cst (.int 1)))]) (.bin .Mult (.lst [(.var 1)]) (.bin .Add (.cst (.int 1)) (.bin .FloorDiv (.bin .Sub (.bin .Sub (.var 2) (.var 0)) (.cst (.int 1))) (.var 1))))) (.rng [(.var 6)])) :: ir_law_16
noncomputable def ir_law_14 : List S := (.extd 15 (.comp [5, 6, 14] (.fn 1 [(.bin .Add (.lst [(.bin .Add (.var 0) (.cst (.int 1))), (.bin .Sub (.var 1) (.var 2))]) (.item (.var 3) (.bin .Mod (.var 0) (.cst (.int 4))))), (.cst (.int 6))]) (.rng [(.var 8)]))) :: ir_law_15
noncomputable def ir_law_13 : List S := (.asnc true 15 [6, 8] (.fn 1 [(.bin .Add (.slU (.lst [(.bin .Add (.var 0) (.cst (.int 1)))]) (.bin .Sub (.bin .Sub (.var 1) (.cst (.int 1))) (.var 0))) (.lst [(.var 1), (.cst (.int 0))])), (.bin .Add (.cst (.int 2)) (.bin .FloorDiv (.bin .Sub (.bin .Sub (.var 2) (.var 0)) (.cst (.int 1))) (.var 1)))]) (.rng [(.var 6)])) :: ir_law_14
noncomputable def ir_law_12 : List S := (.asn 14 (.lst [(.lst [(.cst (.int 126)), (.cst (.int 16)), (.cst (.int 0)), (.var 6)]), (.lst [(.cst (.int 128)), (.cst (.int 127)), (.var 6)]), (.lst [(.cst (.int 128)), (.cst (.int 127))]), (.lst [])])) :: ir_law_13
noncomputable def ir_law_11 : List S := (.ite (.cmp .NotEq (.bin .Add (.fn 1 [(.lst [(.cst (.int 127)), (.var 6)]), (.cst (.int 1))]) (.fn 1 [(.lst []), (.cst (.int 1))])) (.lst []))
 law_b3
 []) :: ir_law_12
noncomputable def ir_law_10 : List S := (.orc 0) :: ir_law_11
noncomputable def ir_law_9 : List S := (.for_ 10 (.rng [(.var 8)])
 law_b2) :: ir_law_10
noncomputable def ir_law_8 : List S := (.asn 12 (.cst (.str ""))) :: ir_law_9
noncomputable def ir_law_7 : List S := (.asnc false 11 [4, 5] (.bin .Mod (.bin .Add (.bin .FloorDiv (.var 1) (.cst (.int 16))) (.bin .Mult (.var 0) (.bin .Add (.bin .Mult (.cst (.int 2)) (.bin .Mod (.var 1) (.cst (.int 16)))) (.cst (.int 3))))) (.var 2)) (.rng [(.var 8)])) :: ir_law_8
noncomputable def ir_law_6 : List S := (.asn 9 (.cst (.str "abcdefghijklmnop"))) :: ir_law_7
noncomputable def ir_law_5 : List S := (.asn 8 (.bin .Sub (.var 5) (.var 7))) :: ir_law_6
noncomputable def ir_law_4 : List S := (.asn 7 (.bin .Add (.cst (.int 1)) (.bin .Mod (.bin .Add (.var 3) (.cst (.int 1))) (.bi 1 [(.var 6), (.bin .Sub (.var 5) (.var 6))])))) :: ir_law_5
noncomputable def ir_law_3 : List S := (.asn 6 (.bin .Add (.cst (.int 1)) (.bin .Mod (.bin .Add (.bin .FloorDiv (.var 2) (.cst (.int 2))) (.cst (.int 4))) (.bin .Sub (.var 5) (.cst (.int 1)))))) :: ir_law_4
noncomputable def ir_law_2 : List S := (.asn 5 (.bin .Add (.cst (.int 8)) (.bin .Mult (.cst (.int 8)) (.bin .Mod (.var 2) (.cst (.int 2)))))) :: ir_law_3
noncomputable def ir_law_1 : List S := (.unp [2, 3, 4] (.bin .Add (.var 1) (.slL (.lst [(.cst (.int 0)), (.cst (.int 0)), (.cst (.int 0))]) (.bi 0 [(.var 1)])))) :: ir_law_2
noncomputable def ir_law : List S := (.asnc false 1 [] (.bin .Mod (.var 0) (.cst (.int 1000000))) (.slU (.var 0) (.cst (.int 3)))) :: ir_law_1

theorem chk_strcoll : okB ⟨⟨vals0, bis0, []⟩, []⟩ (cxOf (fnS "_strcoll")) ir_strcoll (fnB "_strcoll") := ⟨by kernel_rfl, by kernel_rfl⟩
theorem chk_rgb : okB ⟨⟨vals0, bis0, []⟩, []⟩ (cxOf (fnS "rgb_to_hsv")) ir_rgb_to_hsv (fnB "rgb_to_hsv") := ⟨by kernel_rfl, by kernel_rfl⟩
theorem chk_hsv : okB ⟨⟨vals0, bis0, []⟩, []⟩ (cxOf (fnS "hsv_to_rgb")) ir_hsv_to_rgb (fnB "hsv_to_rgb") := ⟨by kernel_rfl, by kernel_rfl⟩
theorem chk_ell : okB ⟨⟨vals0, bis0, []⟩, []⟩ (cxOf (fnS "_ellipsis_match")) ir_ellipsis_match (fnB "_ellipsis_match") := ⟨by kernel_rfl, by kernel_rfl⟩
theorem chk_lamp (f g : Ctr) : okB ⟨⟨vals0, bis0, [("hsv_to_rgb", f), ("rgb_to_hsv", g)]⟩, []⟩ (cxOf (fnS "_law_lamp")) ir_law_lamp (fnB "_law_lamp") := ⟨by kernel_rfl, by kernel_rfl⟩
theorem chk_whole : okB ⟨⟨vals0, bis0, []⟩, []⟩ (cxOf (fnS "_law_whole")) ir_law_whole (fnB "_law_whole") := ⟨by kernel_rfl, by kernel_rfl⟩
theorem chk_strung (f : Ctr) : okB ⟨⟨vals0, bis0, [("_law_lamp", f)]⟩, []⟩ (cxOf (fnS "_law_strung")) ir_law_strung (fnB "_law_strung") := ⟨by kernel_rfl, by kernel_rfl⟩

theorem good_strcoll : scopeGood (fnS "_strcoll") ["a", "b"] = true := by kernel_rfl
theorem good_rgb : scopeGood (fnS "rgb_to_hsv") ["r", "g", "b"] = true := by kernel_rfl
theorem good_hsv : scopeGood (fnS "hsv_to_rgb") ["h", "s", "v"] = true := by kernel_rfl
theorem good_ell : scopeGood (fnS "_ellipsis_match") ["want", "got"] = true := by kernel_rfl
theorem good_lamp : scopeGood (fnS "_law_lamp") ["place", "lamps", "lit"] = true := by kernel_rfl
theorem good_whole : scopeGood (fnS "_law_whole") ["told"] = true := by kernel_rfl
theorem good_strung : scopeGood (fnS "_law_strung") ["drawn", "lamps", "step"] = true := by kernel_rfl
theorem good_law : scopeGood (fnS "law") ["script"] = true := by kernel_rfl
end Mp
end

section
open PySem PySem.W PyProof.Rows PySem.Calls
set_option maxRecDepth 100000
set_option linter.unusedSimpArgs false
set_option linter.unusedVariables false
set_option linter.unusedSectionVars false
namespace Mp

theorem vars_strcoll : (cxOf (fnS "_strcoll")).vars.length = 2 := by kernel_rfl
theorem vars_rgb : (cxOf (fnS "rgb_to_hsv")).vars.length = 12 := by kernel_rfl
theorem vars_hsv : (cxOf (fnS "hsv_to_rgb")).vars.length = 8 := by kernel_rfl
theorem vars_ell : (cxOf (fnS "_ellipsis_match")).vars.length = 6 := by kernel_rfl
theorem vars_lamp : (cxOf (fnS "_law_lamp")).vars.length = 10 := by kernel_rfl
theorem vars_whole : (cxOf (fnS "_law_whole")).vars.length = 1 := by kernel_rfl
theorem vars_strung : (cxOf (fnS "_law_strung")).vars.length = 12 := by kernel_rfl
theorem vars_law : (cxOf (fnS "law")).vars.length = 31 := by kernel_rfl

/-! ## _strcoll, _law_whole -/
noncomputable def cStrcoll : Ctr := fun ds Q => ∃ a b x y, ds = [a, b] ∧ a.text = some x ∧ b.text = some y ∧ Q (.int (bint (decide (y.cps.toList < x.cps.toList)) - bint (decide (x.cps.toList < y.cps.toList))))
noncomputable def cWhole : Ctr := fun ds Q => ∃ i, ds = [.int i] ∧ Q (.int i)

noncomputable abbrev retP (Q : D → Prop) : Out → Prop := fun o => match o with | .ret d => Q d | _ => False

/-! ## one statement at a time -/
noncomputable def nxt (X : Xt) (r : List S) (R : Out → Prop) : Out → Prop := fun o => match o with
  | .go W' => pxs X r W' R
  | o => R o
section
variable {X : Xt} {r a b : List S} {W : Ws} {R : Out → Prop} {e t it i : I} {k : Nat}
theorem nxt_go {W' : Ws} : nxt X r R (.go W') = pxs X r W' R := rfl
theorem nxt_ret {d : D} : nxt X r R (.ret d) = R (.ret d) := rfl
theorem nxt_brk {W' : Ws} : nxt X r R (.brk W') = R (.brk W') := rfl
theorem nxt_cont {W' : Ws} : nxt X r R (.cont W') = R (.cont W') := rfl
theorem s_nil (h : R (.go W)) : pxs X [] W R := h
theorem s_asn (h : pe X.G e (hid W) fun d => pxs X r (W.set k (.val d)) R) : pxs X (.asn k e :: r) W R := h
theorem s_asnf (h : pe X.G e (vis W) fun d => fl d ∧ pxs X r (W.set k (.val d)) R) : pxs X (.asnf k e :: r) W R := h
theorem s_ite (h : pt X.G t (vis W) fun ok => if ok = true then pxs X a W (nxt X r R) else pxs X b W (nxt X r R)) : pxs X (.ite t a b :: r) W R := h
theorem s_ret (h : pe X.G e (vis W) fun d => R (.ret d)) : pxs X (.ret e :: r) W R := h
theorem s_unp {ks : List Nat} (h : pe X.G e (hid W) fun d => onLs d fun ds => ds.length = ks.length ∧ pxs X r (setAll ks ds W) R) : pxs X (.unp ks e :: r) W R := h
theorem s_for {body : List S} (h : pit X.G it (hid W) fun ds => pfor (fun W R => pxs X body W R) k ds W (nxt X r R)) : pxs X (.for_ k it body :: r) W R := h
theorem s_cont (h : R (.cont W)) : pxs X (.cont :: r) W R := h
theorem s_brk (h : R (.brk W)) : pxs X (.brk :: r) W R := h
theorem s_own {e : N} (h : pe X.G e.i (hid W) fun d => onL d fun ds => pxs X r (W.set k (.own ds)) R) : pxs X (.own k e :: r) W R := h
theorem s_asnc {own : Bool} {out : List Nat} {elt : I} (h : pit X.G it (hid W) fun ds => pcompif (fun _ Q => Q true) (fun d Q => pe X.G elt (inner (hid W) out d) Q) ds fun ys => pxs X r (W.set k (if own = true then .own ys else .val (.list ys))) R) :
    pxs X (.asnc own k out elt it :: r) W R := h
theorem s_swp {ks : List Nat} {es : List I} (h : pes X.G es (hid W) fun ds => pxs X r (setAll ks.reverse ds.reverse W) R) : pxs X (.swp ks es :: r) W R := h
theorem onV_some {o : Option V} {d : D} {P : D → Prop} (e : o = some (.val d)) (h : P d) : onV o P := e ▸ h
theorem onO_some {o : Option V} {d : List D} {P : List D → Prop} (e : o = some (.own d)) (h : P d) : onO o P := e ▸ h
theorem s_aug {op : Operator} {o : D} (hW : W[k]? = some (.val o)) (h : pe X.G e (vis W) fun d => pinp op o d fun x => fl x ∧ pxs X r (W.set k (.val x)) R) : pxs X (.aug k op e :: r) W R := onV_some hW h
theorem s_extd {xs : List D} (hW : W[k]? = some (.own xs)) (h : pe X.G e (hid W) fun d => onL d fun ys => (xs.length + ys.length ≤ 1048576) ∧ pxs X r (W.set k (.own (xs ++ ys))) R) : pxs X (.extd k e :: r) W R := onO_some hW h
theorem s_app {xs : List D} (hW : W[k]? = some (.own xs)) (h : pe X.G e (hid W) fun d => (xs.length ≤ 1048576) ∧ pxs X r (W.set k (.own (xs ++ [d]))) R) : pxs X (.app k e :: r) W R := onO_some hW h
theorem s_sit {xs : List D} (hW : W[k]? = some (.own xs)) (h : pe X.G e (hid W) fun d => pe X.G i (hid W) fun j => onI j fun n => (0 ≤ n ∧ n < xs.length ∧ xs.length ≤ 1048576) ∧ pxs X r (W.set k (.own (xs.set n.toNat d))) R) :
    pxs X (.sit k i e :: r) W R := onO_some hW h
theorem s_del {xs : List D} {last : Bool} (hW : W[k]? = some (.own xs)) (h : (xs ≠ [] ∧ xs.length ≤ 1048576) ∧ pxs X r (W.set k (.own (if last = true then xs.dropLast else xs.tail))) R) : pxs X (.del k last :: r) W R := onO_some hW h
theorem s_rel {xs : List D} (hW : W[k]? = some (.own xs)) (h : pxs X r (W.set k (.val (.list xs))) R) : pxs X (.rel k :: r) W R := onO_some hW h
theorem s_asrt (h : pt X.G t (vis W) fun ok => ok = true ∧ pxs X r W R) : pxs X (.asrt t :: r) W R := h
theorem s_whl {body : List S} (n : Nat) (h : pwhl (fun W R => pt X.G t (vis W) R) (fun W R => pxs X body W R) n W (nxt X r R)) : pxs X (.whl t body :: r) W R := ⟨n, h⟩
theorem s_orc {n : Nat} {p} (hp : X.orcs[n]? = some p) (h : p.2 W (nxt X r R)) : pxs X (.orc n :: r) W R := by
  show (match X.orcs[n]? with | some p => p.2 W (nxt X r R) | none => False)
  rw [hp]; exact h
theorem s_pass (h : pxs X r W R) : pxs X (.pass :: r) W R := h
end

theorem ok_whole (ds : List D) (Q : D → Prop) (h : cWhole ds Q) : ds.length = 1 ∧ pxs ⟨⟨vals0, bis0, []⟩, []⟩ ir_law_whole (initW (cxOf (fnS "_law_whole")) ds) (retP Q) := by
  obtain ⟨i, rfl, h⟩ := h
  refine ⟨rfl, ?_⟩
  unfold initW
  rw [vars_whole]
  exact h

theorem cmp_text_gt {a b : D} {x y : Str} {Q : D → Prop} (ha : a.text = some x) (hb : b.text = some y) : pcmp .Gt a b Q = Q (.bool (decide (y.cps.toList < x.cps.toList))) := by
  cases a <;> simp [D.text] at ha <;> cases b <;> simp [D.text] at hb <;> subst ha <;> subst hb <;> rfl
theorem cmp_text_lt {a b : D} {x y : Str} {Q : D → Prop} (ha : a.text = some x) (hb : b.text = some y) : pcmp .Lt a b Q = Q (.bool (decide (x.cps.toList < y.cps.toList))) := by
  cases a <;> simp [D.text] at ha <;> cases b <;> simp [D.text] at hb <;> subst ha <;> subst hb <;> rfl

theorem ok_strcoll (ds : List D) (Q : D → Prop) (h : cStrcoll ds Q) : ds.length = 2 ∧ pxs ⟨⟨vals0, bis0, []⟩, []⟩ ir_strcoll (initW (cxOf (fnS "_strcoll")) ds) (retP Q) := by
  obtain ⟨a, b, x, y, rfl, ha, hb, h⟩ := h
  refine ⟨rfl, ?_⟩
  simp only [ir_strcoll, initW, vars_strcoll, List.length_cons, List.length_nil, Nat.reduceAdd, Nat.reduceSub, List.replicate, List.map_cons, List.map_nil, List.cons_append, List.nil_append, List.append_nil, pxs_cons, pxs_nil, px_ret, pe_cst, pe_neg, pe_var, pe_gval, pe_bin, pe_cmp, pe_ite, pe_and, pe_one, pe_bi, pe_fn, pe_meth, pe_item, pe_slA, pe_slL, pe_slU, pe_lst, pe_tup, pe_isint, pe_comp, pe_compif, vis, V.vis, List.getElem?_cons_zero, List.getElem?_cons_succ, cmp_text_gt ha hb, cmp_text_lt ha hb, pbin_addI, pbin_subI, pbin_modI, pbin_fdivI, pbin_mulI', pbin_addF, pbin_subF, pbin_mulF, pbin_divF, pbin_modF, pbin_subFI, pbin_mulFI, pbin_subB, pbin_addL, pbin_mulL]
  exact h

/-! ## the colours -/
noncomputable def rgbF (r g b : UInt64) : Option (UInt64 × UInt64 × UInt64) :=
  let maxc := fbest fgt r g b
  let minc := fbest flt' r g b
  let rangec := Float64.sub maxc minc
  if (Float64.cmp minc maxc == some Ordering.eq) = true then some (fl0, fl0, maxc)
  else if Float64.isZero maxc = true ∨ Float64.isZero rangec = true then none
  else
    let s := Float64.div rangec maxc
    let rc := Float64.div (Float64.sub maxc r) rangec
    let gc := Float64.div (Float64.sub maxc g) rangec
    let bc := Float64.div (Float64.sub maxc b) rangec
    let h := if (Float64.cmp r maxc == some Ordering.eq) = true then Float64.sub bc gc
      else if (Float64.cmp g maxc == some Ordering.eq) = true then Float64.sub (Float64.add fl2 rc) bc
      else Float64.sub (Float64.add fl4 gc) rc
    some ((Float64.divmod (Float64.div h fl6) fl1).snd, s, maxc)
noncomputable def cRgb : Ctr := fun ds Q => ∃ r g b x, ds = [.flt r, .flt g, .flt b] ∧ rgbF r g b = some x ∧ Q (.tup [.flt x.1, .flt x.2.1, .flt x.2.2])

theorem six_nz : Float64.isZero fl6 = false := by decide +kernel
theorem one_nz : Float64.isZero fl1 = false := by decide +kernel

theorem ok_rgb (ds : List D) (Q : D → Prop) (h : cRgb ds Q) : ds.length = 3 ∧ pxs ⟨⟨vals0, bis0, []⟩, []⟩ ir_rgb_to_hsv (initW (cxOf (fnS "rgb_to_hsv")) ds) (retP Q) := by
  obtain ⟨r, g, b, x, rfl, hx, h⟩ := h
  refine ⟨rfl, ?_⟩
  unfold rgbF at hx
  simp only at hx
  simp only [initW, vars_rgb, List.length_cons, List.length_nil, Nat.reduceAdd, Nat.reduceSub, List.replicate, List.map_cons, List.map_nil, List.cons_append, List.nil_append]
  unfold ir_rgb_to_hsv
  refine s_asn ?_
  simp only [pe_cst, pe_neg, pe_var, pe_gval, pe_bin, pe_cmp, pe_ite, pe_and, pe_one, pe_bi, pe_fn, pe_meth, pe_item, pe_slA, pe_slL, pe_slU, pe_lst, pe_tup, pe_isint, pe_comp, pe_compif, pes_nil, pes_cons, pt_cmp, pt_and, pt_or, pt_one, pt_var, pt_isint, pt_fn, pt_meth, hid, vis, List.map_cons, List.map_nil, V.vis, V.hid, List.getElem?_cons_zero, List.getElem?_cons_succ, List.set_cons_zero, List.set_cons_succ, bis0, pbi_len, pbi_min, pbi_max2, pbi_min3, pbi_max3, pbin_addI, pbin_subI, pbin_modI, pbin_fdivI, pbin_mulI', pbin_addF, pbin_subF, pbin_mulF, pbin_divF, pbin_modF, pbin_subFI, pbin_mulFI, pbin_subB, pbin_addL, pbin_mulL, pcmp_ltI, pcmp_leI, pcmp_gtI', pcmp_geI, pcmp_eqI, pcmp_neI', pcmp_eqF, pcmp_eqFI, pcmp_isB, pcmp_isnotB, ptruth_bool]
  generalize fbest fgt r g b = maxc at hx ⊢
  unfold ir_rgb_to_hsv_1
  refine s_asn ?_
  simp only [pe_cst, pe_neg, pe_var, pe_gval, pe_bin, pe_cmp, pe_ite, pe_and, pe_one, pe_bi, pe_fn, pe_meth, pe_item, pe_slA, pe_slL, pe_slU, pe_lst, pe_tup, pe_isint, pe_comp, pe_compif, pes_nil, pes_cons, pt_cmp, pt_and, pt_or, pt_one, pt_var, pt_isint, pt_fn, pt_meth, hid, vis, List.map_cons, List.map_nil, V.vis, V.hid, List.getElem?_cons_zero, List.getElem?_cons_succ, List.set_cons_zero, List.set_cons_succ, bis0, pbi_len, pbi_min, pbi_max2, pbi_min3, pbi_max3, pbin_addI, pbin_subI, pbin_modI, pbin_fdivI, pbin_mulI', pbin_addF, pbin_subF, pbin_mulF, pbin_divF, pbin_modF, pbin_subFI, pbin_mulFI, pbin_subB, pbin_addL, pbin_mulL, pcmp_ltI, pcmp_leI, pcmp_gtI', pcmp_geI, pcmp_eqI, pcmp_neI', pcmp_eqF, pcmp_eqFI, pcmp_isB, pcmp_isnotB, ptruth_bool]
  generalize fbest flt' r g b = minc at hx ⊢
  unfold ir_rgb_to_hsv_2
  refine s_asn ?_
  simp only [pe_cst, pe_neg, pe_var, pe_gval, pe_bin, pe_cmp, pe_ite, pe_and, pe_one, pe_bi, pe_fn, pe_meth, pe_item, pe_slA, pe_slL, pe_slU, pe_lst, pe_tup, pe_isint, pe_comp, pe_compif, pes_nil, pes_cons, pt_cmp, pt_and, pt_or, pt_one, pt_var, pt_isint, pt_fn, pt_meth, hid, vis, List.map_cons, List.map_nil, V.vis, V.hid, List.getElem?_cons_zero, List.getElem?_cons_succ, List.set_cons_zero, List.set_cons_succ, bis0, pbi_len, pbi_min, pbi_max2, pbi_min3, pbi_max3, pbin_addI, pbin_subI, pbin_modI, pbin_fdivI, pbin_mulI', pbin_addF, pbin_subF, pbin_mulF, pbin_divF, pbin_modF, pbin_subFI, pbin_mulFI, pbin_subB, pbin_addL, pbin_mulL, pcmp_ltI, pcmp_leI, pcmp_gtI', pcmp_geI, pcmp_eqI, pcmp_neI', pcmp_eqF, pcmp_eqFI, pcmp_isB, pcmp_isnotB, ptruth_bool]
  generalize Float64.sub maxc minc = rangec at hx ⊢
  unfold ir_rgb_to_hsv_3
  refine s_asn ?_
  simp only [pe_cst, pe_neg, pe_var, pe_gval, pe_bin, pe_cmp, pe_ite, pe_and, pe_one, pe_bi, pe_fn, pe_meth, pe_item, pe_slA, pe_slL, pe_slU, pe_lst, pe_tup, pe_isint, pe_comp, pe_compif, pes_nil, pes_cons, pt_cmp, pt_and, pt_or, pt_one, pt_var, pt_isint, pt_fn, pt_meth, hid, vis, List.map_cons, List.map_nil, V.vis, V.hid, List.getElem?_cons_zero, List.getElem?_cons_succ, List.set_cons_zero, List.set_cons_succ, bis0, pbi_len, pbi_min, pbi_max2, pbi_min3, pbi_max3, pbin_addI, pbin_subI, pbin_modI, pbin_fdivI, pbin_mulI', pbin_addF, pbin_subF, pbin_mulF, pbin_divF, pbin_modF, pbin_subFI, pbin_mulFI, pbin_subB, pbin_addL, pbin_mulL, pcmp_ltI, pcmp_leI, pcmp_gtI', pcmp_geI, pcmp_eqI, pcmp_neI', pcmp_eqF, pcmp_eqFI, pcmp_isB, pcmp_isnotB, ptruth_bool]
  unfold ir_rgb_to_hsv_4
  refine s_ite ?_
  simp only [pe_cst, pe_neg, pe_var, pe_gval, pe_bin, pe_cmp, pe_ite, pe_and, pe_one, pe_bi, pe_fn, pe_meth, pe_item, pe_slA, pe_slL, pe_slU, pe_lst, pe_tup, pe_isint, pe_comp, pe_compif, pes_nil, pes_cons, pt_cmp, pt_and, pt_or, pt_one, pt_var, pt_isint, pt_fn, pt_meth, hid, vis, List.map_cons, List.map_nil, V.vis, V.hid, List.getElem?_cons_zero, List.getElem?_cons_succ, List.set_cons_zero, List.set_cons_succ, bis0, pbi_len, pbi_min, pbi_max2, pbi_min3, pbi_max3, pbin_addI, pbin_subI, pbin_modI, pbin_fdivI, pbin_mulI', pbin_addF, pbin_subF, pbin_mulF, pbin_divF, pbin_modF, pbin_subFI, pbin_mulFI, pbin_subB, pbin_addL, pbin_mulL, pcmp_ltI, pcmp_leI, pcmp_gtI', pcmp_geI, pcmp_eqI, pcmp_neI', pcmp_eqF, pcmp_eqFI, pcmp_isB, pcmp_isnotB, ptruth_bool]
  split at hx
  · rename_i hc
    rw [if_pos hc]
    cases hx
    unfold rgb_to_hsv_b1
    refine s_ret ?_
    simp only [pe_cst, pe_neg, pe_var, pe_gval, pe_bin, pe_cmp, pe_ite, pe_and, pe_one, pe_bi, pe_fn, pe_meth, pe_item, pe_slA, pe_slL, pe_slU, pe_lst, pe_tup, pe_isint, pe_comp, pe_compif, pes_nil, pes_cons, pt_cmp, pt_and, pt_or, pt_one, pt_var, pt_isint, pt_fn, pt_meth, hid, vis, List.map_cons, List.map_nil, V.vis, V.hid, List.getElem?_cons_zero, List.getElem?_cons_succ, List.set_cons_zero, List.set_cons_succ, bis0, pbi_len, pbi_min, pbi_max2, pbi_min3, pbi_max3, pbin_addI, pbin_subI, pbin_modI, pbin_fdivI, pbin_mulI', pbin_addF, pbin_subF, pbin_mulF, pbin_divF, pbin_modF, pbin_subFI, pbin_mulFI, pbin_subB, pbin_addL, pbin_mulL, pcmp_ltI, pcmp_leI, pcmp_gtI', pcmp_geI, pcmp_eqI, pcmp_neI', pcmp_eqF, pcmp_eqFI, pcmp_isB, pcmp_isnotB, ptruth_bool]
    exact h
  · rename_i hc
    rw [if_neg hc]
    refine s_nil ?_
    rw [nxt_go]
    split at hx
    · cases hx
    · rename_i hz
      simp only [not_or, Bool.not_eq_true] at hz
      unfold ir_rgb_to_hsv_5
      refine s_asn ?_
      simp only [pe_cst, pe_neg, pe_var, pe_gval, pe_bin, pe_cmp, pe_ite, pe_and, pe_one, pe_bi, pe_fn, pe_meth, pe_item, pe_slA, pe_slL, pe_slU, pe_lst, pe_tup, pe_isint, pe_comp, pe_compif, pes_nil, pes_cons, pt_cmp, pt_and, pt_or, pt_one, pt_var, pt_isint, pt_fn, pt_meth, hid, vis, List.map_cons, List.map_nil, V.vis, V.hid, List.getElem?_cons_zero, List.getElem?_cons_succ, List.set_cons_zero, List.set_cons_succ, bis0, pbi_len, pbi_min, pbi_max2, pbi_min3, pbi_max3, pbin_addI, pbin_subI, pbin_modI, pbin_fdivI, pbin_mulI', pbin_addF, pbin_subF, pbin_mulF, pbin_divF, pbin_modF, pbin_subFI, pbin_mulFI, pbin_subB, pbin_addL, pbin_mulL, pcmp_ltI, pcmp_leI, pcmp_gtI', pcmp_geI, pcmp_eqI, pcmp_neI', pcmp_eqF, pcmp_eqFI, pcmp_isB, pcmp_isnotB, ptruth_bool]
      refine ⟨hz.1, ?_⟩
      unfold ir_rgb_to_hsv_6
      refine s_asn ?_
      simp only [pe_cst, pe_neg, pe_var, pe_gval, pe_bin, pe_cmp, pe_ite, pe_and, pe_one, pe_bi, pe_fn, pe_meth, pe_item, pe_slA, pe_slL, pe_slU, pe_lst, pe_tup, pe_isint, pe_comp, pe_compif, pes_nil, pes_cons, pt_cmp, pt_and, pt_or, pt_one, pt_var, pt_isint, pt_fn, pt_meth, hid, vis, List.map_cons, List.map_nil, V.vis, V.hid, List.getElem?_cons_zero, List.getElem?_cons_succ, List.set_cons_zero, List.set_cons_succ, bis0, pbi_len, pbi_min, pbi_max2, pbi_min3, pbi_max3, pbin_addI, pbin_subI, pbin_modI, pbin_fdivI, pbin_mulI', pbin_addF, pbin_subF, pbin_mulF, pbin_divF, pbin_modF, pbin_subFI, pbin_mulFI, pbin_subB, pbin_addL, pbin_mulL, pcmp_ltI, pcmp_leI, pcmp_gtI', pcmp_geI, pcmp_eqI, pcmp_neI', pcmp_eqF, pcmp_eqFI, pcmp_isB, pcmp_isnotB, ptruth_bool]
      refine ⟨hz.2, ?_⟩
      unfold ir_rgb_to_hsv_7
      refine s_asn ?_
      simp only [pe_cst, pe_neg, pe_var, pe_gval, pe_bin, pe_cmp, pe_ite, pe_and, pe_one, pe_bi, pe_fn, pe_meth, pe_item, pe_slA, pe_slL, pe_slU, pe_lst, pe_tup, pe_isint, pe_comp, pe_compif, pes_nil, pes_cons, pt_cmp, pt_and, pt_or, pt_one, pt_var, pt_isint, pt_fn, pt_meth, hid, vis, List.map_cons, List.map_nil, V.vis, V.hid, List.getElem?_cons_zero, List.getElem?_cons_succ, List.set_cons_zero, List.set_cons_succ, bis0, pbi_len, pbi_min, pbi_max2, pbi_min3, pbi_max3, pbin_addI, pbin_subI, pbin_modI, pbin_fdivI, pbin_mulI', pbin_addF, pbin_subF, pbin_mulF, pbin_divF, pbin_modF, pbin_subFI, pbin_mulFI, pbin_subB, pbin_addL, pbin_mulL, pcmp_ltI, pcmp_leI, pcmp_gtI', pcmp_geI, pcmp_eqI, pcmp_neI', pcmp_eqF, pcmp_eqFI, pcmp_isB, pcmp_isnotB, ptruth_bool]
      refine ⟨hz.2, ?_⟩
      unfold ir_rgb_to_hsv_8
      refine s_asn ?_
      simp only [pe_cst, pe_neg, pe_var, pe_gval, pe_bin, pe_cmp, pe_ite, pe_and, pe_one, pe_bi, pe_fn, pe_meth, pe_item, pe_slA, pe_slL, pe_slU, pe_lst, pe_tup, pe_isint, pe_comp, pe_compif, pes_nil, pes_cons, pt_cmp, pt_and, pt_or, pt_one, pt_var, pt_isint, pt_fn, pt_meth, hid, vis, List.map_cons, List.map_nil, V.vis, V.hid, List.getElem?_cons_zero, List.getElem?_cons_succ, List.set_cons_zero, List.set_cons_succ, bis0, pbi_len, pbi_min, pbi_max2, pbi_min3, pbi_max3, pbin_addI, pbin_subI, pbin_modI, pbin_fdivI, pbin_mulI', pbin_addF, pbin_subF, pbin_mulF, pbin_divF, pbin_modF, pbin_subFI, pbin_mulFI, pbin_subB, pbin_addL, pbin_mulL, pcmp_ltI, pcmp_leI, pcmp_gtI', pcmp_geI, pcmp_eqI, pcmp_neI', pcmp_eqF, pcmp_eqFI, pcmp_isB, pcmp_isnotB, ptruth_bool]
      refine ⟨hz.2, ?_⟩
      generalize Float64.div rangec maxc = s at hx ⊢
      generalize Float64.div (Float64.sub maxc r) rangec = rc at hx ⊢
      generalize Float64.div (Float64.sub maxc g) rangec = gc at hx ⊢
      generalize Float64.div (Float64.sub maxc b) rangec = bc at hx ⊢
      have fin : ∀ hh : UInt64, x = ((Float64.divmod (Float64.div hh fl6) fl1).snd, s, maxc) →
          pxs ⟨⟨vals0, bis0, []⟩, []⟩ ir_rgb_to_hsv_10 [.val (.flt r), .val (.flt g), .val (.flt b), .val (.flt maxc), .val (.flt minc), .val (.flt rangec), .val (.flt maxc), .val (.flt s), .val (.flt rc), .val (.flt gc), .val (.flt bc), .val (.flt hh)] (retP Q) := by
        rintro hh rfl
        unfold ir_rgb_to_hsv_10
        refine s_asn ?_
        simp only [pe_cst, pe_neg, pe_var, pe_gval, pe_bin, pe_cmp, pe_ite, pe_and, pe_one, pe_bi, pe_fn, pe_meth, pe_item, pe_slA, pe_slL, pe_slU, pe_lst, pe_tup, pe_isint, pe_comp, pe_compif, pes_nil, pes_cons, pt_cmp, pt_and, pt_or, pt_one, pt_var, pt_isint, pt_fn, pt_meth, hid, vis, List.map_cons, List.map_nil, V.vis, V.hid, List.getElem?_cons_zero, List.getElem?_cons_succ, List.set_cons_zero, List.set_cons_succ, bis0, pbi_len, pbi_min, pbi_max2, pbi_min3, pbi_max3, pbin_addI, pbin_subI, pbin_modI, pbin_fdivI, pbin_mulI', pbin_addF, pbin_subF, pbin_mulF, pbin_divF, pbin_modF, pbin_subFI, pbin_mulFI, pbin_subB, pbin_addL, pbin_mulL, pcmp_ltI, pcmp_leI, pcmp_gtI', pcmp_geI, pcmp_eqI, pcmp_neI', pcmp_eqF, pcmp_eqFI, pcmp_isB, pcmp_isnotB, ptruth_bool]
        refine ⟨six_nz, one_nz, ?_⟩
        unfold ir_rgb_to_hsv_11
        refine s_ret ?_
        simp only [pe_cst, pe_neg, pe_var, pe_gval, pe_bin, pe_cmp, pe_ite, pe_and, pe_one, pe_bi, pe_fn, pe_meth, pe_item, pe_slA, pe_slL, pe_slU, pe_lst, pe_tup, pe_isint, pe_comp, pe_compif, pes_nil, pes_cons, pt_cmp, pt_and, pt_or, pt_one, pt_var, pt_isint, pt_fn, pt_meth, hid, vis, List.map_cons, List.map_nil, V.vis, V.hid, List.getElem?_cons_zero, List.getElem?_cons_succ, List.set_cons_zero, List.set_cons_succ, bis0, pbi_len, pbi_min, pbi_max2, pbi_min3, pbi_max3, pbin_addI, pbin_subI, pbin_modI, pbin_fdivI, pbin_mulI', pbin_addF, pbin_subF, pbin_mulF, pbin_divF, pbin_modF, pbin_subFI, pbin_mulFI, pbin_subB, pbin_addL, pbin_mulL, pcmp_ltI, pcmp_leI, pcmp_gtI', pcmp_geI, pcmp_eqI, pcmp_neI', pcmp_eqF, pcmp_eqFI, pcmp_isB, pcmp_isnotB, ptruth_bool]
        exact h
      unfold ir_rgb_to_hsv_9
      refine s_ite ?_
      simp only [pe_cst, pe_neg, pe_var, pe_gval, pe_bin, pe_cmp, pe_ite, pe_and, pe_one, pe_bi, pe_fn, pe_meth, pe_item, pe_slA, pe_slL, pe_slU, pe_lst, pe_tup, pe_isint, pe_comp, pe_compif, pes_nil, pes_cons, pt_cmp, pt_and, pt_or, pt_one, pt_var, pt_isint, pt_fn, pt_meth, hid, vis, List.map_cons, List.map_nil, V.vis, V.hid, List.getElem?_cons_zero, List.getElem?_cons_succ, List.set_cons_zero, List.set_cons_succ, bis0, pbi_len, pbi_min, pbi_max2, pbi_min3, pbi_max3, pbin_addI, pbin_subI, pbin_modI, pbin_fdivI, pbin_mulI', pbin_addF, pbin_subF, pbin_mulF, pbin_divF, pbin_modF, pbin_subFI, pbin_mulFI, pbin_subB, pbin_addL, pbin_mulL, pcmp_ltI, pcmp_leI, pcmp_gtI', pcmp_geI, pcmp_eqI, pcmp_neI', pcmp_eqF, pcmp_eqFI, pcmp_isB, pcmp_isnotB, ptruth_bool]
      split
      · rename_i h1
        rw [if_pos h1] at hx
        unfold rgb_to_hsv_b2
        refine s_asn ?_
        simp only [pe_cst, pe_neg, pe_var, pe_gval, pe_bin, pe_cmp, pe_ite, pe_and, pe_one, pe_bi, pe_fn, pe_meth, pe_item, pe_slA, pe_slL, pe_slU, pe_lst, pe_tup, pe_isint, pe_comp, pe_compif, pes_nil, pes_cons, pt_cmp, pt_and, pt_or, pt_one, pt_var, pt_isint, pt_fn, pt_meth, hid, vis, List.map_cons, List.map_nil, V.vis, V.hid, List.getElem?_cons_zero, List.getElem?_cons_succ, List.set_cons_zero, List.set_cons_succ, bis0, pbi_len, pbi_min, pbi_max2, pbi_min3, pbi_max3, pbin_addI, pbin_subI, pbin_modI, pbin_fdivI, pbin_mulI', pbin_addF, pbin_subF, pbin_mulF, pbin_divF, pbin_modF, pbin_subFI, pbin_mulFI, pbin_subB, pbin_addL, pbin_mulL, pcmp_ltI, pcmp_leI, pcmp_gtI', pcmp_geI, pcmp_eqI, pcmp_neI', pcmp_eqF, pcmp_eqFI, pcmp_isB, pcmp_isnotB, ptruth_bool]
        refine s_nil ?_
        rw [nxt_go]
        exact fin _ (Option.some.inj hx).symm
      · rename_i h1
        rw [if_neg h1] at hx
        unfold rgb_to_hsv_b5
        refine s_ite ?_
        simp only [pe_cst, pe_neg, pe_var, pe_gval, pe_bin, pe_cmp, pe_ite, pe_and, pe_one, pe_bi, pe_fn, pe_meth, pe_item, pe_slA, pe_slL, pe_slU, pe_lst, pe_tup, pe_isint, pe_comp, pe_compif, pes_nil, pes_cons, pt_cmp, pt_and, pt_or, pt_one, pt_var, pt_isint, pt_fn, pt_meth, hid, vis, List.map_cons, List.map_nil, V.vis, V.hid, List.getElem?_cons_zero, List.getElem?_cons_succ, List.set_cons_zero, List.set_cons_succ, bis0, pbi_len, pbi_min, pbi_max2, pbi_min3, pbi_max3, pbin_addI, pbin_subI, pbin_modI, pbin_fdivI, pbin_mulI', pbin_addF, pbin_subF, pbin_mulF, pbin_divF, pbin_modF, pbin_subFI, pbin_mulFI, pbin_subB, pbin_addL, pbin_mulL, pcmp_ltI, pcmp_leI, pcmp_gtI', pcmp_geI, pcmp_eqI, pcmp_neI', pcmp_eqF, pcmp_eqFI, pcmp_isB, pcmp_isnotB, ptruth_bool]
        split
        · rename_i h2
          rw [if_pos h2] at hx
          unfold rgb_to_hsv_b3
          refine s_asn ?_
          simp only [pe_cst, pe_neg, pe_var, pe_gval, pe_bin, pe_cmp, pe_ite, pe_and, pe_one, pe_bi, pe_fn, pe_meth, pe_item, pe_slA, pe_slL, pe_slU, pe_lst, pe_tup, pe_isint, pe_comp, pe_compif, pes_nil, pes_cons, pt_cmp, pt_and, pt_or, pt_one, pt_var, pt_isint, pt_fn, pt_meth, hid, vis, List.map_cons, List.map_nil, V.vis, V.hid, List.getElem?_cons_zero, List.getElem?_cons_succ, List.set_cons_zero, List.set_cons_succ, bis0, pbi_len, pbi_min, pbi_max2, pbi_min3, pbi_max3, pbin_addI, pbin_subI, pbin_modI, pbin_fdivI, pbin_mulI', pbin_addF, pbin_subF, pbin_mulF, pbin_divF, pbin_modF, pbin_subFI, pbin_mulFI, pbin_subB, pbin_addL, pbin_mulL, pcmp_ltI, pcmp_leI, pcmp_gtI', pcmp_geI, pcmp_eqI, pcmp_neI', pcmp_eqF, pcmp_eqFI, pcmp_isB, pcmp_isnotB, ptruth_bool]
          refine s_nil ?_
          rw [nxt_go]
          refine s_nil ?_
          rw [nxt_go]
          exact fin _ (Option.some.inj hx).symm
        · rename_i h2
          rw [if_neg h2] at hx
          unfold rgb_to_hsv_b4
          refine s_asn ?_
          simp only [pe_cst, pe_neg, pe_var, pe_gval, pe_bin, pe_cmp, pe_ite, pe_and, pe_one, pe_bi, pe_fn, pe_meth, pe_item, pe_slA, pe_slL, pe_slU, pe_lst, pe_tup, pe_isint, pe_comp, pe_compif, pes_nil, pes_cons, pt_cmp, pt_and, pt_or, pt_one, pt_var, pt_isint, pt_fn, pt_meth, hid, vis, List.map_cons, List.map_nil, V.vis, V.hid, List.getElem?_cons_zero, List.getElem?_cons_succ, List.set_cons_zero, List.set_cons_succ, bis0, pbi_len, pbi_min, pbi_max2, pbi_min3, pbi_max3, pbin_addI, pbin_subI, pbin_modI, pbin_fdivI, pbin_mulI', pbin_addF, pbin_subF, pbin_mulF, pbin_divF, pbin_modF, pbin_subFI, pbin_mulFI, pbin_subB, pbin_addL, pbin_mulL, pcmp_ltI, pcmp_leI, pcmp_gtI', pcmp_geI, pcmp_eqI, pcmp_neI', pcmp_eqF, pcmp_eqFI, pcmp_isB, pcmp_isnotB, ptruth_bool]
          refine s_nil ?_
          rw [nxt_go]
          refine s_nil ?_
          rw [nxt_go]
          exact fin _ (Option.some.inj hx).symm
end Mp
end

section
open PySem PySem.W PyProof.Rows PySem.Calls
set_option maxRecDepth 100000
set_option linter.unusedVariables false
set_option linter.unusedSimpArgs false
set_option linter.unusedSectionVars false
namespace Mp


noncomputable def hsvEnd (j : Int) (c p q t : UInt64) : Option (UInt64 × UInt64 × UInt64) :=
  if j = 0 then some (c, t, p) else if j = 1 then some (q, c, p) else if j = 2 then some (p, c, t) else if j = 3 then some (p, q, c) else if j = 4 then some (t, p, c) else if j = 5 then some (c, p, q) else none
noncomputable def hsvG (mul sub : UInt64 → UInt64 → UInt64) (one six : UInt64) (h s v : UInt64) : Option (UInt64 × UInt64 × UInt64) :=
  if (Float64.cmp s fl0 == some Ordering.eq) = true then some (v, v, v)
  else match Float64.decode (mul h six) with
    | .fin sg m e => if (Float64.truncOf sg m e).natAbs < 1073741824 then hsvEnd ((Float64.truncOf sg m e).fmod 6) v (mul v (sub one s)) (mul v (sub one (mul s (sub (mul h six) (Float64.ofInt (Float64.truncOf sg m e)))))) (mul v (sub one (mul s (sub one (sub (mul h six) (Float64.ofInt (Float64.truncOf sg m e)))))))
      else none
    | _ => none
noncomputable def hsvF (h s v : UInt64) : Option (UInt64 × UInt64 × UInt64) := hsvG Float64.mul Float64.sub fl1 fl6 h s v
noncomputable def cHsv : Ctr := fun ds Q => ∃ h s v x, ds = [.flt h, .flt s, .flt v] ∧ hsvF h s v = some x ∧ Q (.tup [.flt x.1, .flt x.2.1, .flt x.2.2])
noncomputable abbrev X0 : Xt := ⟨⟨vals0, bis0, []⟩, []⟩
noncomputable abbrev W8 (a b c : UInt64) (i : Int) (f p q t : UInt64) : Ws := [.val (.flt a), .val (.flt b), .val (.flt c), .val (.int i), .val (.flt f), .val (.flt p), .val (.flt q), .val (.flt t)]

section
variable {mul sub : UInt64 → UInt64 → UInt64} (HM : ∀ x y (Q : D → Prop), pbin .Mult (.flt x) (.flt y) Q = Q (.flt (mul x y))) (HS : ∀ x y (Q : D → Prop), pbin .Sub (.flt x) (.flt y) Q = Q (.flt (sub x y)))
  (HI : ∀ x (y : Int) (Q : D → Prop), pbin .Sub (.flt x) (.int y) Q = (small y ∧ Q (.flt (sub x (Float64.ofInt y))))) {one six zero a b c f p q t : UInt64} {i : Int} {R : Out → Prop} {r r1 r2 : List S} {X : Xt}
include HM HS HI
theorem hsv_2 (hs : small i) (h : pxs X r [.val (.flt a), .val (.flt b), .val (.flt c), .val (.int i), .val (.flt (sub (mul a six) (Float64.ofInt i))), .no, .no, .no] R) :
    pxs X (.asn 4 (.bin .Sub (.bin .Mult (.var 0) (.cst (.flt six))) (.var 3)) :: r) [.val (.flt a), .val (.flt b), .val (.flt c), .val (.int i), .no, .no, .no, .no] R := by
  refine s_asn ?_
  simp only [pe_cst, pe_neg, pe_var, pe_gval, pe_bin, pe_cmp, pe_ite, pe_and, pe_one, pe_bi, pe_fn, pe_meth, pe_item, pe_slA, pe_slL, pe_slU, pe_lst, pe_tup, pe_isint, pe_comp, pe_compif, pes_nil, pes_cons, pt_cmp, pt_and, pt_or, pt_one, pt_var, pt_isint, pt_fn, pt_meth, hid, vis, List.map_cons, List.map_nil, V.vis, V.hid, List.getElem?_cons_zero, List.getElem?_cons_succ, List.set_cons_zero, List.set_cons_succ, pcmp_ltI, pcmp_leI, pcmp_gtI', pcmp_geI, pcmp_eqI, pcmp_neI', pcmp_eqF, pcmp_eqFI, pcmp_isB, pcmp_isnotB, ptruth_bool, HM, HS, HI]
  exact ⟨hs, h⟩
theorem hsv_3 (h : pxs X r [.val (.flt a), .val (.flt b), .val (.flt c), .val (.int i), .val (.flt f), .val (.flt (mul c (sub one b))), .no, .no] R) :
    pxs X (.asn 5 (.bin .Mult (.var 2) (.bin .Sub (.cst (.flt one)) (.var 1))) :: r) [.val (.flt a), .val (.flt b), .val (.flt c), .val (.int i), .val (.flt f), .no, .no, .no] R := by
  refine s_asn ?_
  simp only [pe_cst, pe_neg, pe_var, pe_gval, pe_bin, pe_cmp, pe_ite, pe_and, pe_one, pe_bi, pe_fn, pe_meth, pe_item, pe_slA, pe_slL, pe_slU, pe_lst, pe_tup, pe_isint, pe_comp, pe_compif, pes_nil, pes_cons, pt_cmp, pt_and, pt_or, pt_one, pt_var, pt_isint, pt_fn, pt_meth, hid, vis, List.map_cons, List.map_nil, V.vis, V.hid, List.getElem?_cons_zero, List.getElem?_cons_succ, List.set_cons_zero, List.set_cons_succ, pcmp_ltI, pcmp_leI, pcmp_gtI', pcmp_geI, pcmp_eqI, pcmp_neI', pcmp_eqF, pcmp_eqFI, pcmp_isB, pcmp_isnotB, ptruth_bool, HM, HS, HI]
  exact h
theorem hsv_4 (h : pxs X r [.val (.flt a), .val (.flt b), .val (.flt c), .val (.int i), .val (.flt f), .val (.flt p), .val (.flt (mul c (sub one (mul b f)))), .no] R) :
    pxs X (.asn 6 (.bin .Mult (.var 2) (.bin .Sub (.cst (.flt one)) (.bin .Mult (.var 1) (.var 4)))) :: r) [.val (.flt a), .val (.flt b), .val (.flt c), .val (.int i), .val (.flt f), .val (.flt p), .no, .no] R := by
  refine s_asn ?_
  simp only [pe_cst, pe_neg, pe_var, pe_gval, pe_bin, pe_cmp, pe_ite, pe_and, pe_one, pe_bi, pe_fn, pe_meth, pe_item, pe_slA, pe_slL, pe_slU, pe_lst, pe_tup, pe_isint, pe_comp, pe_compif, pes_nil, pes_cons, pt_cmp, pt_and, pt_or, pt_one, pt_var, pt_isint, pt_fn, pt_meth, hid, vis, List.map_cons, List.map_nil, V.vis, V.hid, List.getElem?_cons_zero, List.getElem?_cons_succ, List.set_cons_zero, List.set_cons_succ, pcmp_ltI, pcmp_leI, pcmp_gtI', pcmp_geI, pcmp_eqI, pcmp_neI', pcmp_eqF, pcmp_eqFI, pcmp_isB, pcmp_isnotB, ptruth_bool, HM, HS, HI]
  exact h
theorem hsv_5 (h : pxs X r [.val (.flt a), .val (.flt b), .val (.flt c), .val (.int i), .val (.flt f), .val (.flt p), .val (.flt q), .val (.flt (mul c (sub one (mul b (sub one f)))))] R) :
    pxs X (.asn 7 (.bin .Mult (.var 2) (.bin .Sub (.cst (.flt one)) (.bin .Mult (.var 1) (.bin .Sub (.cst (.flt one)) (.var 4))))) :: r) [.val (.flt a), .val (.flt b), .val (.flt c), .val (.int i), .val (.flt f), .val (.flt p), .val (.flt q), .no] R := by
  refine s_asn ?_
  simp only [pe_cst, pe_neg, pe_var, pe_gval, pe_bin, pe_cmp, pe_ite, pe_and, pe_one, pe_bi, pe_fn, pe_meth, pe_item, pe_slA, pe_slL, pe_slU, pe_lst, pe_tup, pe_isint, pe_comp, pe_compif, pes_nil, pes_cons, pt_cmp, pt_and, pt_or, pt_one, pt_var, pt_isint, pt_fn, pt_meth, hid, vis, List.map_cons, List.map_nil, V.vis, V.hid, List.getElem?_cons_zero, List.getElem?_cons_succ, List.set_cons_zero, List.set_cons_succ, pcmp_ltI, pcmp_leI, pcmp_gtI', pcmp_geI, pcmp_eqI, pcmp_neI', pcmp_eqF, pcmp_eqFI, pcmp_isB, pcmp_isnotB, ptruth_bool, HM, HS, HI]
  exact h
end
section
variable {one six zero a b c f p q t : UInt64} {i : Int} {R : Out → Prop} {r r1 r2 : List S} {X : Xt}
theorem hsv_6 (h : pxs X r (W8 a b c (i.fmod 6) f p q t) R) :
    pxs X (.asn 3 (.bin .Mod (.var 3) (.cst (.int 6))) :: r) (W8 a b c i f p q t) R := by
  refine s_asn ?_
  simp only [pe_cst, pe_neg, pe_var, pe_gval, pe_bin, pe_cmp, pe_ite, pe_and, pe_one, pe_bi, pe_fn, pe_meth, pe_item, pe_slA, pe_slL, pe_slU, pe_lst, pe_tup, pe_isint, pe_comp, pe_compif, hid, List.map_cons, List.map_nil, V.hid, List.getElem?_cons_zero, List.getElem?_cons_succ, List.set_cons_zero, List.set_cons_succ]
  exact ⟨by decide, h⟩
theorem hsv_if {k : Int} (h1 : i = k → pxs X r1 (W8 a b c i f p q t) (nxt X r R)) (h2 : i ≠ k → pxs X r (W8 a b c i f p q t) R) :
    pxs X (.ite (.cmp .Eq (.var 3) (.cst (.int k))) r1 [] :: r) (W8 a b c i f p q t) R := by
  refine s_ite ?_
  simp only [pe_cst, pe_neg, pe_var, pe_gval, pe_bin, pe_cmp, pe_ite, pe_and, pe_one, pe_bi, pe_fn, pe_meth, pe_item, pe_slA, pe_slL, pe_slU, pe_lst, pe_tup, pe_isint, pe_comp, pe_compif, pt_cmp, pt_and, pt_or, pt_one, pt_var, pt_isint, pt_fn, pt_meth, vis, List.map_cons, List.map_nil, V.vis, List.getElem?_cons_zero, List.getElem?_cons_succ, pcmp_ltI, pcmp_leI, pcmp_gtI', pcmp_geI, pcmp_eqI, pcmp_neI', pcmp_eqF, pcmp_eqFI, pcmp_isB, pcmp_isnotB, ptruth_bool, decide_eq_true_eq]
  split
  · rename_i h0; exact h1 h0
  · rename_i h0; exact s_nil (h2 h0)
theorem hsv_ret {u v w : Nat} {x y z : UInt64} {Q : D → Prop} {Y : Xt} (h1 : (vis (W8 a b c i f p q t))[u]? = some (some (.flt x))) (h2 : (vis (W8 a b c i f p q t))[v]? = some (some (.flt y))) (h3 : (vis (W8 a b c i f p q t))[w]? = some (some (.flt z)))
    (h : Q (.tup [.flt x, .flt y, .flt z])) : pxs X (.ret (.tup [.var u, .var v, .var w]) :: []) (W8 a b c i f p q t) (nxt Y r (retP Q)) := by
  refine s_ret ?_
  simp only [pe_cst, pe_neg, pe_var, pe_gval, pe_bin, pe_cmp, pe_ite, pe_and, pe_one, pe_bi, pe_fn, pe_meth, pe_item, pe_slA, pe_slL, pe_slU, pe_lst, pe_tup, pe_isint, pe_comp, pe_compif, pes_nil, pes_cons, h1, h2, h3]
  exact h
end

theorem hsv_end {a b c f p q t : UInt64} {j : Int} {x : UInt64 × UInt64 × UInt64} {Q : D → Prop} (hx : hsvEnd j c p q t = some x) (h : Q (.tup [.flt x.1, .flt x.2.1, .flt x.2.2])) : pxs X0 ir_hsv_to_rgb_7 (W8 a b c j f p q t) (retP Q) := by
  unfold hsvEnd at hx
  refine hsv_if (fun e => ?_) fun e0 => hsv_if (fun e => ?_) fun e1 => hsv_if (fun e => ?_) fun e2 => hsv_if (fun e => ?_) fun e3 => hsv_if (fun e => ?_) fun e4 => hsv_if (fun e => ?_) fun e5 => ?_
  · rw [if_pos e] at hx; cases hx; exact hsv_ret rfl rfl rfl h
  · rw [if_neg e0, if_pos e] at hx; cases hx; exact hsv_ret rfl rfl rfl h
  · rw [if_neg e0, if_neg e1, if_pos e] at hx; cases hx; exact hsv_ret rfl rfl rfl h
  · rw [if_neg e0, if_neg e1, if_neg e2, if_pos e] at hx; cases hx; exact hsv_ret rfl rfl rfl h
  · rw [if_neg e0, if_neg e1, if_neg e2, if_neg e3, if_pos e] at hx; cases hx; exact hsv_ret rfl rfl rfl h
  · rw [if_neg e0, if_neg e1, if_neg e2, if_neg e3, if_neg e4, if_pos e] at hx; cases hx; exact hsv_ret rfl rfl rfl h
  · rw [if_neg e0, if_neg e1, if_neg e2, if_neg e3, if_neg e4, if_neg e5] at hx; cases hx

section
variable {mul sub : UInt64 → UInt64 → UInt64} {one six zero a b c : UInt64} {R : Out → Prop} {r r1 : List S}
theorem hsv_0 (h1 : (Float64.cmp b zero == some Ordering.eq) = true → pxs X0 r1 [.val (.flt a), .val (.flt b), .val (.flt c), .no, .no, .no, .no, .no] (nxt X0 r R))
    (h2 : ¬ (Float64.cmp b zero == some Ordering.eq) = true → pxs X0 r [.val (.flt a), .val (.flt b), .val (.flt c), .no, .no, .no, .no, .no] R) :
    pxs X0 (.ite (.cmp .Eq (.var 1) (.cst (.flt zero))) r1 [] :: r) [.val (.flt a), .val (.flt b), .val (.flt c), .no, .no, .no, .no, .no] R := by
  refine s_ite ?_
  simp only [pe_cst, pe_neg, pe_var, pe_gval, pe_bin, pe_cmp, pe_ite, pe_and, pe_one, pe_bi, pe_fn, pe_meth, pe_item, pe_slA, pe_slL, pe_slU, pe_lst, pe_tup, pe_isint, pe_comp, pe_compif, pt_cmp, pt_and, pt_or, pt_one, pt_var, pt_isint, pt_fn, pt_meth, vis, List.map_cons, List.map_nil, V.vis, List.getElem?_cons_zero, List.getElem?_cons_succ, pcmp_ltI, pcmp_leI, pcmp_gtI', pcmp_geI, pcmp_eqI, pcmp_neI', pcmp_eqF, pcmp_eqFI, pcmp_isB, pcmp_isnotB, ptruth_bool]
  split
  · rename_i h0; exact h1 h0
  · rename_i h0; exact s_nil (h2 h0)
theorem pbi_int {x : UInt64} {sg : Bool} {m : Nat} {e : Int} {Q : D → Prop} (h : Float64.decode x = .fin sg m e) (hq : Q (.int (Float64.truncOf sg m e))) : pbi .int [.flt x] Q := by
  show (match Float64.decode x with | .fin sg m e => Q (.int (Float64.truncOf sg m e)) | _ => False)
  rw [h]; exact hq
theorem hsv_1 (HM : ∀ x y (Q : D → Prop), pbin .Mult (.flt x) (.flt y) Q = Q (.flt (mul x y))) {sg : Bool} {m : Nat} {e : Int} (hd : Float64.decode (mul a six) = .fin sg m e)
    (h : pxs X0 r [.val (.flt a), .val (.flt b), .val (.flt c), .val (.int (Float64.truncOf sg m e)), .no, .no, .no, .no] R) :
    pxs X0 (.asn 3 (.bi 3 [.bin .Mult (.var 0) (.cst (.flt six))]) :: r) [.val (.flt a), .val (.flt b), .val (.flt c), .no, .no, .no, .no, .no] R := by
  refine s_asn ?_
  simp only [pe_cst, pe_neg, pe_var, pe_gval, pe_bin, pe_cmp, pe_ite, pe_and, pe_one, pe_bi, pe_fn, pe_meth, pe_item, pe_slA, pe_slL, pe_slU, pe_lst, pe_tup, pe_isint, pe_comp, pe_compif, pes_nil, pes_cons, hid, List.map_cons, List.map_nil, V.hid, List.getElem?_cons_zero, HM]
  exact pbi_int hd h
theorem hsv_all (HM : ∀ x y (Q : D → Prop), pbin .Mult (.flt x) (.flt y) Q = Q (.flt (mul x y))) (HS : ∀ x y (Q : D → Prop), pbin .Sub (.flt x) (.flt y) Q = Q (.flt (sub x y)))
  (HI : ∀ x (y : Int) (Q : D → Prop), pbin .Sub (.flt x) (.int y) Q = (small y ∧ Q (.flt (sub x (Float64.ofInt y))))) {x : UInt64 × UInt64 × UInt64} {Q : D → Prop} (hx : hsvG mul sub one six a b c = some x) (h : Q (.tup [.flt x.1, .flt x.2.1, .flt x.2.2])) :
    pxs X0 (.ite (.cmp .Eq (.var 1) (.cst (.flt fl0))) (.ret (.tup [.var 2, .var 2, .var 2]) :: []) [] :: .asn 3 (.bi 3 [.bin .Mult (.var 0) (.cst (.flt six))]) :: .asn 4 (.bin .Sub (.bin .Mult (.var 0) (.cst (.flt six))) (.var 3)) ::
      .asn 5 (.bin .Mult (.var 2) (.bin .Sub (.cst (.flt one)) (.var 1))) :: .asn 6 (.bin .Mult (.var 2) (.bin .Sub (.cst (.flt one)) (.bin .Mult (.var 1) (.var 4)))) :: .asn 7 (.bin .Mult (.var 2) (.bin .Sub (.cst (.flt one)) (.bin .Mult (.var 1) (.bin .Sub (.cst (.flt one)) (.var 4))))) ::
      .asn 3 (.bin .Mod (.var 3) (.cst (.int 6))) :: ir_hsv_to_rgb_7) [.val (.flt a), .val (.flt b), .val (.flt c), .no, .no, .no, .no, .no] (retP Q) := by
  unfold hsvG at hx
  refine hsv_0 (fun h0 => ?_) fun h0 => ?_
  · rw [if_pos h0] at hx
    cases hx
    refine s_ret ?_
    simp only [pe_cst, pe_neg, pe_var, pe_gval, pe_bin, pe_cmp, pe_ite, pe_and, pe_one, pe_bi, pe_fn, pe_meth, pe_item, pe_slA, pe_slL, pe_slU, pe_lst, pe_tup, pe_isint, pe_comp, pe_compif, pes_nil, pes_cons, vis, List.map_cons, List.map_nil, V.vis, List.getElem?_cons_zero, List.getElem?_cons_succ]
    exact h
  · rw [if_neg h0] at hx
    split at hx
    · rename_i sg m e hd
      refine hsv_1 HM hd ?_
      split at hx
      · rename_i hs
        exact hsv_2 HM HS HI hs (hsv_3 HM HS HI (hsv_4 HM HS HI (hsv_5 HM HS HI (hsv_6 (hsv_end hx h)))))
      · cases hx
    · cases hx
end

theorem ok_hsv (ds : List D) (Q : D → Prop) (h : cHsv ds Q) : ds.length = 3 ∧ pxs X0 ir_hsv_to_rgb (initW (cxOf (fnS "hsv_to_rgb")) ds) (retP Q) := by
  obtain ⟨a, b, c, x, rfl, hx, h⟩ := h
  refine ⟨rfl, ?_⟩
  simp only [initW, vars_hsv, List.length_cons, List.length_nil, Nat.reduceAdd, Nat.reduceSub, List.replicate, List.map_cons, List.map_nil, List.cons_append, List.nil_append]
  exact hsv_all (fun _ _ _ => rfl) (fun _ _ _ => rfl) (fun _ _ _ => rfl) hx h
end Mp
end

section
open PySem PySem.W PyProof.Rows PySem.Calls
set_option maxRecDepth 100000
set_option linter.unusedVariables false
set_option linter.unusedSimpArgs false
set_option linter.unusedSectionVars false
namespace Mp

/-! ## _law_lamp -/
noncomputable def isInf' (p q : Int) : Bool := Float64.isInf (Float64.ofFrac (decide (p < 0) != decide (q < 0)) p.natAbs q.natAbs)
noncomputable def divF (p q : Int) : UInt64 := Float64.ofFrac (decide (p < 0) != decide (q < 0)) p.natAbs q.natAbs
noncomputable def mulI (x : UInt64) (y : Int) : UInt64 := Float64.mul x (Float64.ofInt y)
noncomputable def neI (x : UInt64) (y : Int) : Bool := Float64.cmpInt x y != some Ordering.eq
noncomputable def gtI (x : UInt64) (y : Int) : Bool := Float64.cmpInt x y == some Ordering.gt
theorem pbin_div {p q : Int} {Q : D → Prop} (h0 : q ≠ 0) (h1 : isInf' p q = false) (h : Q (.flt (divF p q))) : pbin .Div (.int p) (.int q) Q := ⟨⟨h0, h1⟩, h⟩
theorem pbin_mulI {x : UInt64} {q : Int} {Q : D → Prop} (h0 : small q) (h : Q (.flt (mulI x q))) : pbin .Mult (.flt x) (.int q) Q := ⟨h0, h⟩
theorem pbin_add {x y : Int} {Q : D → Prop} (h : Q (.int (x + y))) : pbin .Add (.int x) (.int y) Q := h
theorem pcmp_neI {x : UInt64} {q : Int} {Q : D → Prop} : pcmp .NotEq (.flt x) (.int q) Q = Q (.bool (neI x q)) := rfl
theorem pcmp_gtI {x : UInt64} {q : Int} {Q : D → Prop} : pcmp .Gt (.flt x) (.int q) Q = Q (.bool (gtI x q)) := rfl

noncomputable def lampG (place lamps share m : Int) : Option Int :=
  if isInf' place lamps = true ∨ isInf' share 4 = true ∨ isInf' (1 + place.fmod 2) 2 = true then none else
  match hsvF (divF place lamps) (divF share 4) (divF (1 + place.fmod 2) 2) with
  | none => none
  | some c => match rgbF c.1 c.2.1 c.2.2 with
    | none => none
    | some d =>
      if neI (mulI d.1 lamps) m = true then some (-2)
      else if neI (mulI d.2.1 4) share = true then some (-2)
      else if neI (mulI d.2.2 2) (1 + place.fmod 2) = true then some (-2)
      else if gtI d.2.1 0 = true then (match Float64.decode (mulI d.1 lamps) with | .fin sg m e => some (Float64.truncOf sg m e) | _ => none)
      else some (-1)
noncomputable def shareF (place : Int) (lit : Bool) : Int := if lit = true then 1 + place.fmod 4 else 0
noncomputable def lampF (place lamps : Int) (lit : Bool) : Option Int := lampG place lamps (shareF place lit) (if lit = true then place.fmod lamps else 0)

noncomputable def XL : Xt := ⟨⟨vals0, bis0, [("hsv_to_rgb", cHsv), ("rgb_to_hsv", cRgb)]⟩, []⟩

section
variable {p L share : Int} {lit : Bool} {R : Out → Prop}
theorem lamp_0 (hR : pxs XL ir_law_lamp_1 [.val (.int p), .val (.int L), .val (.bool lit), .val (.int (shareF p lit)), .no, .no, .no, .no, .no, .no] R) :
    pxs XL ir_law_lamp [.val (.int p), .val (.int L), .val (.bool lit), .no, .no, .no, .no, .no, .no, .no] R := by
  unfold ir_law_lamp
  refine s_asn ?_
  simp only [pe_cst, pe_neg, pe_var, pe_gval, pe_bin, pe_cmp, pe_ite, pe_and, pe_one, pe_bi, pe_fn, pe_meth, pe_item, pe_slA, pe_slL, pe_slU, pe_lst, pe_tup, pe_isint, pe_comp, pe_compif, pt_cmp, pt_and, pt_or, pt_one, pt_var, pt_isint, pt_fn, pt_meth, hid, List.map_cons, List.map_nil, V.hid, List.getElem?_cons_zero, List.getElem?_cons_succ, ptruth_bool]
  cases lit
  · rw [if_neg (by simp)]
    exact hR
  · rw [if_pos rfl]
    exact ⟨by decide, hR⟩
theorem lamp_1 {x : UInt64 × UInt64 × UInt64} (hL : L ≠ 0) (h1 : isInf' p L = false) (h2 : isInf' share 4 = false) (h3 : isInf' (1 + p.fmod 2) 2 = false) (hx : hsvF (divF p L) (divF share 4) (divF (1 + p.fmod 2) 2) = some x)
    (hR : pxs XL ir_law_lamp_2 [.val (.int p), .val (.int L), .val (.bool lit), .val (.int share), .val (.flt x.1), .val (.flt x.2.1), .val (.flt x.2.2), .no, .no, .no] R) :
    pxs XL ir_law_lamp_1 [.val (.int p), .val (.int L), .val (.bool lit), .val (.int share), .no, .no, .no, .no, .no, .no] R := by
  unfold ir_law_lamp_1
  refine s_unp ?_
  simp only [pe_cst, pe_neg, pe_var, pe_gval, pe_bin, pe_cmp, pe_ite, pe_and, pe_one, pe_bi, pe_fn, pe_meth, pe_item, pe_slA, pe_slL, pe_slU, pe_lst, pe_tup, pe_isint, pe_comp, pe_compif, pes_nil, pes_cons, hid, List.map_cons, List.map_nil, V.hid, List.getElem?_cons_zero, List.getElem?_cons_succ]
  refine pbin_div hL h1 (pbin_div (by decide) h2 ?_)
  refine ⟨by decide, ?_⟩
  refine pbin_add (x := 1) (y := p.fmod 2) ?_
  exact pbin_div (by decide) h3 ⟨_, _, _, x, rfl, hx, rfl, hR⟩
theorem lamp_2 {r g b : UInt64} {x : UInt64 × UInt64 × UInt64} (hx : rgbF r g b = some x)
    (hR : pxs XL ir_law_lamp_3 [.val (.int p), .val (.int L), .val (.bool lit), .val (.int share), .val (.flt r), .val (.flt g), .val (.flt b), .val (.flt x.1), .val (.flt x.2.1), .val (.flt x.2.2)] R) :
    pxs XL ir_law_lamp_2 [.val (.int p), .val (.int L), .val (.bool lit), .val (.int share), .val (.flt r), .val (.flt g), .val (.flt b), .no, .no, .no] R := by
  unfold ir_law_lamp_2
  refine s_unp ?_
  simp only [pe_cst, pe_neg, pe_var, pe_gval, pe_bin, pe_cmp, pe_ite, pe_and, pe_one, pe_bi, pe_fn, pe_meth, pe_item, pe_slA, pe_slL, pe_slU, pe_lst, pe_tup, pe_isint, pe_comp, pe_compif, pes_nil, pes_cons, hid, List.map_cons, List.map_nil, V.hid, List.getElem?_cons_zero, List.getElem?_cons_succ]
  exact ⟨_, _, _, x, rfl, hx, rfl, hR⟩
theorem lamp_3 {r g b h s v : UInt64} (hL : L ≠ 0) (hs : small L)
    (h1 : neI (mulI h L) (if lit = true then p.fmod L else 0) = true ∨ neI (mulI s 4) share = true ∨ neI (mulI v 2) (1 + p.fmod 2) = true → R (.ret (.int (-2))))
    (h2 : ¬ (neI (mulI h L) (if lit = true then p.fmod L else 0) = true ∨ neI (mulI s 4) share = true ∨ neI (mulI v 2) (1 + p.fmod 2) = true) → pxs XL ir_law_lamp_4 [.val (.int p), .val (.int L), .val (.bool lit), .val (.int share), .val (.flt r), .val (.flt g), .val (.flt b), .val (.flt h), .val (.flt s), .val (.flt v)] R) :
    pxs XL ir_law_lamp_3 [.val (.int p), .val (.int L), .val (.bool lit), .val (.int share), .val (.flt r), .val (.flt g), .val (.flt b), .val (.flt h), .val (.flt s), .val (.flt v)] R := by
  have yes : neI (mulI h L) (if lit = true then p.fmod L else 0) = true ∨ neI (mulI s 4) share = true ∨ neI (mulI v 2) (1 + p.fmod 2) = true → pxs XL law_lamp_b1 [.val (.int p), .val (.int L), .val (.bool lit), .val (.int share), .val (.flt r), .val (.flt g), .val (.flt b), .val (.flt h), .val (.flt s), .val (.flt v)] (nxt XL ir_law_lamp_4 R) := fun hh => s_ret (h1 hh)
  have no : ¬ (neI (mulI h L) (if lit = true then p.fmod L else 0) = true ∨ neI (mulI s 4) share = true ∨ neI (mulI v 2) (1 + p.fmod 2) = true) → pxs XL [] [.val (.int p), .val (.int L), .val (.bool lit), .val (.int share), .val (.flt r), .val (.flt g), .val (.flt b), .val (.flt h), .val (.flt s), .val (.flt v)] (nxt XL ir_law_lamp_4 R) := fun hh => s_nil (h2 hh)
  unfold ir_law_lamp_3
  refine s_ite ?_
  generalize pxs XL law_lamp_b1 _ (nxt XL ir_law_lamp_4 R) = A at yes ⊢
  generalize pxs XL [] _ (nxt XL ir_law_lamp_4 R) = B at no ⊢
  simp only [pe_cst, pe_neg, pe_var, pe_gval, pe_bin, pe_cmp, pe_ite, pe_and, pe_one, pe_bi, pe_fn, pe_meth, pe_item, pe_slA, pe_slL, pe_slU, pe_lst, pe_tup, pe_isint, pe_comp, pe_compif, pt_cmp, pt_and, pt_or, pt_one, pt_var, pt_isint, pt_fn, pt_meth, vis, List.map_cons, List.map_nil, V.vis, List.getElem?_cons_zero, List.getElem?_cons_succ, ptruth_bool]
  refine pbin_mulI hs ?_
  have fin : ∀ mm : Int, mm = (if lit = true then p.fmod L else 0) → pcmp .NotEq (.flt (mulI h L)) (.int mm) fun d => ptruth d fun t => if t = true then (if true = true then A else B) else
      pbin .Mult (.flt s) (.int 4) fun x => pcmp .NotEq x (.int share) fun d => ptruth d fun t => if t = true then (if true = true then A else B) else
        pbin .Mult (.flt v) (.int 2) fun x => pbin .Mod (.int p) (.int 2) fun y => pbin .Add (.int 1) y fun y => pcmp .NotEq x y fun d => ptruth d fun t => if t = true then A else B := by
    intro mm hm
    rw [pcmp_neI]
    show if neI (mulI h L) mm = true then _ else _
    by_cases c1 : neI (mulI h L) mm = true
    · rw [if_pos c1]; exact yes (.inl (hm ▸ c1))
    · rw [if_neg c1]
      have c1' : ¬ neI (mulI h L) (if lit = true then p.fmod L else 0) = true := fun e => c1 (hm ▸ e)
      refine pbin_mulI (q := 4) (by unfold small; decide) ?_
      rw [pcmp_neI]
      show if neI (mulI s 4) share = true then _ else _
      by_cases c2 : neI (mulI s 4) share = true
      · rw [if_pos c2]; exact yes (.inr (.inl c2))
      · rw [if_neg c2]
        refine pbin_mulI (q := 2) (by unfold small; decide) ⟨by decide, ?_⟩
        show if neI (mulI v 2) (1 + p.fmod 2) = true then _ else _
        by_cases c3 : neI (mulI v 2) (1 + p.fmod 2) = true
        · rw [if_pos c3]; exact yes (.inr (.inr c3))
        · rw [if_neg c3]; exact no (fun hh => hh.elim c1' fun hh => hh.elim c2 c3)
  cases lit
  · rw [if_neg (by simp)]
    exact fin 0 rfl
  · rw [if_pos rfl]
    exact ⟨hL, fin _ rfl⟩
theorem lamp_4 {r g b h s v : UInt64} {x : Int} (hs : small L) (hx : (if gtI s 0 = true then (match Float64.decode (mulI h L) with | .fin sg m e => some (Float64.truncOf sg m e) | _ => none) else some (-1)) = some x) (hR : R (.ret (.int x))) :
    pxs XL ir_law_lamp_4 [.val (.int p), .val (.int L), .val (.bool lit), .val (.int share), .val (.flt r), .val (.flt g), .val (.flt b), .val (.flt h), .val (.flt s), .val (.flt v)] R := by
  unfold ir_law_lamp_4
  refine s_ret ?_
  simp only [pe_cst, pe_neg, pe_var, pe_gval, pe_bin, pe_cmp, pe_ite, pe_and, pe_one, pe_bi, pe_fn, pe_meth, pe_item, pe_slA, pe_slL, pe_slU, pe_lst, pe_tup, pe_isint, pe_comp, pe_compif, pes_nil, pes_cons, pt_cmp, pt_and, pt_or, pt_one, pt_var, pt_isint, pt_fn, pt_meth, vis, List.map_cons, List.map_nil, V.vis, List.getElem?_cons_zero, List.getElem?_cons_succ, ptruth_bool, pcmp_gtI]
  by_cases c : gtI s 0 = true
  · rw [if_pos c] at hx ⊢
    refine pbin_mulI hs ?_
    split at hx
    · rename_i sg m e hd
      cases hx
      exact pbi_int hd hR
    · cases hx
  · rw [if_neg c] at hx ⊢
    cases hx
    exact hR
end

noncomputable def cLampF : Ctr := fun ds Q => ∃ p L lit x, ds = [.int p, .int L, .bool lit] ∧ L ≠ 0 ∧ small L ∧ lampF p L lit = some x ∧ Q (.int x)
theorem ok_lamp (ds : List D) (Q : D → Prop) (h : cLampF ds Q) : ds.length = 3 ∧ pxs XL ir_law_lamp (initW (cxOf (fnS "_law_lamp")) ds) (retP Q) := by
  obtain ⟨p, L, lit, x, rfl, hL, hs, hx, h⟩ := h
  refine ⟨rfl, ?_⟩
  simp only [initW, vars_lamp, List.length_cons, List.length_nil, Nat.reduceAdd, Nat.reduceSub, List.replicate, List.map_cons, List.map_nil, List.cons_append, List.nil_append]
  unfold lampF lampG at hx
  split at hx
  · cases hx
  · rename_i hi
    simp only [not_or, Bool.not_eq_true] at hi
    split at hx
    · cases hx
    · rename_i c hc
      split at hx
      · cases hx
      · rename_i d hd
        refine lamp_0 (lamp_1 hL hi.1 hi.2.1 hi.2.2 hc (lamp_2 hd (lamp_3 hL hs (fun hh => ?_) fun hh => ?_)))
        · have : x = -2 := by
            by_cases c1 : neI (mulI d.1 L) (if lit = true then p.fmod L else 0) = true
            · rw [if_pos c1] at hx; cases hx; rfl
            · rw [if_neg c1] at hx
              by_cases c2 : neI (mulI d.2.1 4) (shareF p lit) = true
              · rw [if_pos c2] at hx; cases hx; rfl
              · rw [if_neg c2] at hx
                have c3 : neI (mulI d.2.2 2) (1 + p.fmod 2) = true := (hh.resolve_left c1).resolve_left c2
                rw [if_pos c3] at hx; cases hx; rfl
          subst this
          exact h
        · simp only [not_or] at hh
          rw [if_neg hh.1, if_neg hh.2.1, if_neg hh.2.2] at hx
          exact lamp_4 hs hx h
end Mp
end

section
open PySem PySem.W PyProof.Rows PySem.Calls
set_option maxRecDepth 100000
set_option linter.unusedVariables false
set_option linter.unusedSimpArgs false
set_option linter.unusedSectionVars false
namespace Mp
/-! ## the lamps, lit: place by place -/
noncomputable def litOk (L p : Nat) : Bool := lampF p L true == some ((p : Int).fmod L)
theorem lit8_0 : ((List.range 24).all fun p => litOk 8 p) = true := by decide +kernel
theorem lit8_1 : ((List.range 24).all fun p => litOk 8 (p + 24)) = true := by decide +kernel
theorem lit8_2 : ((List.range 24).all fun p => litOk 8 (p + 48)) = true := by decide +kernel
theorem lit16_0 : ((List.range 32).all fun p => litOk 16 p) = true := by decide +kernel
theorem lit16_1 : ((List.range 32).all fun p => litOk 16 (p + 32)) = true := by decide +kernel
theorem lit16_2 : ((List.range 32).all fun p => litOk 16 (p + 64)) = true := by decide +kernel
theorem lit16_3 : ((List.range 32).all fun p => litOk 16 (p + 96)) = true := by decide +kernel
theorem lit16_4 : ((List.range 32).all fun p => litOk 16 (p + 128)) = true := by decide +kernel
theorem lit16_5 : ((List.range 32).all fun p => litOk 16 (p + 160)) = true := by decide +kernel
theorem lit16_6 : ((List.range 32).all fun p => litOk 16 (p + 192)) = true := by decide +kernel
theorem lit16_7 : ((List.range 32).all fun p => litOk 16 (p + 224)) = true := by decide +kernel
theorem lit_at {L n k p : Nat} (h : ((List.range n).all fun p => litOk L (p + k)) = true) (h1 : k ≤ p) (h2 : p < k + n) : litOk L p = true := by
  have := List.all_eq_true.mp h (p - k) (List.mem_range.mpr (by omega))
  rwa [Nat.sub_add_cancel h1] at this
theorem lit_all {L p : Nat} (h : (L = 8 ∧ p < 72) ∨ (L = 16 ∧ p < 256)) : litOk L p = true := by
  rcases h with ⟨rfl, hp⟩ | ⟨rfl, hp⟩
  · by_cases h1 : p < 24
    · exact lit_at (k := 0) lit8_0 (Nat.zero_le _) (by omega)
    · by_cases h2 : p < 48
      · exact lit_at lit8_1 (by omega) (by omega)
      · exact lit_at lit8_2 (by omega) (by omega)
  · by_cases h1 : p < 32
    · exact lit_at (k := 0) lit16_0 (Nat.zero_le _) (by omega)
    · by_cases h2 : p < 64
      · exact lit_at lit16_1 (by omega) (by omega)
      · by_cases h3 : p < 96
        · exact lit_at lit16_2 (by omega) (by omega)
        · by_cases h4 : p < 128
          · exact lit_at lit16_3 (by omega) (by omega)
          · by_cases h5 : p < 160
            · exact lit_at lit16_4 (by omega) (by omega)
            · by_cases h6 : p < 192
              · exact lit_at lit16_5 (by omega) (by omega)
              · by_cases h7 : p < 224
                · exact lit_at lit16_6 (by omega) (by omega)
                · exact lit_at lit16_7 (by omega) (by omega)

/-! ## the lamps, grey: the place does not count -/
noncomputable def greyV (r : Int) : UInt64 := divF (1 + r) 2
theorem grey_s : (Float64.cmp (divF 0 4) fl0 == some Ordering.eq) = true := by decide +kernel
theorem grey_i0 : isInf' 0 4 = false := by decide +kernel
theorem grey_i1 : isInf' (1 + 0) 2 = false := by decide +kernel
theorem grey_i2 : isInf' (1 + 1) 2 = false := by decide +kernel
theorem grey_r0 : rgbF (greyV 0) (greyV 0) (greyV 0) = some (fl0, fl0, greyV 0) := by decide +kernel
theorem grey_r1 : rgbF (greyV 1) (greyV 1) (greyV 1) = some (fl0, fl0, greyV 1) := by decide +kernel
theorem grey_n8 : neI (mulI fl0 8) 0 = false := by decide +kernel
theorem grey_n16 : neI (mulI fl0 16) 0 = false := by decide +kernel
theorem grey_n4 : neI (mulI fl0 4) 0 = false := by decide +kernel
theorem grey_v0 : neI (mulI (greyV 0) 2) (1 + 0) = false := by decide +kernel
theorem grey_v1 : neI (mulI (greyV 1) 2) (1 + 1) = false := by decide +kernel
theorem grey_g : gtI fl0 0 = false := by decide +kernel
theorem hsv_grey {h s v : UInt64} (hs : (Float64.cmp s fl0 == some Ordering.eq) = true) : hsvF h s v = some (v, v, v) := by
  unfold hsvF hsvG
  rw [if_pos hs]
theorem grey_one {p L r : Int} (hr : p.fmod 2 = r) (hi : isInf' p L = false) (hv : isInf' (1 + r) 2 = false) (hg : rgbF (greyV r) (greyV r) (greyV r) = some (fl0, fl0, greyV r)) (hL : neI (mulI fl0 L) 0 = false) (hw : neI (mulI (greyV r) 2) (1 + r) = false) : lampF p L false = some (-1) := by
  unfold lampF lampG shareF
  rw [hr, if_neg (by decide : ¬ false = true), if_neg (by decide : ¬ false = true), if_neg (by rw [hi, grey_i0, hv]; decide), hsv_grey grey_s]
  show (match rgbF (greyV r) (greyV r) (greyV r) with | none => none | some d => _) = _
  rw [hg]
  show (if neI (mulI fl0 L) 0 = true then some (-2) else if neI (mulI fl0 4) 0 = true then some (-2) else if neI (mulI (greyV r) 2) (1 + r) = true then some (-2) else if gtI fl0 0 = true then _ else some (-1)) = some (-1)
  rw [hL, grey_n4, hw, grey_g]
  rfl
theorem grey_all {p L : Nat} (hL : L = 8 ∨ L = 16) (hlit : litOk L p = true) : lampF p L false = some (-1) := by
  have hi : isInf' (p : Int) (L : Int) = false := by
    cases h : isInf' (p : Int) (L : Int) with
    | false => rfl
    | true =>
      unfold litOk lampF lampG at hlit
      rw [if_pos (.inl h)] at hlit
      cases hlit
  have hn : neI (mulI fl0 (L : Int)) 0 = false := by
    rcases hL with rfl | rfl
    · exact grey_n8
    · exact grey_n16
  have h2 : (p : Int).fmod 2 = ((p % 2 : Nat) : Int) := by rw [Int.fmod_eq_emod_of_nonneg _ (by decide)]; rfl
  rcases (by omega : p % 2 = 0 ∨ p % 2 = 1) with e | e
  · exact grey_one (r := 0) (by rw [h2, e]; rfl) hi grey_i1 grey_r0 hn grey_v0
  · exact grey_one (r := 1) (by rw [h2, e]; rfl) hi grey_i2 grey_r1 hn grey_v1

/-- what a lamp tells: the place, without whole turns; -1 if grey -/
noncomputable def cLamp : Ctr := fun ds Q => ∃ (p L : Nat) (lit : Bool), ds = [.int p, .int L, .bool lit] ∧ ((L = 8 ∧ p < 72) ∨ (L = 16 ∧ p < 256)) ∧ Q (.int (if lit = true then ((p % L : Nat) : Int) else -1))
theorem ok_lamp' (ds : List D) (Q : D → Prop) (h : cLamp ds Q) : ds.length = 3 ∧ pxs XL ir_law_lamp (initW (cxOf (fnS "_law_lamp")) ds) (retP Q) := by
  obtain ⟨p, L, lit, rfl, hL, h⟩ := h
  have hL' : L = 8 ∨ L = 16 := hL.elim (fun h => .inl h.1) fun h => .inr h.1
  have key : lampF p L lit = some (if lit = true then ((p % L : Nat) : Int) else -1) := by
    have hlit := lit_all hL
    cases lit
    · exact grey_all hL' hlit
    · rw [if_pos rfl]
      unfold litOk at hlit
      rw [beq_iff_eq] at hlit
      rw [hlit, Int.fmod_eq_emod_of_nonneg _ (Int.natCast_nonneg _)]
      rfl
  refine ok_lamp _ Q ⟨p, L, lit, _, rfl, ?_, ?_, key, h⟩
  · rcases hL with ⟨rfl, _⟩ | ⟨rfl, _⟩ <;> decide
  · unfold small; rcases hL with ⟨rfl, _⟩ | ⟨rfl, _⟩ <;> decide
end Mp
end

section
open PySem PySem.W PyProof.Rows PySem.Calls
set_option maxRecDepth 100000
set_option linter.unusedVariables false
set_option linter.unusedSimpArgs false
set_option linter.unusedSectionVars false
namespace Mp

/-! ## statements of a generator -/
section
variable {M : Model} {A : Around} {R : GenEnd} {Y : Protocol} {n : Nat} {s₀ : Shared} {c : Code} {fs : List Frame} {s : Shared} {env : Env}
  {K : Flow → Sem Fin} {H : Value → Sem Fin} {gd : Bool → Bool} {lv : List Value → List Value}

theorem seg_If {test : Expr} {body orelse : List Stmt} {pos : Pos}
    (h : wpAny M (A.over c fs) (isTrue test env (eval test env)) (fun b s' => if b = true then Seg M A R Y n s₀ c ((execs body env).wrap K H gd lv) fs s' else Seg M A R Y n s₀ c ((execs orelse env).wrap K H gd lv) fs s')
      (fun x s' => Seg M A R Y n s₀ c (H x) fs s') s) : Seg M A R Y n s₀ c ((exec (.If test body orelse pos) env).wrap K H gd lv) fs s := by
  rw [exec_If]
  refine seg_at ?_
  show Seg M A R Y n s₀ c ((isTrue test env (eval test env) >>= fun b => if b = true then execs body env else execs orelse env).wrap K H gd lv) fs s
  rw [Sem.bind_eq_wrap', Sem.wrap_wrap]
  refine seg_wrap (wpAny_mono h (fun b s' hb => ?_) fun _ _ x => x)
  cases b with
  | true => exact hb
  | false => exact hb

theorem seg_For {target iter : Expr} {body orelse : List Stmt} {pos : Pos} (hs : ∀ x, foldedSetIterable iter env x = pure x)
    (h : wpAny M (A.over c fs) (eval iter env) (fun x s₁ => wpAny M (A.over c fs) (pyIter x) (fun it s₂ =>
      ∀ p, Seg M A R Y n s₀ (.forLoop target it body orelse env) (M.den (.forLoop target it body orelse env))
      (.ret (fun r => ((match r with | .ok f => (.pure f : Sem Flow) | .error e => .raise e).onRaise fun (x : Value) => do
        if (← field x 1) == Value.none then unsupported "frame.own-activation:exception-without-traceback"
        setFlight x env.frame).wrap K H gd lv) none (gd false) (lv []) c p [] :: fs) s₂) (fun x s' => Seg M A R Y n s₀ c (H x) fs s') s₁) (fun x s' => Seg M A R Y n s₀ c (H x) fs s') s) :
    Seg M A R Y n s₀ c ((exec (.For target iter body orelse pos) env).wrap K H gd lv) fs s := by
  rw [exec_For]
  refine seg_at ?_
  show Seg M A R Y n s₀ c ((eval iter env >>= fun v => foldedSetIterable iter env v >>= fun x => standAt iter.pos >>= fun _ => holding [x] (pyIter x) >>= fun it => runOwn (.forLoop target it body orelse env) env).wrap K H gd lv) fs s
  rw [Sem.bind_eq_wrap', Sem.wrap_wrap]
  refine seg_wrap (wpAny_mono h (fun x s₁ h₁ => ?_) fun _ _ x => x)
  rw [hs]
  show Seg M A R Y n s₀ c ((standAt iter.pos >>= fun _ => holding [x] (pyIter x) >>= fun it => runOwn (.forLoop target it body orelse env) env).wrap K H gd lv) fs s₁
  refine seg_at ?_
  show Seg M A R Y n s₀ c ((holding [x] (pyIter x) >>= fun it => runOwn (.forLoop target it body orelse env) env).wrap K H gd lv) fs s₁
  rw [Sem.bind_eq_wrap', Sem.wrap_wrap]
  refine seg_wrap (wpAny_holding (wpAny_mono h₁ (fun it s₂ h₂ => ?_) fun _ _ x => x))
  exact seg_call h₂
end

section
variable {prog : Program} {w : World} {A : Around} {R : GenEnd} {Y : Protocol} {n : Nat} {s₀ : Shared} {fs : List Frame} {s : Shared} {env : Env}

theorem seg_forLoop {target : Expr} {it : Value} {body orelse : List Stmt} (ht : ∀ v, letOwnedTupleGo target it v = pure ())
    (h : wpAny (model prog w) (A.over (.forLoop target it body orelse env) fs) (pyNext it) (fun r s₁ => match r with
      | none => Seg (model prog w) A R Y n s₀ (.forLoop target it body orelse env) (.pure (.again (.block orelse env))) fs s₁
      | some v => wpAny (model prog w) (A.over (.forLoop target it body orelse env) fs) (assign target env v) (fun _ s₂ =>
          Seg (model prog w) A R Y n s₀ (.forLoop target it body orelse env) ((execs body env).wrap (fun f => match f with
            | .next | .cont => .pure (.again (.forLoop target it body orelse env))
            | .brk => .pure (.done .next)
            | .ret v => .pure (.done (.ret v))) (fun e => (do noteFrame e env; theTreesLotGoes e : Sem Unit).wrap (fun _ => .raise e) .raise id id) id id) fs s₂) (fun _ _ => False) s₁) (fun _ _ => False) s) :
    Seg (model prog w) A R Y n s₀ (.forLoop target it body orelse env) ((model prog w).den (.forLoop target it body orelse env)) fs s := by
  show Seg _ A R Y n s₀ _ ((forTurn target it body orelse env).onRaise (fun x => do noteFrame x env; theTreesLotGoes x)) fs s
  unfold forTurn
  rw [Sem.onRaise_eq_wrap]
  refine seg_at ?_
  show Seg _ A R Y n s₀ _ (((pyNext it).onRaise (fun _ => standAt { target.pos with line := 0 }) >>= fun r => (match r with
    | none => again (.block orelse env)
    | some v => do
      letOwnedTupleGo target it v
      assign target env v
      match ← execs body env with
      | .next | .cont => again (.forLoop target it body orelse env)
      | .brk => pure (.done .next)
      | .ret v => pure (.done (.ret v)) : Sem Fin)).wrap .pure (fun e => (do noteFrame e env; theTreesLotGoes e : Sem Unit).bind fun _ => .raise e) id id) fs s
  rw [Sem.bind_eq_wrap', Sem.wrap_wrap]
  refine seg_wrap (wpAny_onRaise (wpAny_mono h (fun r s₁ h₁ => ?_) fun _ _ f => f.elim))
  cases r with
  | none => exact h₁
  | some v =>
    show Seg _ A R Y n s₀ _ ((letOwnedTupleGo target it v >>= fun _ => assign target env v >>= fun _ => execs body env >>= fun f => (match f with
      | .next | .cont => again (.forLoop target it body orelse env)
      | .brk => pure (.done .next)
      | .ret v => pure (.done (.ret v)) : Sem Fin)).wrap .pure (fun e => (do noteFrame e env; theTreesLotGoes e : Sem Unit).bind fun _ => .raise e) id id) fs s₁
    rw [ht v]
    show Seg _ A R Y n s₀ _ ((assign target env v >>= fun _ => execs body env >>= fun f => (match f with
      | .next | .cont => again (.forLoop target it body orelse env)
      | .brk => pure (.done .next)
      | .ret v => pure (.done (.ret v)) : Sem Fin)).wrap .pure (fun e => (do noteFrame e env; theTreesLotGoes e : Sem Unit).bind fun _ => .raise e) id id) fs s₁
    rw [Sem.bind_eq_wrap', Sem.wrap_wrap]
    refine seg_wrap (wpAny_mono h₁ (fun _ s₂ h₂ => ?_) fun _ _ f => f.elim)
    rw [Sem.bind_eq_wrap', Sem.wrap_wrap]
    rw [Sem.wrap_congr (execs body env) _ _ (K' := fun f => match f with
            | .next | .cont => .pure (.again (.forLoop target it body orelse env))
            | .brk => .pure (.done .next)
            | .ret v => .pure (.done (.ret v))) (H' := (fun e => (do noteFrame e env; theTreesLotGoes e : Sem Unit).wrap (fun _ => .raise e) .raise id id))
        (fun f => by cases f <;> rfl)
        (fun e => by first | exact Sem.bind_eq_wrap _ _ | (show (do noteFrame e env; theTreesLotGoes e : Sem Unit).bind (fun _ => .raise e) = _; rw [Sem.bind_eq_wrap]))]
    exact h₂
end

/-- the next item of a generator -/
theorem pyNext_genQ {prog : Program} {w : World} {A : Around} {E : Value → Shared → Prop} {s : Shared} {a : Addr} {g n : Nat} {gs : GenState} {P : Nat → Shared → Shared → Prop} {Y : Protocol} {Q : Option Value → Shared → Prop} (hh : A.handled = none)
    (hl : s.heap.NoLimit) (hroom : A.depth < recursionLimit)
    (hg : s.heap.IsGen a g) (hgs : s.gens[g]? = some gs)
    (hgo : gs.Goes (model prog w) A.in1 (fun n s₀ r s₁ => r = .ok (.ret .none) ∧ P n s₀ s₁) Y n (.send .none) (s.setGen g .running))
    (hY : ∀ v s₁ gs', gs'.bare = true → Y (n - 1) (s.setGen g .running) v s₁ (fun r' s'' => match n with
        | 0 => False
        | m + 1 => gs'.Goes (model prog w) A.in1 (fun n s₀ r s₁ => r = .ok (.ret .none) ∧ P n s₀ s₁) Y m r' s'') → Q (some v) (s₁.setGen g gs'))
    (hP : ∀ s₁, P n (s.setGen g .running) s₁ → ∀ h', (∀ b o, s₁.heap.get? b = some o → h'.get? b = some o) → Q none { s₁.setGen g .finished with heap := h' }) :
    wpAny (model prog w) A (pyNext (.ref a)) Q E s := by
  unfold pyNext
  refine wpAny_bind (wpAny_attempt (wpAny_callSpecial?_slot (name := Str.ofString "__next__") hg.typeIs slot_gen_next
    (wpAny_call_entry slot_gen_next hg.typeIs entry_gen_next ?_ (args_gen_next _))))
  show wpAny _ _ (Builtin.Generator.genWake (.ref a) (.send .none)) _ _ s
  unfold Builtin.Generator.genWake
  refine wpAny_bind (wpAny_holding (wpAny_genNumber hg (wpAny_bind (wpAny_genState hgs ?_))))
  cases gs with
  | running => exact hgo.elim
  | finished => exact hgo.elim
  | _ =>
    refine wpAny_bind (wpAny_roomToWake hl hroom ?_)
    show wpAny _ _ (.resume g (.send .none) [] _) _ _ s
    refine wpAny_resumeQ hgs hgo (fun x s₁ hx => ?_) (fun v s₁ gs' hb hv => ?_)
    · obtain ⟨rfl, hp⟩ := hx
      show wpAny _ _ (newExc (.type "StopIteration") [] >>= _) _ _ _
      refine wpAny_bind ?_
      simp only [newExc, newTuple]
      refine wpAny_bind (wpAny_newObj_type ?_ (by size_fits))
      refine wpAny_bind (m := firstArgMember _ _) (wpAny_of_eq (a := Value.none) (by first | rfl | (simp only [firstArgMember]; rfl)) ?_)
      refine wpAny_newObj_type ?_ (by size_fits)
      simp only [raiseNew]
      refine wpAny_bind (wpAny_bind (wpAny_handled ?_))
      rw [show A.in1.handled = none from hh]
      refine wpAny_throw ?_
      refine wpAny_bind (wpAny_isInstance (T := "StopIteration") (b := true) ⟨_, Heap.get?_push_size _ rfl, rfl⟩ isSubtype_stop ?_)
      exact wpAny_pure (hP s₁ hp _ fun b o hb => Heap.get?_push_of_some _ (Heap.get?_push_of_some _ hb))
    · exact wpAny_pure ⟨v, rfl, wpAny_pure (hY v s₁ gs' hb hv)⟩
end Mp
end

section
open PySem PySem.W PyProof.Rows PySem.Calls
set_option maxRecDepth 100000
set_option linter.unusedVariables false
set_option linter.unusedSimpArgs false
set_option linter.unusedSectionVars false
namespace Mp

/-! ## the form of _grouping_intervals -/
structure GP where
  (a1 a2 a3 b1 b2 b3 c1 c2 c3 c4 c5 d1 d2 d3 d4 e1 e2 e3 e4 f1 f2 f3 f4 g1 g2 h1 h2 h3 i1 i2 i3 j1 j2 j3 : Pos)
  (k1 kd ke kf kg : Nat)
noncomputable def gWhile (p : GP) : List Stmt := [.Expr (.Yield (some (.Name "last_interval" p.h1)) p.h2) p.h3]
noncomputable def gRaise (p : GP) : Stmt := .Raise (some (.Call (.Name "ValueError" p.f1) [.Constant (.str "invalid grouping") p.kf p.f2] [] p.f3)) none p.f4
noncomputable def gFor (p : GP) : List Stmt := [
  .If (.Compare (.Name "interval" p.c1) [.Eq] [.Name "CHAR_MAX" p.c2] p.c3) [.Return none p.c4] [] p.c5,
  .If (.Compare (.Name "interval" p.d1) [.Eq] [.Constant (.int 0) p.kd p.d2] p.d3) [
    .If (.Compare (.Name "last_interval" p.e1) [.Is] [.Constant .none p.ke p.e2] p.e3) [gRaise p] [] p.e4,
    .While (.Constant (.bool true) p.kg p.g1) (gWhile p) [] p.g2] [] p.d4,
  .Expr (.Yield (some (.Name "interval" p.i1)) p.i2) p.i3,
  .Assign [.Name "last_interval" p.j1] (.Name "interval" p.j2) p.j3]
noncomputable def gBody (p : GP) : List Stmt := [.Assign [.Name "last_interval" p.a1] (.Constant .none p.k1 p.a2) p.a3, .For (.Name "interval" p.b1) (.Name "grouping" p.b2) (gFor p) [] p.b3]

theorem gbody_form : ∃ p : GP, fnB "_grouping_intervals" = gBody p :=
  ⟨⟨_, _, _, _, _, _, _, _, _, _, _, _, _, _, _, _, _, _, _, _, _, _, _, _, _, _, _, _, _, _, _, _, _, _, _, _, _, _, _⟩, rfl⟩

/-- what a ruler tells -/
inductive Cfg where
  | top (rest : List Int) (last : Option Int)
  | rep (x : Int)
noncomputable def gstep : Cfg → Option (Int × Cfg)
  | .rep x => some (x, .rep x)
  | .top [] _ => none
  | .top (x :: xs) last => if x = 127 then none else if x = 0 then last.map fun y => (y, .rep y) else some (x, .top xs (some x))
end Mp
end

section
open PySem PySem.W PyProof.Rows PySem.Calls
set_option maxRecDepth 100000
set_option linter.unusedVariables false
set_option linter.unusedSimpArgs false
set_option linter.unusedSectionVars false
namespace Mp

/-- what is fixed for a running generator -/
structure GF (sB : Shared) (mg : Str → Option Value) (env : Env) (l I : Addr) (vs : List Value) (xs : List Int) : Prop where
  kind : env.scope.kind = .function
  gl : env.globals = mainGlobals
  last : env.kindOf "last_interval" = some .local
  intv : env.kindOf "interval" = some .local
  cmax : env.kindOf "CHAR_MAX" = some .globalImplicit
  g : sB.heap.Ns mainGlobals mg
  cm : ∃ t, mg "CHAR_MAX" = some (.int 127 t)
  items : ∀ (i : Nat) x, xs[i]? = some x → ∃ t, vs[i]? = some (.int x t)
  len : vs.length = xs.length
  lI : l ≠ I
  lL : l ≠ env.locals
  IL : I ≠ env.locals

noncomputable def lastIs (m : Str → Option Value) : Option Int → Prop
  | none => m "last_interval" = some .none
  | some x => ∃ t, m "last_interval" = some (.int x t)

structure GI (sB : Shared) (env : Env) (l I : Addr) (vs : List Value) (i : Nat) (last : Option Int) (s : Shared) : Prop where
  kp : Kp sB s
  ns : ∃ m, s.heap.Ns env.locals m ∧ lastIs m last
  it : s.heap.IsListIter I l i
  li : ∃ k, s.heap.get? l = some (lob vs k)

structure Tr1 (env : Env) (I : Addr) (s s' : Shared) : Prop where
  hp : ∀ b o, b ≠ env.locals → b ≠ I → s.heap.get? b = some o → s'.heap.get? b = some o
  tk : s.toks ≤ s'.toks
  os : s'.os = s.os
  gn : s'.gens = s.gens
structure Tr2 (sB : Shared) (env : Env) (l I : Addr) (s s' : Shared) : Prop where
  L : ∀ o, s.heap.get? env.locals = some o → s'.heap.get? env.locals = some o
  I : ∀ o, s.heap.get? I = some o → s'.heap.get? I = some o
  l : ∀ o, s.heap.get? l = some o → s'.heap.get? l = some o
  kp : Kp sB s'

theorem Tr1.refl {env : Env} {I : Addr} (s : Shared) : Tr1 env I s s := ⟨fun _ _ _ _ e => e, Nat.le_refl _, rfl, rfl⟩
theorem Tr1.trans {env : Env} {I : Addr} {a b c : Shared} (x : Tr1 env I a b) (y : Tr1 env I b c) : Tr1 env I a c :=
  ⟨fun k o h1 h2 e => y.hp k o h1 h2 (x.hp k o h1 h2 e), Nat.le_trans x.tk y.tk, y.os.trans x.os, y.gn.trans x.gn⟩
theorem Tr1.kp {sB : Shared} {env : Env} {I : Addr} {s s' : Shared} (x : Tr1 env I s s') (k : Kp sB s) (hL : sB.heap.get? env.locals = none) (hI : sB.heap.get? I = none) : Kp sB s' :=
  ⟨fun b o e => x.hp b o (by rintro rfl; rw [hL] at e; cases e) (by rintro rfl; rw [hI] at e; cases e) (k.hp b o e), Nat.le_trans k.tk x.tk, x.os.trans k.os, by rw [x.gn]; exact k.gn⟩
theorem GI.tr2 {sB : Shared} {env : Env} {l I : Addr} {vs : List Value} {i : Nat} {last : Option Int} {s s' : Shared} (x : GI sB env l I vs i last s) (t : Tr2 sB env l I s s') : GI sB env l I vs i last s' :=
  ⟨t.kp, let ⟨m, h1, h2⟩ := x.ns; ⟨m, h1.at' fun o e => t.L o e, h2⟩, x.it.at fun o e => t.I o e, let ⟨k, e⟩ := x.li; ⟨k, t.l _ e⟩⟩

noncomputable def gY (sB : Shared) (env : Env) (l I : Addr) (cf : Nat → Option Cfg) : Protocol := fun n s₀ v s' kap =>
  (∃ c x c', cf (n + 1) = some c ∧ gstep c = some (x, c') ∧ ∃ t, v = .int x t) ∧ Tr1 env I s₀ s' ∧ ((∃ m, s'.heap.Ns env.locals m) ∧ ∃ k, s'.heap.IsListIter I l k) ∧ (n ≠ 0 → ∀ s'', Tr2 sB env l I s' s'' → kap (.send .none) s'')
noncomputable def gP (env : Env) (I : Addr) (cf : Nat → Option Cfg) : Nat → Shared → Shared → Prop := fun n s₀ s₁ => (∃ c, cf n = some c ∧ gstep c = none) ∧ Tr1 env I s₀ s₁
noncomputable def gR (env : Env) (I : Addr) (cf : Nat → Option Cfg) : GenEnd := fun n s₀ r s₁ => r = .ok (.ret .none) ∧ gP env I cf n s₀ s₁

section
variable {prog : Program} {w : World} {A : Around} {sB : Shared} {mg : Str → Option Value} {env : Env} {l I : Addr} {vs : List Value} {xs : List Int} {cf : Nat → Option Cfg} {p : GP}

/-- while True: yield last_interval -/
theorem whileSeg (hf : GF sB mg env l I vs xs) (hco : env.scope.isCoroutine = false) (hcf : ∀ n c x c', cf (n + 1) = some c → gstep c = some (x, c') → cf n = some c') {fs : List Frame} (h1 : splitAtGen fs = none) (h2 : fs.any Frame.guarded = false) :
    ∀ (m : Nat) (c : Cfg) (y : Int) (i : Nat) (s₀ s : Shared), cf (m + 1) = some c → gstep c = some (y, .rep y) → GI sB env l I vs i (some y) s → Tr1 env I s₀ s →
      Seg (model prog w) A (gR env I cf) (gY sB env l I cf) (m + 1) s₀ (.whileLoop (.Constant (.bool true) p.kg p.g1) (gWhile p) [] env) ((model prog w).den (.whileLoop (.Constant (.bool true) p.kg p.g1) (gWhile p) [] env)) fs s := by
  intro m
  induction m with
  | zero =>
    intro c y i s₀ s hc hg hgi htr
    refine seg_whileLoop (isTrue_plain (PyProof.Rows.Constant_bool (wpAny_truthy_bool ?_)) rfl)
    rw [if_pos rfl]
    unfold gWhile
    refine seg_execs_cons (seg_Expr_Yield h1 rfl h2 ?_ hco (by unfold interactive; rw [hf.kind]; rfl))
    obtain ⟨mm, hn, t, ht⟩ := hgi.ns
    refine wpAny_Name (wpAny_loadName_local hf.kind hf.last hn ht ?_)
    exact fun kap _ => ⟨⟨c, y, _, hc, hg, t, rfl⟩, htr, ⟨⟨_, hn⟩, _, hgi.it⟩, fun h => absurd rfl h⟩
  | succ m ih =>
    intro c y i s₀ s hc hg hgi htr
    refine seg_whileLoop (isTrue_plain (PyProof.Rows.Constant_bool (wpAny_truthy_bool ?_)) rfl)
    rw [if_pos rfl]
    unfold gWhile
    refine seg_execs_cons (seg_Expr_Yield h1 rfl h2 ?_ hco (by unfold interactive; rw [hf.kind]; rfl))
    obtain ⟨mm, hn, t, ht⟩ := hgi.ns
    refine wpAny_Name (wpAny_loadName_local hf.kind hf.last hn ht ?_)
    intro kap hkap
    refine ⟨⟨c, y, _, hc, hg, t, rfl⟩, htr, ⟨⟨_, hn⟩, _, hgi.it⟩, fun _ s'' ht2 => hkap .none s'' ?_⟩
    have hgi' := hgi.tr2 ht2
    exact seg_execs_nil (seg_again rfl (ih _ y i s'' s'' (hcf _ _ _ _ hc hg) rfl hgi' (Tr1.refl _)))
end
end Mp
end

section
open PySem PySem.W PyProof.Rows PySem.Calls
set_option maxRecDepth 100000
set_option linter.unusedVariables false
set_option linter.unusedSimpArgs false
set_option linter.unusedSectionVars false
namespace Mp
section
variable {prog : Program} {w : World} {A : Around} {sB : Shared} {mg : Str → Option Value} {env : Env} {l I : Addr} {vs : List Value} {xs : List Int} {cf : Nat → Option Cfg} {p : GP}

theorem eq_sym {x y : Int} : (x == y) = decide (x = y) := by by_cases e : x = y <;> simp [e]

/-- for interval in grouping: ... -/
theorem forSeg (hf : GF sB mg env l I vs xs) (hLn : sB.heap.get? env.locals = none) (hIn : sB.heap.get? I = none) (hco : env.scope.isCoroutine = false) (hcf : ∀ n c x c', cf (n + 1) = some c → gstep c = some (x, c') → cf n = some c') {fs : List Frame} (h1 : splitAtGen fs = none) (h2 : fs.any Frame.guarded = false)
    (hh : (A.over (.forLoop (.Name "interval" p.b1) (.ref I) (gFor p) [] env) fs).handled = none)
    (hend : ∀ n s₀ s, gP env I cf n s₀ s → Seg (model prog w) A (gR env I cf) (gY sB env l I cf) n s₀ (.forLoop (.Name "interval" p.b1) (.ref I) (gFor p) [] env) (.pure (.again (.block [] env))) fs s)
    (hret : ∀ n s₀ s, gP env I cf n s₀ s → Seg (model prog w) A (gR env I cf) (gY sB env l I cf) n s₀ (.forLoop (.Name "interval" p.b1) (.ref I) (gFor p) [] env) (.pure (.done (.ret .none))) fs s) :
    ∀ (m : Nat) (rest : List Int) (last : Option Int) (i : Nat) (s₀ s : Shared), cf (m + 1) = some (.top rest last) → rest = xs.drop i → (last = none → ∀ r, rest ≠ 0 :: r) → GI sB env l I vs i last s → Tr1 env I s₀ s →
      Seg (model prog w) A (gR env I cf) (gY sB env l I cf) (m + 1) s₀ (.forLoop (.Name "interval" p.b1) (.ref I) (gFor p) [] env) ((model prog w).den (.forLoop (.Name "interval" p.b1) (.ref I) (gFor p) [] env)) fs s := by
  intro m
  induction m using Nat.strongRecOn with
  | _ m ih =>
    intro rest last i s₀ s hc hrest hne hgi htr
    refine seg_forLoop (by intro _; rfl) ?_
    obtain ⟨k, hl⟩ := hgi.li
    obtain ⟨mm, hn, hlast⟩ := hgi.ns
    have hL : s.heap.IsList l vs.toArray := ⟨_, hl, rfl, k, rfl⟩
    cases hr : rest with
    | nil =>
      subst hr
      have hi : xs.length ≤ i := by
        have := congrArg List.length hrest
        simp at this; omega
      refine wpAny_pyNext_list_end hh hgi.it hL (by simp [hf.len, hi]) fun h' he => ?_
      exact hend _ _ _ ⟨⟨_, hc, rfl⟩, htr.trans ⟨fun b o _ hb e => he b o hb e, Nat.le_refl _, rfl, rfl⟩⟩
    | cons x r =>
      subst hr
      have hi : i < xs.length := by
        rcases Nat.lt_or_ge i xs.length with h | h
        · exact h
        · rw [List.drop_of_length_le h] at hrest; cases hrest
      rw [List.drop_eq_getElem_cons hi] at hrest
      obtain ⟨hx, hr⟩ := List.cons.inj hrest
      obtain ⟨t, hv⟩ := hf.items i x (by rw [List.getElem?_eq_getElem hi, hx])
      refine wpAny_pyNext_list_item hgi.it hL (x := .int x t) (by simpa using hv) fun h₁ hit₁ hs₁ => ?_
      have hn₁ : h₁.Ns env.locals mm := hn.sameBut hs₁ (Ne.symm hf.IL)
      refine wpAny_assign_Name (wpAny_storeName_local hf.intv hn₁ (fun h₂ hn₂ hs₂ => ?_) (by simp [hf.kind]))
      have htr₂ : Tr1 env I s { s with heap := h₂, toks := s.toks + 1 } := ⟨fun b o hbL hbI e => hs₂.extBut b o hbL (hs₁.extBut b o hbI e), Nat.le_succ _, rfl, rfl⟩
      have hkp₂ : Kp sB { s with heap := h₂, toks := s.toks + 1 } := htr₂.kp hgi.kp hLn hIn
      have hit₂ : h₂.IsListIter I l (i + 1) := hit₁.extBut hs₂.extBut hf.IL
      have hl₂ : h₂.get? l = some (lob vs k) := hs₂.extBut _ _ hf.lL (hs₁.extBut _ _ hf.lI hl)
      have hlast₂ : lastIs (fun y => if y = "interval" then some (.int x t) else mm y) last := by
        have hli : ¬ (Str.ofString "last_interval" = Str.ofString "interval") := by decide
        cases last with
        | none => exact (if_neg hli).trans hlast
        | some y => obtain ⟨u, hu⟩ := hlast; exact ⟨u, (if_neg hli).trans hu⟩
      have hintv : (fun y : Str => if y = "interval" then some (Value.int x t) else mm y) "interval" = some (.int x t) := by simp
      generalize hs2 : ({ s with heap := h₂, toks := s.toks + 1 } : Shared) = s₂ at *
      have hn₂ : s₂.heap.Ns env.locals (fun y => if y = "interval" then some (.int x t) else mm y) := by rw [← hs2]; exact hn₂
      have hgi₂ : GI sB env l I vs (i + 1) last s₂ := ⟨hkp₂, ⟨_, hn₂, hlast₂⟩, by rw [← hs2]; exact hit₂, k, by rw [← hs2]; exact hl₂⟩
      have htr₀ : Tr1 env I s₀ s₂ := htr.trans htr₂
      generalize (fun y : Str => if y = "interval" then some (Value.int x t) else mm y) = mm₂ at *
      -- interval == CHAR_MAX
      refine seg_execs_cons (seg_If (wpAny_isTrue_Compare1 (wpAny_Name (wpAny_loadName_local hf.kind hf.intv hn₂ hintv ?_))))
      obtain ⟨t1, hcm⟩ := hf.cm
      refine Name_function_global hf.kind hf.cmax (loadGlobal_global (env := env) (mg := mg) (by rw [hf.gl]; exact hf.g.keeps hkp₂.hp) hcm ?_)
      refine P.eq_int (wpAny_truthy_bool ?_)
      rw [eq_sym]
      by_cases hx1 : x = 127
      · rw [if_pos (by simp [hx1])]
        refine seg_execs_cons (seg_wrap (wpAny_Return_none ?_))
        refine hret _ _ _ ⟨⟨_, hc, ?_⟩, htr₀⟩
        simp [gstep, hx1]
      · rw [if_neg (by simp [hx1])]
        refine seg_execs_nil ?_
        -- interval == 0
        refine seg_execs_cons (seg_If (wpAny_isTrue_Compare1 (wpAny_Name (wpAny_loadName_local hf.kind hf.intv hn₂ hintv ?_))))
        refine wpAny_Constant_int (P.eq_int (wpAny_truthy_bool ?_))
        rw [eq_sym]
        by_cases hx0 : x = 0
        · rw [if_pos (by simp [hx0])]
          subst hx0
          cases last with
          | none => exact absurd rfl (hne rfl r)
          | some y =>
            have hg : gstep (.top (0 :: r) (some y)) = some (y, .rep y) := by simp [gstep]
            obtain ⟨u, hu⟩ := hlast₂
            have htk : Tr1 env I s₂ { s₂ with toks := s₂.toks + 1 } := ⟨fun _ _ _ _ e => e, Nat.le_succ _, rfl, rfl⟩
            have hgi₃ : GI sB env l I vs (i + 1) (some y) { s₂ with toks := s₂.toks + 1 } := ⟨htk.kp hkp₂ hLn hIn, ⟨_, hn₂, u, hu⟩, hgi₂.it, hgi₂.li⟩
            refine seg_execs_cons (seg_If (wpAny_isTrue_Compare1 (wpAny_Name (wpAny_loadName_local (s := { s₂ with toks := s₂.toks + 1 }) hf.kind hf.last hn₂ hu ?_))))
            refine PySem.wpAny_Constant_none (is_none (wpAny_truthy_bool ?_))
            rw [if_neg (by simp)]
            refine seg_execs_nil (seg_execs_cons (seg_While fun pp => ?_))
            exact whileSeg hf hco hcf (by simp [splitAtGen, h1]) (by simp [Frame.guarded, h2]) m _ y (i + 1) s₀ _ hc hg hgi₃ (htr₀.trans htk)
        · rw [if_neg (by simp [hx0])]
          refine seg_execs_nil ?_
          have hg : gstep (.top (x :: r) last) = some (x, .top r (some x)) := by simp [gstep, hx1, hx0]
          -- yield interval
          refine seg_execs_cons (seg_Expr_Yield h1 rfl h2 ?_ hco (by unfold interactive; rw [hf.kind]; rfl))
          have htk : Tr1 env I s₂ { s₂ with toks := s₂.toks + 1 } := ⟨fun _ _ _ _ e => e, Nat.le_succ _, rfl, rfl⟩
          refine wpAny_Name (wpAny_loadName_local (s := { s₂ with toks := s₂.toks + 1 }) hf.kind hf.intv hn₂ hintv ?_)
          intro kap hkap
          refine ⟨⟨_, x, _, hc, hg, t, rfl⟩, htr₀.trans htk, ⟨⟨_, hn₂⟩, _, hgi₂.it⟩, fun hm0 s'' ht2 => hkap .none s'' ?_⟩
          obtain ⟨m', rfl⟩ := Nat.exists_eq_succ_of_ne_zero hm0
          have hn₃ : s''.heap.Ns env.locals mm₂ := hn₂.at' fun o e => ht2.L o e
          refine seg_execs_cons (seg_wrap (wpAny_Assign_Name (wpAny_Name (wpAny_loadName_local hf.kind hf.intv hn₃ hintv (wpAny_storeName_local hf.last hn₃ (fun h₄ hn₄ hs₄ => ?_) (by simp [hf.kind])))) rfl))
          refine seg_execs_nil (seg_again rfl (ih m' (Nat.lt_succ_self _) r (some x) (i + 1) s'' _ (hcf _ _ _ _ hc hg) hr (fun e => by cases e) ?_ ?_))
          · have htr4 : Tr1 env I s'' { s'' with heap := h₄, toks := s''.toks + 1 } := ⟨fun b o hbL _ e => hs₄.extBut b o hbL e, Nat.le_succ _, rfl, rfl⟩
            refine ⟨htr4.kp ht2.kp hLn hIn, ⟨_, hn₄, t, by simp⟩, (hgi₂.it.at fun o e => ht2.I o e).extBut hs₄.extBut hf.IL, ?_⟩
            obtain ⟨k2, e2⟩ := hgi₂.li
            exact ⟨k2, hs₄.extBut _ _ hf.lL (ht2.l _ e2)⟩
          · exact ⟨fun b o hbL _ e => hs₄.extBut b o hbL e, Nat.le_succ _, rfl, rfl⟩
end
end Mp
end

section
open PySem PySem.W PyProof.Rows PySem.Calls
set_option maxRecDepth 100000
set_option linter.unusedVariables false
set_option linter.unusedSimpArgs false
set_option linter.unusedSectionVars false
namespace Mp
section
variable {prog : Program} {w : World} {A : Around} {sB : Shared} {mg : Str → Option Value} {env : Env} {l : Addr} {vs : List Value} {xs : List Int} {cf : Nat → Option Cfg} {p : GP}

/-- the generator, woken for the first time -/
theorem funcSeg {s : Shared} {mm : Str → Option Value} {k m : Nat} (hA : A.handled = none) (hf : ∀ I, I ≠ l → I ≠ env.locals → GF sB mg env l I vs xs) (hgr : env.kindOf "grouping" = some .local) (hLn : sB.heap.get? env.locals = none) (hco : env.scope.isCoroutine = false)
    (hcf : ∀ n c x c', cf (n + 1) = some c → gstep c = some (x, c') → cf n = some c') (hkp : Kp sB s) (hn : s.heap.Ns env.locals mm) (hm : mm "grouping" = some (.ref l)) (hl : s.heap.get? l = some (lob vs k)) (hc : cf (m + 1) = some (.top xs none)) (hne : ∀ r, xs ≠ 0 :: r) :
    Seg (model prog w) A (gR env s.heap.objs.size cf) (gY sB env l s.heap.objs.size cf) (m + 1) s (.func (gBody p) env) ((model prog w).den (.func (gBody p) env)) [] s := by
  have hIl : s.heap.objs.size ≠ l := (some_ne hl (Nat.le_refl _)).symm
  have hIL : s.heap.objs.size ≠ env.locals := by obtain ⟨o, _, _, eo, _⟩ := hn; exact (some_ne eo (Nat.le_refl _)).symm
  have hF := hf _ hIl hIL
  have hIn : sB.heap.get? s.heap.objs.size = none := by
    cases e : sB.heap.get? s.heap.objs.size with
    | none => rfl
    | some o => exact absurd (Heap.lt_size (hkp.hp _ _ e)) (Nat.lt_irrefl _)
  refine seg_func ?_
  unfold gBody
  refine seg_execs_cons (seg_wrap (wpAny_Assign_Name (PySem.wpAny_Constant_none (wpAny_storeName_local hF.last hn (fun h₁ hn₁ hs₁ => ?_) (by simp [hF.kind]))) rfl))
  have hsz : h₁.objs.size = s.heap.objs.size := hs₁.1
  have hl₁ : h₁.get? l = some (lob vs k) := hs₁.extBut _ _ hF.lL hl
  have hg₁ : (fun x : Str => if x = "last_interval" then some Value.none else mm x) "grouping" = some (.ref l) := by
    have : ¬ (Str.ofString "grouping" = Str.ofString "last_interval") := by decide
    exact (if_neg this).trans hm
  refine seg_execs_cons (seg_For (by intro _; rfl) (wpAny_Name (wpAny_loadName_local hF.kind hgr hn₁ hg₁ ?_)))
  refine wpAny_pyIter_list (items := vs.toArray) ⟨_, hl₁, rfl, k, rfl⟩ ?_
  show ∀ pp, Seg _ A _ _ _ _ (.forLoop _ (.ref h₁.objs.size) _ _ _) _ _ _
  rw [hsz]
  intro pp
  refine forSeg hF hLn hIn hco hcf (by simp [splitAtGen]) (by simp [Frame.guarded]) (by simp [Around.over, marksOver, hA]; rfl) ?_ ?_ m xs none 0 s _ hc (by simp) (fun _ => hne) ?_ ?_
  · intro n s₀ s' hp
    refine seg_again rfl ?_
    show Seg _ A _ _ _ _ _ (.pure (.done .next)) _ _
    refine seg_leaf (.ok .next) ?_
    exact seg_end (.ok (.ret .none)) ⟨rfl, hp⟩
  · intro n s₀ s' hp
    refine seg_leaf (.ok (.ret .none)) ?_
    exact seg_end (.ok (.ret .none)) ⟨rfl, hp⟩
  · have htr : Tr1 env s.heap.objs.size s { s with heap := h₁.push { cls := .type "list_iterator", data := .fields #[.ref l, .int 0 0] }, toks := s.toks + 1 } :=
      ⟨fun b o hbL _ e => Heap.get?_push_of_some _ (hs₁.extBut b o hbL e), Nat.le_succ _, rfl, rfl⟩
    refine ⟨htr.kp hkp hLn hIn, ⟨_, hn₁.push _, if_pos rfl⟩, ⟨_, by rw [← hsz]; exact Heap.get?_push_size _ rfl, rfl, rfl⟩, k, Heap.get?_push_of_some _ hl₁⟩
  · exact ⟨fun b o hbL _ e => Heap.get?_push_of_some _ (hs₁.extBut b o hbL e), Nat.le_succ _, rfl, rfl⟩
end
end Mp
end

section
open PySem PySem.W PyProof.Rows PySem.Calls
set_option maxRecDepth 100000
set_option linter.unusedVariables false
set_option linter.unusedSimpArgs false
set_option linter.unusedSectionVars false
namespace Mp

/-- an entry of the generators' table, beyond the old ones, may turn -/
theorem gens_set {a b : Array GenState} {t : List GenState} {g : Nat} {st : GenState} (h : b.toList = a.toList ++ t) (hb : ∀ y ∈ t, y.bare = true) (hg : a.size ≤ g) (hs : st.bare = true) : ∃ t', (b.setIfInBounds g st).toList = a.toList ++ t' ∧ ∀ y ∈ t', y.bare = true := by
  refine ⟨t.set (g - a.size) st, ?_, fun y hy => ?_⟩
  · rw [Array.toList_setIfInBounds, h, List.set_append_right _ _ (by simpa using hg)]
    simp
  · rcases List.mem_or_eq_of_mem_set hy with h | h
    · exact hb y h
    · rw [h]; exact hs

theorem gens_set1 {a b : Array GenState} {g : Nat} {st : GenState} (h : ∃ t : List GenState, b.toList = a.toList ++ t) (hg : a.size ≤ g) : ∃ t' : List GenState, (b.setIfInBounds g st).toList = a.toList ++ t' := by
  obtain ⟨t, h⟩ := h
  exact ⟨t.set (g - a.size) st, by rw [Array.toList_setIfInBounds, h, List.set_append_right _ _ (by simpa using hg)]; simp⟩
theorem gens_keep {a b : Array GenState} {g : Nat} {st : GenState} (h : ∃ t : List GenState, b.toList = a.toList ++ t) (hg : a[g]? = some st) : b[g]? = some st := by
  obtain ⟨t, h⟩ := h
  have hl : g < a.size := (Array.getElem?_eq_some_iff.mp hg).1
  rw [← Array.getElem?_toList] at hg ⊢
  rw [h, List.getElem?_append_left (by simpa using hl)]
  exact hg

theorem Kp.setGen {s0 s : Shared} (k : Kp s0 s) {g : Nat} {st : GenState} (hg : s0.gens.size ≤ g) (hs : st.bare = true) : Kp s0 (s.setGen g st) := by
  obtain ⟨t, h1, h2⟩ := k.gn
  exact ⟨k.hp, k.tk, k.os, gens_set h1 h2 hg hs⟩

section
variable {sB s0 : Shared} {c : Cx} {env : Env} {Fc : Addr → Prop} {s : Shared} {O : Os'} {W : Ws}

theorem SR.upG {L I : Addr} {s' : Shared} (hf : FR sB s0 c env Fc) (h : SR s0 c env Fc s O W) (hL : ∀ o, s.heap.get? L = some o → ∀ vs n, o.data ≠ .seq vs n) (hI : ∀ o, s.heap.get? I = some o → ∀ vs n, o.data ≠ .seq vs n)
    (hTL : ¬ Tf env L) (hTI : ¬ Tf env I) (h0L : s0.heap.get? L = none) (h0I : s0.heap.get? I = none) (htk : s.toks ≤ s'.toks) (hos : s'.os = s.os) (hgn : ∃ t : List GenState, s'.gens.toList = s0.gens.toList ++ t ∧ ∀ y ∈ t, y.bare = true)
    (hk : ∀ b o, b ≠ L → b ≠ I → s.heap.get? b = some o → s'.heap.get? b = some o) : SR s0 c env Fc s' O W := by
  have hv : ∀ b o, (∃ vs n, o.data = .seq vs n) → s.heap.get? b = some o → s'.heap.get? b = some o := fun b o hc e =>
    hk b o (by rintro rfl; obtain ⟨vs, n, hd⟩ := hc; exact hL _ e _ _ hd) (by rintro rfl; obtain ⟨vs, n, hd⟩ := hc; exact hI _ e _ _ hd) e
  have hsl : ∀ y b' v', Slot env s y b' v' → Slot env s' y b' v' := by
    intro y b' v' hsl
    cases b' with
    | true =>
      obtain ⟨a', e1, o, e3, e4⟩ := hsl
      exact ⟨a', e1, o, hk _ _ (by rintro rfl; exact hTL (.inr ⟨y, e1⟩)) (by rintro rfl; exact hTI (.inr ⟨y, e1⟩)) e3, e4⟩
    | false =>
      obtain ⟨m, e1, e2⟩ := hsl
      exact ⟨m, e1.at' fun o e => hk _ o (by rintro rfl; exact hTL (.inl rfl)) (by rintro rfl; exact hTI (.inl rfl)) e, e2⟩
  exact {
    base := ⟨fun b o e => hk b o (by rintro rfl; rw [h0L] at e; cases e) (by rintro rfl; rw [h0I] at e; cases e) (h.base.hp b o e), Nat.le_trans h.base.tk htk, hos.trans h.base.os, hgn⟩
    toks := by have := h.toks; omega
    lenW := h.lenW
    lenO := h.lenO
    ns := by obtain ⟨m, e1⟩ := h.ns; exact ⟨m, e1.at' fun o e => hk _ o (by rintro rfl; exact hTL (.inl rfl)) (by rintro rfl; exact hTI (.inl rfl)) e⟩
    cell := by
      intro y a' e
      obtain ⟨ov, o, e3, e4⟩ := h.cell y a' e
      exact ⟨ov, o, hk _ _ (by rintro rfl; exact hTL (.inr ⟨y, e⟩)) (by rintro rfl; exact hTI (.inr ⟨y, e⟩)) e3, e4⟩
    onew := by
      intro i a' hi
      obtain ⟨e1, vs2, n2, e2⟩ := h.onew i a' hi
      exact ⟨e1, _, _, hv _ _ ⟨_, _, rfl⟩ e2⟩
    oinj := h.oinj
    vals := by
      intro i y b' d e1 e2
      obtain ⟨v, e3, e4⟩ := h.vals i y b' d e1 e2
      exact ⟨v, hsl _ _ _ e3, e4.keepI htk hv⟩
    owns := by
      intro i y b' ds e1 e2
      obtain ⟨a2, vs2, n2, e3, e4, e5, e6⟩ := h.owns i y b' ds e1 e2
      exact ⟨a2, vs2, n2, e3, hsl _ _ _ e4, hv _ _ ⟨_, _, rfl⟩ e5, e6.keepI htk hv⟩ }
end

/-! ## what _law_sizes tells -/
noncomputable def run : Nat → Cfg → Int → List Int → Option (List Int)
  | 0, _, _, _ => none
  | n + 1, c, e, acc => match gstep c with
    | none => some acc
    | some (x, c') => if ((acc.length : Int) + 1) = e then some (acc ++ [x]) else run n c' e (acc ++ [x])
noncomputable def seqC (c : Cfg) : Nat → Option Cfg
  | 0 => some c
  | i + 1 => (seqC c i).bind fun c => (gstep c).map (·.2)
noncomputable def cfOf (c : Cfg) (n : Nat) : Nat → Option Cfg := fun j => if j ≤ n then seqC c (n - j) else none
theorem cfOf_top (c : Cfg) (n : Nat) : cfOf c n n = some c := by unfold cfOf; rw [if_pos (Nat.le_refl _), Nat.sub_self]; rfl
theorem cfOf_step (c0 : Cfg) (N : Nat) : ∀ n c x c', cfOf c0 N (n + 1) = some c → gstep c = some (x, c') → cfOf c0 N n = some c' := by
  intro n c x c' h hg
  unfold cfOf at h ⊢
  split at h
  · rename_i hle
    rw [if_pos (by omega)]
    rw [show N - n = (N - (n + 1)) + 1 by omega]
    unfold seqC
    rw [h]
    show (gstep c).map (·.2) = _
    rw [hg]; rfl
  · cases h
end Mp
end

section
open PySem PySem.W PyProof.Rows PySem.Calls
set_option maxRecDepth 100000
set_option linter.unusedVariables false
set_option linter.unusedSimpArgs false
set_option linter.unusedSectionVars false
namespace Mp

/-! ## the consumer -/
noncomputable def XB : Xt := ⟨⟨vals0, bis0, [("_law_whole", cWhole)]⟩, []⟩
noncomputable def szB_1 : List S := [.ite (.cmp .Eq (.bi 0 [.var 3]) (.var 1)) [.brk] []]
noncomputable def szB : List S := .app 3 (.fn 0 [.var 4]) :: szB_1
noncomputable abbrev WS (ru : V) (e : Int) (ds : List D) (acc : List D) (v : V) : Ws := [ru, .val (.int e), .val (.list ds), .own acc, v]

theorem sz_body {ru : V} {e x : Int} {ds acc : List D} {R : Out → Prop} (hl : acc.length ≤ 1000000)
    (h1 : ((acc.length : Int) + 1) = e → R (.brk (WS ru e ds (acc ++ [.int x]) (.val (.int x))))) (h2 : ¬ ((acc.length : Int) + 1) = e → R (.go (WS ru e ds (acc ++ [.int x]) (.val (.int x))))) :
    pxs XB szB (WS ru e ds acc (.val (.int x))) R := by
  unfold szB
  refine s_app (xs := acc) rfl ?_
  simp only [pe_cst, pe_neg, pe_var, pe_gval, pe_bin, pe_cmp, pe_ite, pe_and, pe_one, pe_bi, pe_fn, pe_meth, pe_item, pe_slA, pe_slL, pe_slU, pe_lst, pe_tup, pe_isint, pe_comp, pe_compif, pes_nil, pes_cons, hid, List.map_cons, List.map_nil, V.hid, List.getElem?_cons_zero, List.getElem?_cons_succ]
  refine ⟨x, rfl, by omega, ?_⟩
  unfold szB_1
  refine s_ite ?_
  simp only [pe_cst, pe_neg, pe_var, pe_gval, pe_bin, pe_cmp, pe_ite, pe_and, pe_one, pe_bi, pe_fn, pe_meth, pe_item, pe_slA, pe_slL, pe_slU, pe_lst, pe_tup, pe_isint, pe_comp, pe_compif, pes_nil, pes_cons, pt_cmp, pt_and, pt_or, pt_one, pt_var, pt_isint, pt_fn, pt_meth, vis, List.map_cons, List.map_nil, V.vis, List.getElem?_cons_zero, List.getElem?_cons_succ, List.set_cons_zero, List.set_cons_succ]
  refine ⟨by simp; omega, ?_⟩
  show if decide ((((acc ++ [D.int x]).length : Nat) : Int) = e) = true then _ else _
  have hlen : (((acc ++ [D.int x]).length : Nat) : Int) = (acc.length : Int) + 1 := by simp
  rw [hlen]
  by_cases hc : ((acc.length : Int) + 1) = e
  · rw [if_pos (by simpa using hc)]
    exact s_brk (h1 hc)
  · rw [if_neg (by simpa using hc)]
    exact s_nil (show pxs XB [] _ R from s_nil (h2 hc))

section
variable {prog : Program} {w : World} {sB : Shared} {mg : Str → Option Value} {envG : Env} {l : Addr} {vs : List Value} {xs : List Int} {cf : Nat → Option Cfg} {p : GP} {g : Nat}

/-- the generator stands ready, with j turns left -/
noncomputable def Ready (prog : Program) (w : World) (A : Around) (sB s0 : Shared) (envG : Env) (l : Addr) (vs : List Value) (xs : List Int) (cf : Nat → Option Cfg) (p : GP) (g : Nat) (j : Nat) (s : Shared) : Prop :=
  ∃ gs, s.gens[g]? = some gs ∧ ((gs = .fresh (.func (gBody p) envG) ∧ cf j = some (.top xs none) ∧ ∃ mm, s.heap.Ns envG.locals mm ∧ mm "grouping" = some (.ref l)) ∨
    (∃ I oI, s.heap.get? I = some oI ∧ (∀ vs n, oI.data ≠ .seq vs n) ∧ s0.heap.get? I = none ∧
      (j ≠ 0 → ∀ s'', Tr2 sB envG l I s s'' → gs.Goes (model prog w) A.in1 (gR envG I cf) (gY sB envG l I cf) j (.send .none) s'')))
end
end Mp
end

section
open PySem PySem.W PyProof.Rows PySem.Calls
set_option maxRecDepth 100000
set_option linter.unusedVariables false
set_option linter.unusedSimpArgs false
set_option linter.unusedSectionVars false
namespace Mp
section
variable {prog : Program} {w : World} {sB s0 : Shared} {mg mb : Str → Option Value} {L : Nat} {cx : Cx} {env envG : Env} {Fc : Addr → Prop} {l a : Addr} {vs : List Value} {xs : List Int} {cf : Nat → Option Cfg} {p : GP} {g : Nat}

/-- an address that the consumer's statements leave alone -/
structure Safe (s0 : Shared) (env : Env) (O : Os') (s : Shared) (b : Addr) : Prop where
  live : ∃ o, s.heap.get? b = some o
  tf : ¬ Tf env b
  own : ¬ inO O b
theorem Safe.up {O O' : Os'} {s s' : Shared} {b : Addr} (h : Safe s0 env O s b) (k : Kt env O s s') (ho : Osub O O' s) : Safe s0 env O' s' b := by
  obtain ⟨o, e⟩ := h.live
  refine ⟨⟨o, k.hp b o (fun hh => hh.elim h.tf h.own) e⟩, h.tf, fun hi => (ho b hi).elim h.own fun hn => by rw [e] at hn; cases hn⟩
theorem Safe.keep {O : Os'} {s s' : Shared} {b : Addr} (h : Safe s0 env O s b) (k : Kt env O s s') : ∀ o, s.heap.get? b = some o → s'.heap.get? b = some o := fun o e => k.hp b o (fun hh => hh.elim h.tf h.own) e

/-- what the loop over the generator holds -/
structure Jv (prog : Program) (w : World) (A : Around) (sB s0 : Shared) (cx : Cx) (env envG : Env) (Fc : Addr → Prop) (l a : Addr) (vs : List Value) (xs : List Int) (cf : Nat → Option Cfg) (p : GP) (g : Nat) (ru : V) (e : Int) (ds : List D) (out : List Int) (N : Nat) (s : Shared) (O : Os') (j : Nat) (s' : Shared) (O' : Os') (c : Cfg) (acc : List Int) (v : V) : Prop where
  hc : cf j = some c
  hr : run j c e acc = some out
  hb : acc.length + j ≤ N
  sr : SR s0 cx env Fc s' O' (WS ru e ds (acc.map D.int) v)
  kt : Kt env O s s'
  os : Osub O O' s
  gen : s'.heap.IsGen a g
  gl : s0.gens.size ≤ g
  gs : s.gens.size ≤ g
  li : ∃ k, s'.heap.get? l = some (lob vs k)
  sa : Safe s0 env O' s' a
  sl : Safe s0 env O' s' l
  sL : Safe s0 env O' s' envG.locals
  dL : ∀ o, s'.heap.get? envG.locals = some o → ∀ vs n, o.data ≠ .seq vs n
  rd : ∃ gs, s'.gens[g]? = some gs ∧ ((gs = .fresh (.func (gBody p) envG) ∧ c = .top xs none ∧ ∃ mm, s'.heap.Ns envG.locals mm ∧ mm "grouping" = some (.ref l) ∧ ∀ b o, s.heap.get? b = some o → s'.heap.get? b = some o) ∨
    (∃ I, Safe s0 env O' s' I ∧ (∀ o, s'.heap.get? I = some o → ∀ vs n, o.data ≠ .seq vs n) ∧ s.heap.get? I = none ∧ I ≠ a ∧ I ≠ l ∧
      (j ≠ 0 → ∀ s'', Tr2 sB envG l I s' s'' → gs.Goes (model prog w) A.in1 (gR envG I cf) (gY sB envG l I cf) j (.send .none) s'')))

theorem Tr2.comp {I : Addr} {s s' s'' : Shared} (h1 : ∀ o, s.heap.get? envG.locals = some o → s'.heap.get? envG.locals = some o) (h2 : ∀ o, s.heap.get? I = some o → s'.heap.get? I = some o) (h3 : ∀ o, s.heap.get? l = some o → s'.heap.get? l = some o) (t : Tr2 sB envG l I s' s'') : Tr2 sB envG l I s s'' :=
  ⟨fun o e => t.L o (h1 o e), fun o e => t.I o (h2 o e), fun o e => t.l o (h3 o e), t.kp⟩

theorem none_up {s0 s : Shared} (k : Kp s0 s) {b : Addr} (hb : s.heap.get? b = none) : s0.heap.get? b = none := by
  cases e : s0.heap.get? b with
  | none => rfl
  | some o => rw [k.hp _ _ e] at hb; exact nomatch hb
theorem old_ne {h : Heap} {b c : Addr} {o : Obj} (e : h.get? b = some o) (n : h.get? c = none) : b ≠ c := fun hh => by rw [hh, n] at e; exact nomatch e

/-- the iterator inside the generator, as the consumer sees it -/
structure SzI (env : Env) (s s' : Shared) (O' : Os') (a l I : Addr) : Prop where
  tf : ¬ Tf env I
  own : ¬ inO O' I
  new : s.heap.get? I = none
  nA : I ≠ a
  nL : I ≠ l
  dt : ∀ o, s'.heap.get? I = some o → ∀ vs n, o.data ≠ .seq vs n

theorem run_step {m : Nat} {c c' : Cfg} {x e : Int} {acc out : List Int} (hg : gstep c = some (x, c')) (h : run (m + 1) c e acc = some out) : (((acc.length : Int) + 1) = e ∧ acc ++ [x] = out) ∨ (¬ ((acc.length : Int) + 1) = e ∧ run m c' e (acc ++ [x]) = some out) := by
  unfold run at h
  rw [hg] at h
  simp only at h
  by_cases hc : ((acc.length : Int) + 1) = e
  · rw [if_pos hc] at h; exact .inl ⟨hc, Option.some.inj h⟩
  · rw [if_neg hc] at h; exact .inr ⟨hc, h⟩
theorem run_stop {m : Nat} {c : Cfg} {e : Int} {acc out : List Int} (hg : gstep c = none) (h : run (m + 1) c e acc = some out) : acc = out := by
  unfold run at h
  rw [hg] at h
  exact Option.some.inj h

/-- the generator's turn leaves the consumer's things alone -/
theorem sz_turned {W : Ws} {s s' t : Shared} {O O' : Os'} {I : Addr} {st : GenState} (hf : FR sB s0 cx env Fc) (hs0 : Kp s0 s) (hLs : s.heap.get? envG.locals = none) (hsr : SR s0 cx env Fc s' O' W) (hkt : Kt env O s s')
    (hdL : ∀ o, s'.heap.get? envG.locals = some o → ∀ vs n, o.data ≠ .seq vs n) (hTL : ¬ Tf env envG.locals) (hI : SzI env s s' O' a l I) (gl : s0.gens.size ≤ g) (gs : s.gens.size ≤ g)
    (hk : ∀ b o, b ≠ envG.locals → b ≠ I → s'.heap.get? b = some o → t.heap.get? b = some o) (tk : s'.toks ≤ t.toks) (os : t.os = s'.os) (gn : t.gens = (s'.gens.setIfInBounds g .running).setIfInBounds g st) (hb : st.bare = true) :
    SR s0 cx env Fc t O' W ∧ Kt env O s t :=
  ⟨hsr.upG hf hdL hI.dt hTL hI.tf (none_up hs0 hLs) (none_up hs0 hI.new) tk os (by
    rw [gn]
    exact cps fun P hP => (hsr.base.setGen (g := g) (st := .running) gl rfl).gn.elim fun t1 h1 => hP (gens_set h1.1 h1.2 gl hb)) hk,
   ⟨fun b o hb' e => hk b o (old_ne e hLs) (old_ne e hI.new) (hkt.hp b o hb' e), Nat.le_trans hkt.tk tk, by
    rw [gn]
    exact gens_set1 (gens_set1 (st := .running) hkt.gn gs) gs⟩⟩

section
variable {A : Around} {s : Shared} {O : Os'} {ru : V} {e : Int} {ds : List D} {out : List Int} {N : Nat} {m : Nat} {s' : Shared} {O' : Os'} {c : Cfg} {acc : List Int} {v_ : V} {I : Addr}

theorem sz_stop {s₁ : Shared} {h' : Heap} (hf : FR sB s0 cx env Fc) (hs0 : Kp s0 s) (hLs : s.heap.get? envG.locals = none)
    (h : Jv prog w A sB s0 cx env envG Fc l a vs xs cf p g ru e ds out N s O (m + 1) s' O' c acc v_) (hI : SzI env s s' O' a l I)
    (hp : gP envG I cf (m + 1) (s'.setGen g .running) s₁) (hk : ∀ b o, s₁.heap.get? b = some o → h'.get? b = some o) :
    PostS s0 cx env Fc s O (fun o => ∃ v, o = .go (WS ru e ds (out.map D.int) v)) .next { s₁.setGen g .finished with heap := h' } :=
  cps fun P hP => hp.1.elim fun c1 hc => by
    have hcc : c = c1 := Option.some.inj (h.hc.symm.trans hc.1)
    have ha := run_stop (hcc ▸ hc.2) h.hr
    have ht := sz_turned (t := { s₁.setGen g .finished with heap := h' }) (st := .finished) hf hs0 hLs h.sr h.kt h.dL h.sL.tf hI h.gl h.gs (fun b o h1 h2 e => hk b o (hp.2.hp b o h1 h2 e)) hp.2.tk hp.2.os (congrArg (fun x : Array GenState => x.setIfInBounds g GenState.finished) hp.2.gn) rfl
    rw [ha] at ht
    exact hP (post_go ⟨v_, rfl⟩ ht.2 ht.1 h.os)

theorem sz_yield {s₁ : Shared} {v : Value} {gs gs' : GenState} {y : Str} {yp : Pos} {by_ : Bool} {body : List Stmt} {Q : Flow → Shared → Prop} {E : Value → Shared → Prop}
    (hA : AOk L A) (hG : GOk prog w sB mg mb L XB.G) (hf : FR sB s0 cx env Fc) (hy : cx.vars[4]? = some (y, by_)) (hchk : okB XB cx szB body) (hN : N ≤ 100000)
    (hs0 : Kp s0 s) (hLs : s.heap.get? envG.locals = none)
    (hcf : ∀ n c x c', cf (n + 1) = some c → gstep c = some (x, c') → cf n = some c') (haL : a ≠ envG.locals) (hl1 : l ≠ envG.locals)
    (h : Jv prog w A sB s0 cx env envG Fc l a vs xs cf p g ru e ds out N s O (m + 1) s' O' c acc v_) (hI : SzI env s s' O' a l I) (hgs : s'.gens[g]? = some gs) (hb : gs'.bare = true)
    (hv : gY sB envG l I cf m (s'.setGen g .running) v s₁ (fun r' s'' => gs'.Goes (model prog w) A.in1 (gR envG I cf) (gY sB envG l I cf) m r' s''))
    (hR : ∀ s', PostS s0 cx env Fc s O (fun o => ∃ v, o = .go (WS ru e ds (out.map D.int) v)) .next s' → Q .brk s')
    (hJ : ∀ s' O' c acc v, Jv prog w A sB s0 cx env envG Fc l a vs xs cf p g ru e ds out N s O m s' O' c acc v → Q .next s') :
    wpAny (model prog w) A (assign (.Name y yp) env v) (fun _ s₂ => wpAny (model prog w) A (execs body env) Q E s₂) E (s₁.setGen g gs') := by
  refine cps fun P hP => ?_
  obtain ⟨⟨c1, x, c', hc1, hg, t, hvt⟩, htr, ⟨⟨mL, hnL⟩, kI, hIt⟩, hkap⟩ := hv
  refine hP ?_
  have hcc : c = c1 := Option.some.inj (h.hc.symm.trans hc1)
  rw [← hcc] at hg
  rw [hvt]
  have hk1 : ∀ b o, b ≠ envG.locals → b ≠ I → s'.heap.get? b = some o → (s₁.setGen g gs').heap.get? b = some o := htr.hp
  have ht := sz_turned (t := s₁.setGen g gs') hf hs0 hLs h.sr h.kt h.dL h.sL.tf hI h.gl h.gs hk1 htr.tk htr.os (congrArg (fun x : Array GenState => x.setIfInBounds g gs') htr.gn) hb
  refine wpAny_assign_Name (wpAny_mono (wp_setv hf ht.1 (Kp.refl _) hy (VR.int x t)) (fun _ s₃ h₃ => ?_) fun _ _ e => e)
  have hos₃ : Osub O (O'.set 4 none) s := h.os.trans (Osub_set 4) ht.2.hp h₃.2.1.inO_notTf
  have hlen : (acc.map D.int).length = acc.length := List.length_map ..
  have hmap : acc.map D.int ++ [D.int x] = (acc ++ [x]).map D.int := by simp
  have hw := fun E' => wpss (A := A) (E := E') hG (fun n p hp => nomatch hp) hf szB hchk.1 hA h₃.2.1 (sz_body (R := fun o => (((acc.length : Int) + 1) = e ∧ o = .brk (WS ru e ds ((acc ++ [x]).map D.int) (.val (.int x)))) ∨ (¬ ((acc.length : Int) + 1) = e ∧ o = .go (WS ru e ds ((acc ++ [x]).map D.int) (.val (.int x))))) (by rw [hlen]; have := h.hb; omega)
    (fun hc => .inl ⟨by rw [hlen] at hc; exact hc, by rw [hmap]⟩) (fun hc => .inr ⟨by rw [hlen] at hc; exact hc, by rw [hmap]⟩))
  rw [hchk.2] at hw
  refine wpAny_mono (hw _) (fun f s₄ h₄ => cps fun P hP => ?_) fun _ _ e => e
  have hkt₃' : Kt env O s s₃ := ht.2.trans h₃.1 h.os
  obtain ⟨o, hRb, hkt₄, hok⟩ := h₄
  have hkt : Kt env O s s₄ := hkt₃'.trans hkt₄ hos₃
  rcases run_step hg h.hr with ⟨hc, hrun⟩ | ⟨hc, hrun⟩
  · rcases hRb with ⟨_, ho⟩ | ⟨hc', _⟩
    · rw [ho] at hok
      obtain ⟨hfe, O'', hsr₄, hos₄⟩ := hok.brk_inv
      rw [hfe] at hP
      rw [hrun] at hsr₄
      exact hP (hR _ (post_go ⟨_, rfl⟩ hkt hsr₄ (hos₃.trans hos₄ hkt₃'.hp hsr₄.inO_notTf)))
    · exact absurd hc hc'
  · rcases hRb with ⟨hc', _⟩ | ⟨_, ho⟩
    · exact absurd hc' hc
    · rw [ho] at hok
      obtain ⟨hfe, O'', hsr₄, hos₄⟩ := hok.go_inv
      rw [hfe] at hP
      obtain ⟨oL, esL, epL, eoL, hdL, _⟩ := hnL
      obtain ⟨oI, eoI, _, hdI⟩ := hIt
      have sf₁ : ∀ b, b ≠ envG.locals → b ≠ I → Safe s0 env O' s' b → Safe s0 env O' (s₁.setGen g gs') b := fun b h1 h2 hb' => ⟨hb'.live.elim fun o e => ⟨o, hk1 b o h1 h2 e⟩, hb'.tf, hb'.own⟩
      have up : ∀ b, Safe s0 env O' (s₁.setGen g gs') b → Safe s0 env O'' s₄ b := fun b hb' => (hb'.up h₃.1 (Osub_set 4)).up hkt₄ hos₄
      have kp4 : ∀ b, Safe s0 env O' (s₁.setGen g gs') b → ∀ o, (s₁.setGen g gs').heap.get? b = some o → s₄.heap.get? b = some o := fun b hb' o e => (hb'.up h₃.1 (Osub_set 4)).keep hkt₄ o (hb'.keep h₃.1 o e)
      have sL : Safe s0 env O' (s₁.setGen g gs') envG.locals := ⟨⟨_, eoL⟩, h.sL.tf, h.sL.own⟩
      have sI : Safe s0 env O' (s₁.setGen g gs') I := ⟨⟨_, eoI⟩, hI.tf, hI.own⟩
      have sa := sf₁ a haL (Ne.symm hI.nA) h.sa
      have sl := sf₁ l hl1 (Ne.symm hI.nL) h.sl
      have hlt : g < (s'.setGen g .running).gens.size := by
        have := (Array.getElem?_eq_some_iff.mp hgs).1
        show g < (s'.gens.setIfInBounds g .running).size
        simpa using this
      have hgg : (s₁.setGen g gs').gens[g]? = some gs' := by
        show (s₁.gens.setIfInBounds g gs')[g]? = some gs'
        rw [htr.gn]
        simp [hlt]
      have data : ∀ {b : Addr} {o o' : Obj} {d : Data}, s₄.heap.get? b = some o → o.data = d → (∀ vs n, d ≠ .seq vs n) → s₄.heap.get? b = some o' → ∀ vs n, o'.data ≠ .seq vs n := fun e hd hn e' => Option.some.inj (e.symm.trans e') ▸ hd ▸ hn
      exact hP (hJ s₄ O'' c' (acc ++ [x]) (.val (.int x)) {
        hc := hcf m _ _ _ h.hc hg
        hr := hrun
        hb := by have := h.hb; simp; omega
        sr := hsr₄
        kt := hkt
        os := hos₃.trans hos₄ hkt₃'.hp hsr₄.inO_notTf
        gen := h.gen.elim fun o h => h.elim fun nm h => h.elim fun qn h => ⟨o, nm, qn, kp4 a sa o (hk1 a o haL (Ne.symm hI.nA) h.1), h.2⟩
        gl := h.gl
        gs := h.gs
        li := h.li.elim fun k e => ⟨k, kp4 l sl _ (hk1 l _ hl1 (Ne.symm hI.nL) e)⟩
        sa := up a sa
        sl := up l sl
        sL := up _ sL
        dL := fun o e => data (kp4 _ sL _ eoL) hdL (fun _ _ e => nomatch e) e
        rd := ⟨gs', gens_keep hkt₄.gn (gens_keep h₃.1.gn hgg), .inr ⟨I, up I sI, fun o e => data (kp4 _ sI _ eoI) hdI (fun _ _ e => nomatch e) e, hI.new, hI.nA, hI.nL, fun hj s'' ht2 =>
          hkap hj s'' (Tr2.comp (fun o e => kp4 _ sL o e) (fun o e => kp4 _ sI o e) (fun o e => kp4 _ sl o e) ht2)⟩⟩ })
end

theorem sz_loop {A : Around} {E : Value → Shared → Prop} {s : Shared} {O : Os'} {ru : V} {e : Int} {ds : List D} {out : List Int} {N : Nat} {y : Str} {yp : Pos} {by_ : Bool} {body : List Stmt} {R : Result → Shared → Prop} {T : Out → Prop}
    (hA : AOk L A) (hG : GOk prog w sB mg mb L XB.G) (hf : FR sB s0 cx env Fc) (hy : cx.vars[4]? = some (y, by_)) (hchk : okB XB cx szB body) (hN : N ≤ 100000) (hlim : sB.heap.NoLimit)
    (hgf : ∀ I, I ≠ l → I ≠ envG.locals → GF sB mg envG l I vs xs) (hgr : envG.kindOf "grouping" = some .local) (hLn : sB.heap.get? envG.locals = none) (hs0 : Kp s0 s) (hLs : s.heap.get? envG.locals = none) (hco : envG.scope.isCoroutine = false)
    (hcf : ∀ n c x c', cf (n + 1) = some c → gstep c = some (x, c') → cf n = some c') (hne : ∀ r, xs ≠ 0 :: r) (haL : a ≠ envG.locals) (hl1 : l ≠ envG.locals)
    (hR : ∀ s', PostS s0 cx env Fc s O (fun o => ∃ v, o = .go (WS ru e ds (out.map D.int) v)) .next s' → R (.ok .next) s')
    (j : Nat) {s' : Shared} {O' : Os'} {c : Cfg} {acc : List Int} {v : V} (h : Jv prog w A sB s0 cx env envG Fc l a vs xs cf p g ru e ds out N s O j s' O' c acc v) :
    codeAny (model prog w) A (.forLoop (.Name y yp) (.ref a) body [] env) R s' := by
  refine codeAny_forLoop (fun j s' => ∃ O' c acc v, Jv prog w A sB s0 cx env envG Fc l a vs xs cf p g ru e ds out N s O j s' O' c acc v) ?_ j ⟨O', c, acc, v, h⟩
  clear h v acc c O' s' j
  intro j s' h
  refine cps fun P hP => ?_
  obtain ⟨O', c, acc, v_, h⟩ := h
  refine hP ?_
  clear hP P
  cases j with
  | zero => exact nomatch h.hr
  | succ m =>
    have hkB : Kp sB s' := hf.sb.trans h.sr.base
    -- the turn
    suffices hh : ∃ I gs, SzI env s s' O' a l I ∧ s'.gens[g]? = some gs ∧ gs.Goes (model prog w) A.in1 (gR envG I cf) (gY sB envG l I cf) (m + 1) (.send .none) (s'.setGen g .running) from
      hh.elim fun I hh => hh.elim fun gs hh =>
      pyNext_genQ (n := m + 1) (P := gP envG I cf) (Y := gY sB envG l I cf) hA.1 (hlim.keeps hkB.hp) (by have := hA.2.1; omega) h.gen hh.2.1 hh.2.2
        (fun v s₁ gs' hb hv => sz_yield hA hG hf hy hchk hN hs0 hLs hcf haL hl1 h hh.1 hh.2.1 hb hv hR fun s' O' c acc v h => ⟨m, Nat.lt_succ_self m, O', c, acc, v, h⟩)
        (fun s₁ hp h' hk => wpAny_execs_nil (hR _ (sz_stop hf hs0 hLs h hh.1 hp hk)))
    refine cps fun P hP => ?_
    obtain ⟨gs, hgs, hcase⟩ := h.rd
    rcases hcase with ⟨hge, hce, mm, hn, hm, hkk⟩ | ⟨I, hsI, hdI, h0I, hIa, hIl, hgo⟩
    · obtain ⟨k, hl⟩ := h.li
      have hsz : s'.heap.get? s'.heap.objs.size = none := fresh_none
      have hkr : Kp sB (s'.setGen g .running) := hf.sb.trans (h.sr.base.setGen h.gl rfl)
      have hlv : ∀ {b : Addr}, (∃ o, s'.heap.get? b = some o) → b ≠ s'.heap.objs.size := fun h => h.elim fun o e => old_ne e hsz
      refine hP ⟨s'.heap.objs.size, _, ⟨fun ht => hlv (h.sr.live hf _ (.inr (.inl ht))) rfl, fun ht => hlv (h.sr.live hf _ (.inr (.inr ht))) rfl, ?_, Ne.symm (hlv h.sa.live), Ne.symm (hlv ⟨_, hl⟩), fun o e => nomatch hsz.symm.trans e⟩, hgs, ?_⟩
      · cases e : s.heap.get? s'.heap.objs.size with
        | none => rfl
        | some o => exact nomatch hsz.symm.trans (hkk _ _ e)
      · rw [hge]
        have hc := h.hc
        rw [hce] at hc
        exact ⟨rfl, funcSeg (k := k) hA.1 hgf hgr hLn hco hcf hkr hn hm hl hc hne⟩
    · exact hP ⟨I, gs, ⟨hsI.tf, hsI.own, h0I, hIa, hIl, hdI⟩, hgs, hgo (Nat.succ_ne_zero m) _ ⟨fun _ e => e, fun _ e => e, fun _ e => e, hf.sb.trans (h.sr.base.setGen h.gl rfl)⟩⟩
end
end Mp
end

section
open PySem PySem.W PyProof.Rows PySem.Calls
set_option maxRecDepth 100000
set_option linter.unusedVariables false
set_option linter.unusedSimpArgs false
set_option linter.unusedSectionVars false
namespace Mp
theorem vars_sizes : (cxOf (fnS "_law_sizes")).vars = [(("ruler" : Str), false), (("enough" : Str), false), (("handed" : Str), false), (("sizes" : Str), false), (("size" : Str), false)] := by kernel_rfl
theorem good_sizes : scopeGood (fnS "_law_sizes") ["ruler", "enough"] = true := by kernel_rfl

noncomputable def cSz : Cx := cxOf (fnS "_law_sizes")
/-- the loop over the generator, as the program has it -/
noncomputable def szRaw : Stmt := (fnB "_law_sizes").getD 2 default
noncomputable def szBody : List Stmt := (partS szRaw).a
noncomputable def szArg : Expr := kid (vE szRaw) 1
noncomputable def szX : Stmt := .For (.Name (nmV cSz 4) (tE szRaw).pos) (.Call (.Name "_grouping_intervals" (kid (vE szRaw) 0).pos) (emits XB.G [.var 2] cSz [szArg]) [] (vE szRaw).pos) szBody [] szRaw.pos
theorem szX_ok : isVar cSz 4 (nmV cSz 4) = true ∧ gname cSz "_grouping_intervals" (some "_grouping_intervals") = true ∧ oks XB.G [.var 2] cSz [szArg] = true := ⟨by kernel_rfl, by kernel_rfl, by kernel_rfl⟩
theorem chk_szB : okB XB cSz szB szBody := ⟨by kernel_rfl, by kernel_rfl⟩
noncomputable def szPt (W : Ws) (R : Out → Prop) : Prop := ∃ (ru v : V) (e : Int) (xs : List Int) (n : Nat) (out : List Int), W = WS ru e (xs.map D.int) [] v ∧ (∀ r, xs ≠ 0 :: r) ∧ n ≤ 100000 ∧ run n (.top xs none) e [] = some out ∧
  ∀ v', R (.go (WS ru e (xs.map D.int) (out.map D.int) v'))
noncomputable def XS : Xt := ⟨⟨vals0, bis0, [("_law_whole", cWhole)]⟩, [(szX, szPt)]⟩
noncomputable def ir_sizes_3 : List S := [.ret (.ite (.cmp .Eq (.var 2) (.var 0)) (.var 3) (.lst [.neg 2]))]
noncomputable def ir_sizes_2 : List S := .orc 0 :: ir_sizes_3
noncomputable def ir_sizes_1 : List S := .own 3 (.lst []) :: ir_sizes_2
noncomputable def ir_sizes : List S := .asn 2 (.slA (.var 0)) :: ir_sizes_1
theorem chk_sizes : okB XS (cxOf (fnS "_law_sizes")) ir_sizes (fnB "_law_sizes") := ⟨by kernel_rfl, by kernel_rfl⟩
end Mp
end

section
open PySem PySem.W PyProof.Rows PySem.Calls
set_option maxRecDepth 100000
set_option linter.unusedVariables false
set_option linter.unusedSimpArgs false
set_option linter.unusedSectionVars false
namespace Mp

/-- the generator's def, as the heap has it -/
structure GDef (sB : Shared) (mg : Str → Option Value) (ga : Addr) (o : Obj) (fd : FuncData) : Prop where
  hm : mg "_grouping_intervals" = some (.ref ga)
  ho : sB.heap.get? ga = some o
  hd : o.data = .func fd
  body : fd.body = .stmts (fnB "_grouping_intervals")
  scope : fd.scope = fnS "_grouping_intervals"
  gl : fd.globals = mainGlobals
  bl : fd.builtins = builtinsNs
  cl : fd.closure = []
  cd : sB.heap.CodeRec fd.code fd.qualname
  bind : ∀ v : Value, bindArgs fd ⟨[v], []⟩ = pure [(("grouping" : Str), v)]
  cm : ∃ t, mg "CHAR_MAX" = some (.int 127 t)

theorem ints_rel {s : Shared} {F : Addr → Prop} : ∀ {xs : List Int} {vs : List Value}, VRs s F vs (xs.map D.int) → vs.length = xs.length ∧ ∀ (i : Nat) x, xs[i]? = some x → ∃ t, vs[i]? = some (.int x t)
  | [], _, .nil => ⟨rfl, by simp⟩
  | x :: xs, _, .cons h r => by
    obtain ⟨h1, h2⟩ := ints_rel r
    cases h with
    | int _ t =>
      refine ⟨by simp [h1], fun i y hy => ?_⟩
      cases i with
      | zero => simp at hy; subst hy; exact ⟨t, rfl⟩
      | succ i => exact h2 i y (by simpa using hy)

theorem scope_gen : (fnS "_grouping_intervals").kind = .function ∧ (fnS "_grouping_intervals").isCoroutine = false ∧ (fnS "_grouping_intervals").isGenerator = true ∧ (fnS "_grouping_intervals").names.lookup (Str.ofString "grouping") = some .local ∧
    (fnS "_grouping_intervals").names.lookup (Str.ofString "last_interval") = some .local ∧ (fnS "_grouping_intervals").names.lookup (Str.ofString "interval") = some .local ∧ (fnS "_grouping_intervals").names.lookup (Str.ofString "CHAR_MAX") = some .globalImplicit := ⟨rfl, rfl, rfl, rfl, rfl, rfl, rfl⟩
theorem nocell_gen : ∀ x ∈ (fnS "_grouping_intervals").names, x.2 ≠ .cell := by decide +kernel
end Mp
end

section
open PySem PySem.W PyProof.Rows PySem.Calls
set_option maxRecDepth 100000
set_option linter.unusedVariables false
set_option linter.unusedSimpArgs false
set_option linter.unusedSectionVars false
namespace Mp
section
variable {prog : Program} {w : World} {sB s0 : Shared} {mg mb : Str → Option Value} {L : Nat} {env : Env} {Fc : Addr → Prop} {ga : Addr} {o : Obj} {fd : FuncData}

theorem gl_notin {s : Shared} {O : Os'} {W : Ws} (hf : FR sB s0 cSz env Fc) (h : SR s0 cSz env Fc s O W) {b : Addr} (hb : s.heap.get? b = none) : ¬ Tf env b ∧ ¬ inO O b := by
  refine ⟨fun ht => ?_, fun hi => ?_⟩
  · obtain ⟨o, e⟩ := h.live hf b (.inr (.inl ht)); rw [hb] at e; cases e
  · obtain ⟨o, e⟩ := h.live hf b (.inr (.inr hi)); rw [hb] at e; cases e

/-- the generator, called -/
structure GC (sB : Shared) (mg : Str → Option Value) (s s₃ : Shared) (envG : Env) (l a g : Nat) (vs : List Value) (k : Nat) (xs : List Int) (pp : GP) (Fr : Addr → Prop) : Prop where
  kp : Kp s s₃
  gen : s₃.heap.IsGen a g
  gs : s₃.gens[g]? = some (.fresh (.func (gBody pp) envG))
  ns : s₃.heap.Ns envG.locals (fun x => [(("grouping" : Str), Value.ref l)].reverse.lookup x)
  lo : s₃.heap.get? l = some (lob vs k)
  nl : ¬ Fr l
  es : envG.scope = fnS "_grouping_intervals"
  eb : envG.builtins = builtinsNs
  fr : envG.frame = some envG.locals
  al : a ≠ envG.locals
  nL : s.heap.get? envG.locals = none
  na : s.heap.get? a = none
  sz : s.gens.size ≤ g
  gf : ∀ I, I ≠ l → I ≠ envG.locals → GF sB mg envG l I vs xs
  ll : l ≠ envG.locals
  hb : s₃.heap.Ns mainGlobals mg

theorem gens_le {a b : Array GenState} (h : ∃ t : List GenState, b.toList = a.toList ++ t) : a.size ≤ b.size := by
  obtain ⟨t, e⟩ := h
  have := congrArg List.length e
  rw [List.length_append] at this
  exact Nat.le_trans (Nat.le_add_right a.toList.length t.length) (Nat.le_of_eq this.symm)
theorem none_of {s s' : Shared} (k : Kp s s') {b : Addr} (h : s'.heap.get? b = none) : s.heap.get? b = none := by
  cases e : s.heap.get? b with
  | none => rfl
  | some o => rw [k.hp _ _ e] at h; cases h
theorem none_above {h : Heap} {b : Addr} (hb : h.objs.size ≤ b) : h.get? b = none := by
  cases e : h.get? b with
  | none => rfl
  | some o => exact absurd (Heap.lt_size e) (Nat.not_lt.mpr hb)

theorem sz_call (hG : GOk prog w sB mg mb L XB.G) (hD : GDef sB mg ga o fd) (hlim : sB.heap.NoLimit) (hf : FR sB s0 cSz env Fc) {A : Around} {s : Shared} {O : Os'} {ru v : V} {e : Int} {xs : List Int} {Q : Flow → Shared → Prop} {E : Value → Shared → Prop} (hA : AOk L A)
    (hr : SR s0 cSz env Fc s O (WS ru e (xs.map D.int) [] v))
    (h : ∀ s₃ envG l a g vs k pp, GC sB mg s s₃ envG l a g vs k xs pp (Ft Fc env O) → codeAny (model prog w) A (.forLoop (.Name (nmV cSz 4) (tE szRaw).pos) (.ref a) szBody [] env) (fun r s' => match r with | .ok f => Q f s' | .error e => cameBackBy (model prog w) A env E e s') s₃) :
    wpAny (model prog w) A (exec szX env) Q E s := by
  obtain ⟨_, h2, h3⟩ := szX_ok
  have her := hr.er_hid hf
  refine wpAny_For ?_ (by intro _; rfl)
  refine wp_calld hD.hd (by rfl) (wp_global hG her h2 hD.hm ⟨rfl, ?_⟩)
  have hpes : pes XB.G [.var 2] (hid (WS ru e (xs.map D.int) [] v)) (fun ds => ds = [.list (xs.map D.int)]) := rfl
  refine mono_l (wpes hG [.var 2] h3 rfl hA her hpes) fun ws s₁ ds _ hds hws k₁ => ?_
  rw [hds] at hws
  obtain ⟨vv, rfl, hv⟩ := hws.one_inv
  obtain ⟨l, k, vs, rfl, hl, hnl, hvs⟩ := hv.list_inv
  have hkB := hf.sb.trans (hr.base.trans k₁)
  refine ⟨hkB.hp _ _ hD.ho, ?_⟩
  obtain ⟨hsk, hsco, hsgen, hsg, hsl, hsi, hsc⟩ := scope_gen
  refine wpAny_call (codeAny_call_generator (by have := hA.2.1; omega) (hkB.hp _ _ hD.ho) hD.hd (by rw [hD.scope]; exact hsco) (by rw [hD.scope]; exact hsgen) hD.body (hD.cd.keeps hkB.hp) ?_)
  rw [hD.bind, hD.gl, hD.bl, hD.cl, hD.scope]
  refine wpAny_pure ?_
  refine with_tk (wpAny_newFunctionEnv nocell_gen (by intro x hx; rw [List.mem_singleton] at hx; subst hx; exact hsg) (fun h' hns hsb htk => ?_) hsk)
  have hk' : ∀ b o, s₁.heap.get? b = some o → h'.get? b = some o := fun b o e =>
    (hsb.2 b (some_ne e (Nat.le_refl _))).trans (Heap.get?_push_of_some _ e)
  have hsz' : h'.objs.size = s₁.heap.objs.size + 1 := hsb.1.trans (Heap.size_push ..)
  obtain ⟨pp, hpp⟩ := gbody_form
  rw [hpp]
  refine ⟨hlim.keeps fun b o q => hk' b o (hkB.hp b o q), ?_⟩
  have hkp₃ : Kp s₁ _ := Kp.mk (s' := { s₁ with gens := s₁.gens.push (.fresh (.func (gBody pp) (newEnv (fnS "_grouping_intervals") s₁.heap.objs.size mainGlobals [] (fd.qualname ++ ".<locals>.") (some ga) fd.code none builtinsNs))), toks := s₁.toks + 1 + 1 + 1, heap := h'.push { cls := .type "generator", data := .fields #[.int s₁.gens.size 0, .str fd.name (s₁.toks + 1), .str fd.qualname (s₁.toks + 1 + 1)] } })
    (fun b o e => Heap.get?_push_of_some _ (hk' b o e)) (Nat.le_add_right _ 3) rfl ⟨[_], Array.toList_push, fun y hy => by rw [List.mem_singleton] at hy; subst hy; rfl⟩
  have hgen : Heap.IsGen _ h'.objs.size s₁.gens.size := ⟨_, _, _, Heap.get?_push_size h' (o := { cls := .type "generator", data := .fields #[.int s₁.gens.size 0, .str fd.name (s₁.toks + 1), .str fd.qualname (s₁.toks + 1 + 1)] }) rfl, rfl, rfl, rfl⟩
  have hll : l ≠ s₁.heap.objs.size := some_ne hl (Nat.le_refl _)
  refine wpAny_pyIter_gen hgen (h _ _ l h'.objs.size s₁.gens.size vs k pp { kp := k₁.trans hkp₃, gen := hgen, gs := Array.getElem?_push_size .., ns := hns.push _, lo := hkp₃.hp _ _ hl, nl := hnl, es := rfl, eb := rfl, fr := rfl, al := ?_, nL := none_of k₁ fresh_none, na := none_of k₁ (none_above ?_), sz := gens_le k₁.gx, gf := fun I hI1 hI2 => ?_, ll := hll, hb := hG.g.keeps (hkB.trans hkp₃).hp })
  · rw [hsz']; exact Nat.succ_ne_self _
  · rw [hsz']; exact Nat.le_succ _
  · obtain ⟨hvl, hvi⟩ := ints_rel hvs
    exact { kind := rfl, gl := rfl, last := hsl, intv := hsi, cmax := hsc, g := hG.g, cm := hD.cm, items := hvi, len := hvl, lI := Ne.symm hI1, lL := hll, IL := hI2 }

theorem sz_orc (hG : GOk prog w sB mg mb L XB.G) (hD : GDef sB mg ga o fd) (hlim : sB.heap.NoLimit) (hf : FR sB s0 cSz env Fc) {A : Around} : OrcOk prog w s0 L XS cSz env Fc A := by
  intro n p hp W R s O E hA hr hw
  have hp : p = (szX, szPt) := by
    cases n with
    | zero => exact (Option.some.inj hp).symm
    | succ n => exact nomatch hp
  subst hp
  obtain ⟨ru, v, e, xs, n, out, rfl, hne, hn, hrun, hR⟩ := hw
  obtain ⟨bk, hk4⟩ := isVar_get szX_ok.1
  refine sz_call hG hD hlim hf hA hr fun s₃ envG l a g vs k pp c => ?_
  have hgl := fun b h => gl_notin hf hr (b := b) h
  have hs0n : s0.heap.get? envG.locals = none := none_of hr.base c.nL
  have hns := c.ns
  refine sz_loop (cf := cfOf (.top xs none) n) (xs := xs) (vs := vs) (l := l) (a := a) (g := g) (p := pp) (envG := envG) (N := n) (out := out) (ru := ru) (e := e) (ds := xs.map D.int) (T := R) (s := s) (O := O) (O' := O) (E := E) hA hG hf hk4 chk_szB hn hlim
    c.gf (by unfold Env.kindOf; rw [c.es]; rfl) (none_of hf.sb hs0n) hr.base c.nL (by rw [c.es]; exact scope_gen.2.1) (cfOf_step _ _) hne c.al c.ll (fun s' h => ?_) n (c := .top xs none) (acc := []) (v := v) ?_
  · obtain ⟨o, ⟨v', rfl⟩, r⟩ := h
    exact ⟨_, hR v', r⟩
  · exact {
      hc := cfOf_top _ _
      hr := hrun
      hb := Nat.le_of_eq (Nat.zero_add n)
      sr := hr.up c.kp
      kt := Kt.of c.kp
      os := Osub.refl _ _
      gen := c.gen
      gl := Nat.le_trans (gens_le hr.base.gx) c.sz
      gs := c.sz
      li := ⟨k, c.lo⟩
      sa := ⟨let ⟨o, _, _, e, _⟩ := c.gen; ⟨o, e⟩, (hgl a c.na).1, (hgl a c.na).2⟩
      sl := ⟨⟨_, c.lo⟩, fun t => c.nl (.inr (.inl t)), fun i => c.nl (.inr (.inr i))⟩
      sL := ⟨let ⟨o, _, _, e, _⟩ := c.ns; ⟨o, e⟩, (hgl _ c.nL).1, (hgl _ c.nL).2⟩
      dL := by
        intro o e vs' n' hd
        obtain ⟨o', es, ep, eo, hd', _⟩ := hns
        rw [eo] at e; cases e; rw [hd'] at hd; cases hd
      rd := ⟨_, c.gs, .inl ⟨rfl, rfl, _, c.ns, rfl, c.kp.hp⟩⟩ }
end
end Mp
end

section
open PySem PySem.W PyProof.Rows PySem.Calls
set_option maxRecDepth 100000
set_option linter.unusedVariables false
set_option linter.unusedSimpArgs false
set_option linter.unusedSectionVars false
namespace Mp

/-! ## lists that are equal -/
noncomputable def D.of (xs : List Int) : D := .list (xs.map D.int)
theorem ints_good : ∀ xs : List Int, noFlts (xs.map D.int) = true ∧ PyData.canLayAll0 (pys (xs.map D.int)) = true ∧ PyData.depthAll (pys (xs.map D.int)) = 0 ∧ PyData.eqvAll (pys (xs.map D.int)) (pys (xs.map D.int)) = true
  | [] => ⟨rfl, rfl, rfl, rfl⟩
  | x :: xs => by
    obtain ⟨h1, h2, h3, h4⟩ := ints_good xs
    refine ⟨by simp [noFlts, D.noFlt, h1], by simp [pys, D.py, PyData.canLayAll0, PyData.canLay0, h2], by simp [pys, D.py, PyData.depthAll, PyData.depth, h3], by simp [pys, D.py, PyData.eqvAll, PyData.eqv, h4]⟩
theorem intss_good : ∀ xs : List (List Int), noFlts (xs.map D.of) = true ∧ PyData.canLayAll0 (pys (xs.map D.of)) = true ∧ PyData.depthAll (pys (xs.map D.of)) ≤ 1 ∧ PyData.eqvAll (pys (xs.map D.of)) (pys (xs.map D.of)) = true
  | [] => ⟨rfl, rfl, by simp [pys, PyData.depthAll], rfl⟩
  | x :: xs => by
    obtain ⟨h1, h2, h3, h4⟩ := intss_good xs
    obtain ⟨k1, k2, k3, k4⟩ := ints_good x
    refine ⟨by simp [noFlts, D.noFlt, D.of, h1, k1] , by simp [pys, D.py, D.of, PyData.canLayAll0, PyData.canLay0, k2]; exact h2, by simp [pys, D.py, D.of, PyData.depthAll, PyData.depth, k3]; omega, by simp [pys, D.py, D.of, PyData.eqvAll, PyData.eqv, k4]; exact h4⟩
theorem cmp_eq_ints {xs : List Int} {Q : D → Prop} (h : Q (.bool true)) : pcmp .Eq (.list (xs.map D.int)) (.list (xs.map D.int)) Q := by
  obtain ⟨h1, h2, h3, h4⟩ := ints_good xs
  have hs : SeqAt.shaped (D.list (xs.map D.int)).py = true := by simp [SeqAt.shaped, D.py, PyData.canLay0, PyData.depth, h2, h3]
  refine ⟨⟨h1, h1, hs, hs⟩, ?_⟩
  rw [show PyData.eqv (D.list (xs.map D.int)).py (D.list (xs.map D.int)).py = true by simp [D.py, PyData.eqv, h4]]
  exact h
theorem cmp_ne_ints {xs : List Int} {Q : D → Prop} (h : Q (.bool false)) : pcmp .NotEq (.list (xs.map D.int)) (.list (xs.map D.int)) Q := by
  obtain ⟨h1, h2, h3, h4⟩ := ints_good xs
  have hs : SeqAt.shaped (D.list (xs.map D.int)).py = true := by simp [SeqAt.shaped, D.py, PyData.canLay0, PyData.depth, h2, h3]
  refine ⟨⟨h1, h1, hs, hs⟩, ?_⟩
  rw [show PyData.eqv (D.list (xs.map D.int)).py (D.list (xs.map D.int)).py = true by simp [D.py, PyData.eqv, h4]]
  exact h
theorem cmp_ne_intss {xs : List (List Int)} {Q : D → Prop} (h : Q (.bool false)) : pcmp .NotEq (.list (xs.map D.of)) (.list (xs.map D.of)) Q := by
  obtain ⟨h1, h2, h3, h4⟩ := intss_good xs
  have hs : SeqAt.shaped (D.list (xs.map D.of)).py = true := by simp [SeqAt.shaped, D.py, PyData.canLay0, PyData.depth, h2]; omega
  refine ⟨⟨h1, h1, hs, hs⟩, ?_⟩
  rw [show PyData.eqv (D.list (xs.map D.of)).py (D.list (xs.map D.of)).py = true by simp [D.py, PyData.eqv, h4]]
  exact h

/-! ## _law_sizes -/
noncomputable def cSizes : Ctr := fun ds Q => ∃ (xs : List Int) (e : Int) (n : Nat) (out : List Int), ds = [.list (xs.map D.int), .int e] ∧ (∀ r, xs ≠ 0 :: r) ∧ n ≤ 100000 ∧ xs.length ≤ 1000 ∧ run n (.top xs none) e [] = some out ∧ Q (.list (out.map D.int))

theorem ok_sizes (ds : List D) (Q : D → Prop) (h : cSizes ds Q) : ds.length = 2 ∧ pxs XS ir_sizes (initW (cxOf (fnS "_law_sizes")) ds) (retP Q) := by
  obtain ⟨xs, e, n, out, rfl, hne, hn, hl, hr, h⟩ := h
  refine ⟨rfl, ?_⟩
  simp only [initW, vars_sizes, List.length_cons, List.length_nil, Nat.reduceAdd, Nat.reduceSub, List.replicate, List.map_cons, List.map_nil, List.cons_append, List.nil_append]
  unfold ir_sizes
  refine s_asn ?_
  simp only [pe_cst, pe_neg, pe_var, pe_gval, pe_bin, pe_cmp, pe_ite, pe_and, pe_one, pe_bi, pe_fn, pe_meth, pe_item, pe_slA, pe_slL, pe_slU, pe_lst, pe_tup, pe_isint, pe_comp, pe_compif, hid, List.map_cons, List.map_nil, V.hid, List.getElem?_cons_zero, List.getElem?_cons_succ, List.set_cons_zero, List.set_cons_succ]
  refine ⟨by simp; omega, ?_⟩
  unfold ir_sizes_1
  refine s_own ?_
  simp only [N.i, onL, pe_cst, pe_neg, pe_var, pe_gval, pe_bin, pe_cmp, pe_ite, pe_and, pe_one, pe_bi, pe_fn, pe_meth, pe_item, pe_slA, pe_slL, pe_slU, pe_lst, pe_tup, pe_isint, pe_comp, pe_compif, pes_nil, pes_cons, List.set_cons_zero, List.set_cons_succ]
  unfold ir_sizes_2
  refine s_orc (p := (szX, szPt)) rfl ?_
  refine ⟨.val (.list (xs.map D.int)), .no, e, xs, n, out, rfl, hne, hn, hr, fun v' => ?_⟩
  rw [nxt_go]
  unfold ir_sizes_3
  refine s_ret ?_
  simp only [pe_cst, pe_neg, pe_var, pe_gval, pe_bin, pe_cmp, pe_ite, pe_and, pe_one, pe_bi, pe_fn, pe_meth, pe_item, pe_slA, pe_slL, pe_slU, pe_lst, pe_tup, pe_isint, pe_comp, pe_compif, pes_nil, pes_cons, pt_cmp, pt_and, pt_or, pt_one, pt_var, pt_isint, pt_fn, pt_meth, vis, List.map_cons, List.map_nil, V.vis, List.getElem?_cons_zero, List.getElem?_cons_succ]
  refine cmp_eq_ints ?_
  exact h
end Mp
end

section
open PySem PySem.W PyProof.Rows PySem.Calls
set_option maxRecDepth 100000
set_option linter.unusedVariables false
set_option linter.unusedSimpArgs false
set_option linter.unusedSectionVars false
namespace Mp

/-! ## an exception on its way -/
noncomputable def Fly (base : Heap) (l : List Env) (e : Addr) (fl : Value) (h : Heap) : Prop :=
  base.StaysIn h ∧ base.get? e = none ∧ h.FunFrames base l ∧ ∃ a0, h.TracedAtW base e (.type "ValueError") a0 fl
noncomputable def UpAt (b : Addr) (h h' : Heap) : Prop := ∀ o, h.get? b = some o → (∀ vs, o.data ≠ .fields vs) → ∃ sl, h'.get? b = some { o with slots := sl }
theorem UpAt.refl (b : Addr) (h : Heap) : UpAt b h h := fun o e _ => ⟨o.slots, e⟩
theorem UpAt.trans {b : Addr} {h₁ h₂ h₃ : Heap} (x : UpAt b h₁ h₂) (y : UpAt b h₂ h₃) : UpAt b h₁ h₃ := fun o e hn =>
  let ⟨_, e₁⟩ := x o e hn; let ⟨sl, e₂⟩ := y _ e₁ hn; ⟨sl, e₂⟩
theorem UpAt.of {b : Addr} {h h' : Heap} (x : h.UpToSlots h') : UpAt b h h' := fun o e hn => x b o e hn
theorem UpAt.keep {b : Addr} {h h' : Heap} (x : ∀ o, h.get? b = some o → h'.get? b = some o) : UpAt b h h' := fun o e _ => ⟨o.slots, x o e⟩

theorem funFrames_keep {h h' base : Heap} : ∀ {l : List Env}, (∀ env ∈ l, ∀ L, env.frame = some L → ∀ o, h.get? L = some o → h'.get? L = some o) → h.FunFrames base l → h'.FunFrames base l
  | [], _, _ => trivial
  | env :: _, k, ⟨hk, ⟨L, o, hf, hn, ho, hd⟩, hr⟩ => ⟨hk, ⟨L, o, hf, hn, k env (.head _) L hf o ho, hd⟩, funFrames_keep (fun e he => k e (.tail _ he)) hr⟩
theorem funFrames_live {h base : Heap} {l : List Env} (hl : h.FunFrames base l) : ∀ env ∈ l, ∀ L, env.frame = some L → ∃ o, h.get? L = some o := by
  induction l with
  | nil => intro env he; cases he
  | cons e r ih =>
    intro env he L hf
    obtain ⟨_, ⟨L', o, hf', _, ho, _⟩, hr⟩ := hl
    rcases List.mem_cons.mp he with rfl | he
    · rw [hf'] at hf; cases hf; exact ⟨o, ho⟩
    · exact ih hr env he L hf

section
variable {M : Model} {A : Around} {E : Value → Shared → Prop} {s : Shared} {base : Heap} {env : Env} {l outer : List Env} {L e : Addr} {fl : Value} {Q : Unit → Shared → Prop}

theorem fly_first {h : Heap} {args : List Value} (hfr : A.frames = some (env :: outer)) (hf : env.frame = some L) (hkb : base.StaysIn h) (hl : h.FunFrames base (env :: outer)) (hx : Heap.MadeExcOf h s.heap e (.type "ValueError") args)
    (hQ : ∀ h', Fly base (env :: outer) e (rawInt L) h' → s.heap.UpToSlots h' → Q () { s with heap := h' }) : wpAny M A (noteFrame (.ref e) env) Q E s := by
  obtain ⟨t, he, htn, ht⟩ := hx.there
  have fresh : ∀ b, h.get? b = none → base.get? b = none := fun b hb => by
    cases hq : base.get? b with
    | none => rfl
    | some o' => have := hkb b o' hq; rw [hb] at this; cases this
  unfold noteFrame
  simp only [hf]
  refine wpAny_bind (wpAny_field (x := Value.none) he rfl rfl ?_)
  rw [if_neg (by decide)]
  refine wpAny_entryW (a0 := .ref t) hfr (hl.of_keeps fun b o hb _ => ⟨o, hx.keeps b o hb, rfl⟩) hf he (fun b o hb => hx.keeps b o (hkb b o hb)) (fresh e hx.new) rfl (by simp) rfl fun h' hN => ?_
  obtain ⟨k1, k2, k3, k4⟩ := hN
  exact hQ h' ⟨k1, fresh e hx.new, k2, _, k3⟩ k4

theorem fly_next (hfr : A.frames = some (env :: outer)) (hf : env.frame = some L) (hfl : Fly base (env :: outer) e .none s.heap)
    (hQ : ∀ h', Fly base (env :: outer) e (rawInt L) h' → s.heap.UpToSlots h' → Q () { s with heap := h' }) : wpAny M A (noteFrame (.ref e) env) Q E s := by
  obtain ⟨f1, f2, f3, a0, f4⟩ := hfl
  refine wpAny_looks_onW hfr hf ⟨f1, f2, f3, f4⟩ fun h' ⟨k1, k2, k3, k4⟩ k5 => hQ h' ⟨k1, k2, k3, _, k4⟩ k5

theorem fly_again (hf : env.frame = some L) (hfl : Fly base l e (rawInt L) s.heap) (h : Q () s) : wpAny M A (noteFrame (.ref e) env) Q E s := by
  obtain ⟨f1, f2, f3, a0, f4⟩ := hfl
  exact wpAny_noteFrame_againW hf f4 h

theorem fly_none (hfl : Fly base l e fl s.heap) (hQ : ∀ h', Fly base l e .none h' → s.heap.UpToSlots h' → Q () { s with heap := h' }) : wpAny M A (setFlight (.ref e) none) Q E s := by
  obtain ⟨f1, f2, f3, a0, f4⟩ := hfl
  exact wpAny_setFlight_noneW f1 f3 f4 fun h' k1 k2 k3 k4 => hQ h' ⟨k1, f2, k2, _, k3⟩ fun b o hb hn => ⟨o.slots, k4 b o hb hn⟩

theorem fly_set (R : Fly base l e fl s.heap) (h : ∀ h', Fly base l e (rawInt L) h' → s.heap.UpToSlots h' → Q () { s with heap := h' }) : wpAny M A (setFlight (.ref e) (some L)) Q E s := by
  obtain ⟨hkb, hen, hl, a0, oe, vs, T, oT, ts, he, hcls, hd, h1, hnT, hTe, hT, hdT, h3⟩ := R
  have hsz3 : 3 < ts.size := (Array.getElem?_eq_some_iff.mp h3).1
  have other : ∀ b, b ≠ T → (s.heap.update T (Obj.mapFields (·.setIfInBounds 3 ((some L).elim Value.none fun f => rawInt f)))).get? b = s.heap.get? b :=
    fun b hb => Heap.get?_update_other _ _ (Ne.symm hb)
  have noRecord : ∀ b o, s.heap.get? b = some o → (∀ vs, o.data ≠ .fields vs) → b ≠ T := fun b o hb hnf q => by
    rw [q, hT] at hb; injection hb with hb; subst hb; exact hnf ts hdT
  unfold setFlight
  refine wpAny_bind (wpAny_field he hd h1 ?_)
  rw [if_pos (show (Value.ref T != Value.none) = true from by simp)]
  refine wpAny_setField hT hdT hsz3 (h _ ⟨fun b o hbo => (other b fun q => by rw [q, hnT] at hbo; cases hbo).trans (hkb b o hbo), hen,
    hl.of_keeps fun b o hb hnf => ⟨o, (other b (noRecord b o hb hnf)).trans hb, rfl⟩, ?_⟩ fun b o hb hnf => ⟨o.slots, (other b (noRecord b o hb hnf)).trans hb⟩)
  exact ⟨a0, oe, vs, T, _, _, (other e (Ne.symm hTe)).trans he, hcls, hd, h1, hnT, hTe, Heap.get?_update_self _ hT (Obj.isFreed_of_fields (Obj.data_mapFields hdT _)), Obj.data_mapFields hdT _, by simp [hsz3]⟩

/-- back in the frame's own activation -/
theorem fly_back (R : Fly base l e fl s.heap) (hf : env.frame = some L) (h : ∀ h', Fly base l e (rawInt L) h' → s.heap.UpToSlots h' → Q () { s with heap := h' }) :
    wpAny M A (do
      if (← field (.ref e) 1) == Value.none then unsupported "frame.own-activation:exception-without-traceback"
      setFlight (.ref e) env.frame : Sem Unit) Q E s := by
  obtain ⟨_, _, _, a0, oe, vs, T, oT, ts, he, hcls, hd, h1, _⟩ := id R
  refine wpAny_bind (wpAny_field he hd h1 ?_)
  rw [if_neg (by simp), hf]
  first
    | exact fly_set R h
    | exact wpAny_bind (wpAny_pure (fly_set R h))

theorem fly_leave (hf : env.frame = some L) (R : Fly base (env :: outer) e (rawInt L) s.heap) (hQ : ∀ h', Fly base outer e .none h' → s.heap.UpToSlots h' → Q () { s with heap := h' }) : wpAny M A (leaving env (.ref e)) Q E s := by
  unfold leaving
  refine wpAny_bind (fly_again hf R ?_)
  refine fly_none R fun h' ⟨k1, k2, ⟨_, _, k3⟩, k4⟩ k5 => hQ h' ⟨k1, k2, k3, k4⟩ k5
end
end Mp
end

section
open PySem PySem.W PyProof.Rows PySem.Calls
set_option maxRecDepth 100000
set_option linter.unusedVariables false
set_option linter.unusedSimpArgs false
set_option linter.unusedSectionVars false
namespace Mp
section
variable {prog : Program} {w : World} {A : Around} {sB : Shared} {mg mb : Str → Option Value} {env : Env} {l Lw : Addr} {vs : List Value} {xs : List Int} {p : GP} {base : Heap} {outer : List Env} {n : Nat}

noncomputable def gE (base : Heap) (outer : List Env) (Lw : Addr) : GenEnd := fun _ s₀ r s₁ => ∃ e, r = .error (.ref e) ∧ Fly base outer e .none s₁.heap ∧ UpAt Lw s₀.heap s₁.heap ∧ s₀.toks ≤ s₁.toks ∧ s₁.os = s₀.os ∧ s₁.gens = s₀.gens
noncomputable def gN : Protocol := fun _ _ _ _ _ => False

/-- the generator, woken over a ruler that begins with 0: it raises -/
theorem raiseSeg {s : Shared} {mm : Str → Option Value} {k : Nat} (hA : A.handled = none) (hfr : A.frames = some outer) (hf : ∀ I, I ≠ l → I ≠ env.locals → GF sB mg env l I vs (0 :: xs)) (hgr : env.kindOf "grouping" = some .local) (hve : env.kindOf "ValueError" = some .globalImplicit)
    (hbl : env.builtins = builtinsNs) (hb : sB.heap.Ns builtinsNs mb) (hmg : mg "ValueError" = none) (hmb : mb "ValueError" = some (.type "ValueError")) (hLw : Lw ≠ env.locals) (hLw' : ∃ o, s.heap.get? Lw = some o)
    (hfrm : env.frame = some env.locals) (hLn : sB.heap.get? env.locals = none) (hkp : Kp sB s) (hn : s.heap.Ns env.locals mm) (hm : mm "grouping" = some (.ref l)) (hl : s.heap.get? l = some (lob vs k))
    (hbase : base.StaysIn s.heap) (hbL : base.get? env.locals = none) (hFF : s.heap.FunFrames base outer) (hout : ∀ e ∈ outer, e.frame ≠ some env.locals) :
    Seg (model prog w) A (gE base outer Lw) gN n s (.func (gBody p) env) ((model prog w).den (.func (gBody p) env)) [] s := by
  have hIl : s.heap.objs.size ≠ l := (some_ne hl (Nat.le_refl _)).symm
  have hIL : s.heap.objs.size ≠ env.locals := by obtain ⟨o, _, _, eo, _⟩ := hn; exact (some_ne eo (Nat.le_refl _)).symm
  have hF := hf _ hIl hIL
  have hIn : sB.heap.get? s.heap.objs.size = none := by
    cases e : sB.heap.get? s.heap.objs.size with
    | none => rfl
    | some o => exact absurd (Heap.lt_size (hkp.hp _ _ e)) (Nat.lt_irrefl _)
  refine seg_func ?_
  unfold gBody
  refine seg_execs_cons (seg_wrap (wpAny_Assign_Name (PySem.wpAny_Constant_none (wpAny_storeName_local hF.last hn (fun h₁ hn₁ hs₁ => ?_) (by simp [hF.kind]))) rfl))
  have hsz : h₁.objs.size = s.heap.objs.size := hs₁.1
  have hl₁ : h₁.get? l = some (lob vs k) := hs₁.extBut _ _ hF.lL hl
  have hg₁ : (fun x : Str => if x = "last_interval" then some Value.none else mm x) "grouping" = some (.ref l) := by
    have : ¬ (Str.ofString "grouping" = Str.ofString "last_interval") := by decide
    exact (if_neg this).trans hm
  refine seg_execs_cons (seg_For (by intro _; rfl) (wpAny_Name (wpAny_loadName_local hF.kind hgr hn₁ hg₁ ?_)))
  refine wpAny_pyIter_list (items := vs.toArray) ⟨_, hl₁, rfl, k, rfl⟩ ?_
  show ∀ pp, Seg _ A _ _ _ _ (.forLoop _ (.ref h₁.objs.size) _ _ _) _ _ _
  rw [hsz]
  intro pp
  refine seg_forLoop (by intro _; rfl) ?_
  generalize hS2 : ({ s with heap := h₁.push { cls := .type "list_iterator", data := .fields #[.ref l, .int 0 0] }, toks := s.toks + 1 } : Shared) = s₂
  have htr : Tr1 env s.heap.objs.size s s₂ := by
    rw [← hS2]; exact ⟨fun b o hbL _ e => Heap.get?_push_of_some _ (hs₁.extBut b o hbL e), Nat.le_succ _, rfl, rfl⟩
  have hn₂ : s₂.heap.Ns env.locals (fun x => if x = "last_interval" then some Value.none else mm x) := by rw [← hS2]; exact hn₁.push _
  have hit₂ : s₂.heap.IsListIter s.heap.objs.size l 0 := by rw [← hS2]; exact ⟨_, by rw [← hsz]; exact Heap.get?_push_size _ rfl, rfl, rfl⟩
  have hl₂ : s₂.heap.get? l = some (lob vs k) := by rw [← hS2]; exact Heap.get?_push_of_some _ hl₁
  have hlast₁ : (fun x : Str => if x = "last_interval" then some Value.none else mm x) "last_interval" = some Value.none := if_pos rfl
  generalize (fun x : Str => if x = "last_interval" then some Value.none else mm x) = mm₁ at *
  clear hS2 hn₁ hs₁ hl₁ hsz
  generalize hI : s.heap.objs.size = I at *
  have hL : s₂.heap.IsList l vs.toArray := ⟨_, hl₂, rfl, k, rfl⟩
  obtain ⟨t, hv⟩ := hF.items 0 0 rfl
  refine wpAny_pyNext_list_item hit₂ hL (x := .int 0 t) (by simpa using hv) fun h₃ hit₃ hs₃ => ?_
  have hn₃ : h₃.Ns env.locals mm₁ := hn₂.sameBut hs₃ (Ne.symm hF.IL)
  refine wpAny_assign_Name (wpAny_storeName_local hF.intv hn₃ (fun h₄ hn₄ hs₄ => ?_) (by simp [hF.kind]))
  have htr₄ : Tr1 env I s { s₂ with heap := h₄, toks := s₂.toks + 1 } := htr.trans ⟨fun b o hbL hbI e => hs₄.extBut b o hbL (hs₃.extBut b o hbI e), Nat.le_succ _, rfl, rfl⟩
  have hli : ¬ (Str.ofString "last_interval" = Str.ofString "interval") := by decide
  have hlast₄ : (fun y : Str => if y = "interval" then some (Value.int 0 t) else mm₁ y) "last_interval" = some Value.none := (if_neg hli).trans hlast₁
  have hintv : (fun y : Str => if y = "interval" then some (Value.int 0 t) else mm₁ y) "interval" = some (.int 0 t) := by simp
  generalize hs4 : ({ s₂ with heap := h₄, toks := s₂.toks + 1 } : Shared) = s₄ at *
  have hn₄ : s₄.heap.Ns env.locals (fun y => if y = "interval" then some (.int 0 t) else mm₁ y) := by rw [← hs4]; exact hn₄
  generalize (fun y : Str => if y = "interval" then some (Value.int 0 t) else mm₁ y) = mm₄ at *
  have hkp₄ : Kp sB s₄ := htr₄.kp hkp (by
    exact hLn) hIn
  -- interval == CHAR_MAX
  refine seg_execs_cons (seg_If (wpAny_isTrue_Compare1 (wpAny_Name (wpAny_loadName_local hF.kind hF.intv hn₄ hintv ?_))))
  obtain ⟨t1, hcm⟩ := hF.cm
  refine Name_function_global hF.kind hF.cmax (loadGlobal_global (env := env) (mg := mg) (by rw [hF.gl]; exact hF.g.keeps hkp₄.hp) hcm ?_)
  refine P.eq_int (wpAny_truthy_bool ?_)
  rw [if_neg (by decide)]
  refine seg_execs_nil ?_
  refine seg_execs_cons (seg_If (wpAny_isTrue_Compare1 (wpAny_Name (wpAny_loadName_local hF.kind hF.intv hn₄ hintv ?_))))
  refine wpAny_Constant_int (P.eq_int (wpAny_truthy_bool ?_))
  rw [if_pos (by decide)]
  refine seg_execs_cons (seg_If (wpAny_isTrue_Compare1 (wpAny_Name (wpAny_loadName_local (s := { s₄ with toks := s₄.toks + 1 }) hF.kind hF.last hn₄ hlast₄ ?_))))
  refine PySem.wpAny_Constant_none (is_none (wpAny_truthy_bool ?_))
  rw [if_pos (by simp)]
  unfold gRaise
  refine seg_execs_cons (seg_wrap (Raise_madeB PySem.F.excCall_ValueError PySem.F.excRaise_ValueError (by simp [Around.over, marksOver, hA]; rfl) ?_ (by rfl) (by rfl)))
  refine Name_function_global hF.kind hve (loadGlobal_builtin (env := env) (mg := mg) (mb := mb) (by rw [hF.gl]; exact hF.g.keeps hkp₄.hp) hmg (by rw [hbl]; exact hb.keeps hkp₄.hp) hmb ⟨rfl, ?_⟩)
  refine wpAny_items_cons (wpAny_Constant_str (spliced_nil ⟨by size_fits, fun h' e hm => ?_⟩)) rfl
  have hbI : base.get? I = none := by
    cases q : base.get? I with
    | none => rfl
    | some o => have := hbase I o q; rw [← hI] at this; exact absurd (Heap.lt_size this) (Nat.lt_irrefl _)
  have hkb : base.StaysIn s₄.heap := fun b o q => htr₄.hp b o (by rintro rfl; rw [hbL] at q; cases q) (by rintro rfl; rw [hbI] at q; cases q) (hbase b o q)
  have hIne : ∀ {b : Addr} {o : Obj}, s.heap.get? b = some o → b ≠ I := fun {b o} q => by rw [← hI]; exact some_ne q (Nat.le_refl _)
  have hFF₄ : s₄.heap.FunFrames base (env :: outer) := by
    refine Heap.FunFrames.cons (by rw [hF.kind]; decide) hfrm hn₄ hbL (funFrames_keep (fun e he L hL o ho => ?_) hFF)
    exact htr₄.hp L o (by rintro rfl; exact hout e he hL) (hIne ho) ho
  refine seg_wrap (wpAny_bind (fly_first (base := base) (outer := outer) (h := s₄.heap) (by simp only [Around.over, hfr]; rfl) hfrm hkb hFF₄ (Heap.MadeExc.of hm) fun h6 f6 u6 => wpAny_theTreesLotGoes ?_))
  refine seg_leaf (.error (.ref e)) ?_
  rw [Sem.onRaise_eq_wrap, Sem.wrap_wrap]
  simp only [Sem.wrap]
  rw [Sem.bind_eq_wrap, Sem.wrap_wrap]
  refine seg_wrap (fly_back f6 hfrm fun h7 f7 u7 => ?_)
  show Seg _ _ _ _ _ _ _ (Sem.wrap _ _ _ _ (leaving env (.ref e))) _ _
  refine seg_wrap (fly_leave hfrm f7 fun h8 f8 u8 => ?_)
  refine seg_end (.error (.ref e)) ⟨e, rfl, f8, ?_, ?_, ?_, ?_⟩
  · obtain ⟨oW, hW⟩ := hLw'
    have h0 : UpAt Lw s.heap s₄.heap := UpAt.keep fun o q => htr₄.hp Lw o hLw (hIne q) q
    exact (((h0.trans (UpAt.keep fun o q => hm.keeps Lw o q)).trans (.of u6)).trans (.of u7)).trans (.of u8)
  · have := htr₄.tk
    show s.toks ≤ s₄.toks + 1 + 1
    omega
  · exact htr₄.os
  · exact htr₄.gn
end
end Mp
end

section
open PySem PySem.W PyProof.Rows PySem.Calls
set_option maxRecDepth 100000
set_option linter.unusedVariables false
set_option linter.unusedSimpArgs false
set_option linter.unusedSectionVars false
namespace Mp

theorem fly_base {base B h : Heap} {l : List Env} {e : Addr} {fl : Value} (k : base.StaysIn B) (x : Fly B l e fl h) : Fly base l e fl h := by
  obtain ⟨f1, f2, f3, a0, oe, vs, T, oT, ts, a1, a2, a3, a4, a5, a6⟩ := x
  exact ⟨fun b o q => f1 b o (k b o q), fresh_of_stays k f2, funFrames_base k f3, a0, oe, vs, T, oT, ts, a1, a2, a3, a4, fresh_of_stays k a5, a6⟩
theorem fly_type {base h : Heap} {l : List Env} {e : Addr} {fl : Value} (x : Fly base l e fl h) : ∃ ob, h.get? e = some ob ∧ ob.cls = .type "ValueError" := by
  obtain ⟨_, _, _, a0, oe, vs, T, oT, ts, he, hc, _⟩ := x
  exact ⟨oe, he, hc.1⟩
theorem not_stop : isSubtype (.type "ValueError") (.type "StopIteration") = pure false := by rw [isSubtype_type]; kernel_rfl

/-- the next item of a generator that raises -/
theorem pyNext_genE {prog : Program} {w : World} {A : Around} {E : Value → Shared → Prop} {s : Shared} {a : Addr} {g n : Nat} {gs : GenState} {base : Heap} {outer : List Env} {Lw : Addr} {Q : Option Value → Shared → Prop}
    (hl : s.heap.NoLimit) (hroom : A.depth < recursionLimit) (hg : s.heap.IsGen a g) (hb : base.IsGen a g) (hgs : s.gens[g]? = some gs)
    (hgo : gs.Goes (model prog w) A.in1 (gE base outer Lw) gN n (.send .none) (s.setGen g .running))
    (hE : ∀ (e : Addr) (s₁ : Shared), Fly base outer e .none s₁.heap → UpAt Lw s.heap s₁.heap → s.toks ≤ s₁.toks → s₁.os = s.os → s₁.gens = (s.setGen g .running).gens → E (.ref e) (s₁.setGen g .finished)) :
    wpAny (model prog w) A (pyNext (.ref a)) Q E s := by
  unfold pyNext
  refine wpAny_bind (wpAny_attempt (wpAny_callSpecial?_slot (name := Str.ofString "__next__") hg.typeIs slot_gen_next
    (wpAny_call_entry slot_gen_next hg.typeIs entry_gen_next ?_ (args_gen_next _))))
  show wpAny _ _ (Builtin.Generator.genWake (.ref a) (.send .none)) _ _ s
  unfold Builtin.Generator.genWake
  refine wpAny_bind (wpAny_holding (wpAny_genNumber hg (wpAny_bind (wpAny_genState hgs ?_))))
  cases gs with
  | running => exact hgo.elim
  | finished => exact hgo.elim
  | _ =>
    refine wpAny_bind (wpAny_roomToWake hl hroom ?_)
    show wpAny _ _ (.resume g (.send .none) [] _) _ _ s
    refine wpAny_resumeQ hgs hgo (fun x s₁ hx => ?_) (fun v s₁ gs' hb hv => hv.elim)
    obtain ⟨e, rfl, f, hu, ht, ho, hgn⟩ := hx
    obtain ⟨o, nm, qn, hoa, hoc, hod, hos⟩ := hb
    obtain ⟨ob, hob, hobc⟩ := fly_type f
    show wpAny _ _ (Builtin.Generator.genLeft (.ref a) (.ref e)) _ _ _
    unfold Builtin.Generator.genLeft Builtin.Generator.madeByALambda
    refine wpAny_bind (wpAny_bind (wpAny_load (f.1 _ _ hoa) ?_))
    refine wpAny_pure ?_
    rw [hod]
    refine wpAny_bind (wpAny_isInstance (T := "ValueError") (b := false) ⟨ob, hob, hobc⟩ not_stop ?_)
    have h0 : ((#[Value.int g 0, nm, qn] : Array Value)[3]? == some (.bool true)) = false := by simp
    simp only [h0, Bool.and_false]
    rw [if_neg (by decide)]
    unfold Builtin.Generator.genEscaped
    refine wpAny_bind (wpAny_isInstance (T := "ValueError") (b := false) ⟨ob, hob, hobc⟩ not_stop ?_)
    simp only [Bool.not_false]
    rw [if_pos trivial]
    refine wpAny_bind (wpAny_throw ?_)
    refine wpAny_bind (wpAny_isInstance (T := "ValueError") (b := false) ⟨ob, hob, hobc⟩ not_stop ?_)
    rw [if_neg (by decide)]
    exact wpAny_throw (hE e s₁ f hu ht ho hgn)
end Mp
end

section
open PySem PySem.W PyProof.Rows PySem.Calls
set_option maxRecDepth 100000
set_option linter.unusedVariables false
set_option linter.unusedSimpArgs false
set_option linter.unusedSectionVars false
namespace Mp
theorem scope_gen_v : (fnS "_grouping_intervals").names.lookup (Str.ofString "ValueError") = some .globalImplicit := rfl

section
variable {prog : Program} {w : World} {sB s0 : Shared} {mg mb : Str → Option Value} {L : Nat} {env : Env} {Fc : Addr → Prop} {ga : Addr} {o : Obj} {fd : FuncData}

/-- the frames that stand are live -/
theorem frames_live {s : Shared} {base : Heap} {outer : List Env} {n : Str → Option Value} (hfrm : env.frame = some env.locals) (hn : s.heap.Ns env.locals n) (hFF : s.heap.FunFrames base outer) {b : Addr} (hb : s.heap.get? b = none) : ∀ e' ∈ env :: outer, e'.frame ≠ some b := by
  intro e' he' hL'
  rcases List.mem_cons.mp he' with rfl | he'
  · obtain ⟨o1, _, _, e1, _⟩ := hn
    rw [hfrm] at hL'; cases hL'
    rw [hb] at e1; cases e1
  · obtain ⟨o', ho'⟩ := funFrames_live hFF e' he' b hL'
    rw [hb] at ho'; cases ho'

/-- what an exception leaves behind -/
noncomputable def Flew (base : Heap) (outer : List Env) (Lw : Addr) (fl : Value) (s : Shared) (e' : Value) (s' : Shared) : Prop :=
  ∃ e, e' = .ref e ∧ Fly base outer e fl s'.heap ∧ UpAt Lw s.heap s'.heap ∧ s.toks ≤ s'.toks ∧ s'.os = s.os ∧ ∃ t : List GenState, s'.gens.toList = s.gens.toList ++ t ∧ ∀ y ∈ t, y.bare = true

theorem sz_raise {s : Shared} {O : Os'} {A : Around} {ru v : V} {e : Int} {xs : List Int} {base : Heap} {outer : List Env} {Lw : Addr}
    (hG : GOk prog w sB mg mb L XB.G) (hD : GDef sB mg ga o fd) (hmg : mg "ValueError" = none) (hmb : mb "ValueError" = some (.type "ValueError")) (hlim : sB.heap.NoLimit) (hf : FR sB s0 cSz env Fc) (hA : AOk L A)
    (hfr : A.frames = some (env :: outer)) (hfrm : env.frame = some env.locals) (hr : SR s0 cSz env Fc s O (WS ru e ((0 :: xs).map D.int) [] v)) (hLw' : ∃ o, s.heap.get? Lw = some o)
    (hbase : base.StaysIn s.heap) (hbL : base.get? env.locals = none) (hFF : s.heap.FunFrames base outer) :
    wpAny (model prog w) A (exec szX env) (fun _ _ => False) (Flew base (env :: outer) Lw (rawInt env.locals) s) s := by
  refine sz_call hG hD hlim hf hA hr fun s₃ envG l a g vs k pp c => ?_
  obtain ⟨mE, hnE⟩ := hr.ns
  have hnF := fun b h => frames_live hfrm hnE hFF (b := b) h
  have hFF₃ : s₃.heap.FunFrames base (env :: outer) := Heap.FunFrames.cons (by rw [hf.kind]; decide) hfrm (hnE.keeps c.kp.hp) hbL (funFrames_keep (fun e' he' L' _ o' ho' => c.kp.hp L' o' ho') hFF)
  generalize hB : hideAll s₃.heap (envG.locals :: (env :: outer).filterMap (·.frame)) = B
  have hBs : B.StaysIn s₃.heap := fun b o q => by rw [← hB] at q; exact of_hideAll _ q
  have hBF : s₃.heap.FunFrames B (env :: outer) := by
    rw [← hB]
    exact funFrames_hide hFF₃ fun e' he' b hb => List.mem_cons_of_mem _ (List.mem_filterMap.mpr ⟨e', he', hb⟩)
  have hBL : B.get? envG.locals = none := by rw [← hB]; exact hideAll_none _ (List.mem_cons_self ..)
  have hBgen : B.IsGen a g := by
    obtain ⟨o', nm, qn, e1, r⟩ := c.gen
    refine ⟨o', nm, qn, ?_, r⟩
    rw [← hB]
    refine hideAll_get _ e1 fun hm => ?_
    rcases List.mem_cons.mp hm with q | q
    · exact c.al q
    · obtain ⟨e', he', hb⟩ := List.mem_filterMap.mp q
      exact hnF a c.na e' he' hb
  have hbn : base.get? envG.locals = none := by
    cases q : base.get? envG.locals with
    | none => rfl
    | some o => have := hbase _ _ q; rw [c.nL] at this; cases this
  have hbB : base.StaysIn B := fun b o q => by
    rw [← hB]
    refine hideAll_get _ (c.kp.hp _ _ (hbase b o q)) fun hm => ?_
    rcases List.mem_cons.mp hm with q' | q'
    · rw [q', hbn] at q; cases q
    · rw [(hFF₃.mem q').1] at q; cases q
  have hkB : Kp sB s₃ := hf.sb.trans (hr.base.trans c.kp)
  refine codeAny_forLoop (fun _ s' => s' = s₃) ?_ 0 rfl
  intro j s' hs'
  subst hs'
  refine pyNext_genE (n := 0) (base := B) (outer := env :: outer) (Lw := Lw) (hlim.keeps hkB.hp) (by have := hA.2.1; omega) c.gen hBgen c.gs ⟨rfl, ?_⟩ fun e1 s4 f4 u4 t4 o4 g4 => ?_
  · obtain ⟨o', e'⟩ := hLw'
    exact raiseSeg (mm := fun x => [(("grouping" : Str), Value.ref l)].reverse.lookup x) (sB := sB) (mg := mg) (mb := mb) (l := l) (vs := vs) (xs := xs) (k := k) hA.1 hfr c.gf (by unfold Env.kindOf; rw [c.es]; rfl) (by unfold Env.kindOf; rw [c.es]; rfl) c.eb hG.b hmg hmb
      (fun q => by rw [q, c.nL] at e'; cases e') ⟨o', c.kp.hp _ _ e'⟩ c.fr (none_of hf.sb (none_of hr.base c.nL)) (hkB.setGen (Nat.le_trans (gens_le (hf.sb.trans hr.base).gx) c.sz) rfl) c.ns rfl c.lo hBs hBL hBF (hnF _ c.nL)
  · refine fly_next (s := s4.setGen g .finished) hfr hfrm f4 fun h5 f5 u5 => fly_back (s := { s4.setGen g .finished with heap := h5 }) f5 hfrm fun h6 f6 u6 => ?_
    refine ⟨e1, rfl, fly_base hbB f6, (((UpAt.keep fun o q => c.kp.hp Lw o q).trans u4).trans (.of u5)).trans (.of u6), Nat.le_trans c.kp.tk t4, o4.trans c.kp.os, ?_⟩
    obtain ⟨t1, q1, q2⟩ := c.kp.gn
    obtain ⟨t2, q3, q4⟩ := gens_set (st := .running) q1 q2 c.sz rfl
    show ∃ t, (s4.gens.setIfInBounds g .finished).toList = _ ∧ _
    rw [g4]
    exact gens_set q3 q4 c.sz rfl
end
end Mp
end

section
open PySem PySem.W PyProof.Rows PySem.Calls
set_option maxRecDepth 100000
set_option linter.unusedVariables false
set_option linter.unusedSimpArgs false
set_option linter.unusedSectionVars false
namespace Mp
theorem xb_orc {prog : Program} {w : World} {s0 : Shared} {L : Nat} {c : Cx} {env : Env} {Fc : Addr → Prop} {A : Around} : OrcOk prog w s0 L XB c env Fc A := fun n p hp => nomatch hp

section
variable {prog : Program} {w : World} {sB : Shared} {mg mb : Str → Option Value} {L : Nat} {ga : Addr} {og : Obj} {fg : FuncData}

/-- what an exception leaves -/
noncomputable abbrev Flown (base : Heap) (outer : List Env) (Lw : Addr) (s : Shared) (e' : Value) (s' : Shared) : Prop := Flew base outer Lw .none s e' s'

/-- the statements of _law_sizes, one by one -/
noncomputable def szAt (k : Nat) : Stmt := (fnB "_law_sizes").getD k default
theorem szs_form : fnB "_law_sizes" = [emitS XB cSz (.asn 2 (.slA (.var 0))) (szAt 0), emitS XB cSz (.own 3 (.lst [])) (szAt 1), szX, szAt 3] := by kernel_rfl
theorem szs_ok : okT XB cSz (.asn 2 (.slA (.var 0))) (szAt 0) = true ∧ okT XB cSz (.own 3 (.lst [])) (szAt 1) = true := ⟨by kernel_rfl, by kernel_rfl⟩

theorem gens_two {a b c : Array GenState} (h1 : ∃ t : List GenState, b.toList = a.toList ++ t ∧ ∀ y ∈ t, y.bare = true) (h2 : ∃ t : List GenState, c.toList = b.toList ++ t ∧ ∀ y ∈ t, y.bare = true) : ∃ t : List GenState, c.toList = a.toList ++ t ∧ ∀ y ∈ t, y.bare = true := by
  obtain ⟨t1, q1, q2⟩ := h1
  obtain ⟨t2, q3, q4⟩ := h2
  exact ⟨t1 ++ t2, by rw [q3, q1, List.append_assoc], fun y hy => (List.mem_append.mp hy).elim (q2 y) (q4 y)⟩

/-- a statement that goes on -/
theorem execs_go {s0 s : Shared} {env : Env} {c : Cx} {F : Addr → Prop} {A : Around} {O : Os'} {x : Stmt} {r : List Stmt} {W : Ws} {Q : Flow → Shared → Prop} {E : Value → Shared → Prop} (h : wpAny (model prog w) A (exec x env) (PostS s0 c env F s O (fun o => o = .go W)) E s)
    (hr : ∀ s₁ O₁, SR s0 c env F s₁ O₁ W → wpAny (model prog w) A (execs r env) Q E s₁) : wpAny (model prog w) A (execs (x :: r) env) Q E s := by
  refine wpAny_execs_cons (wpAny_mono h (fun f s₁ p₁ => ?_) fun _ _ q => q)
  obtain ⟨o, rfl, _, hok⟩ := p₁
  obtain ⟨rfl, O₁, h1, _⟩ := hok.go_inv
  exact hr s₁ O₁ h1

theorem sizes_raise {a : Addr} {o : Obj} {fd : FuncData} {A : Around} {s : Shared} {F : Addr → Prop} {vs : List Value} {e : Int} {xs : List Int} {base : Heap} {outer : List Env} {Lw : Addr}
    (hG : GOk prog w sB mg mb L XB.G) (hD : GDef sB mg ga og fg) (hmg : mg "ValueError" = none) (hmb : mb "ValueError" = some (.type "ValueError"))
    (ho : sB.heap.get? a = some o) (hd : o.data = .func fd) (hbody : fd.body = .stmts (fnB "_law_sizes")) (hgl : fd.globals = mainGlobals) (hbl : fd.builtins = builtinsNs) (hcl : fd.closure = []) (hcd : sB.heap.CodeRec fd.code fd.qualname) (hlim : sB.heap.NoLimit)
    (hbind : ∀ vs : List Value, vs.length = (["ruler", "enough"] : List Str).length → bindArgs fd ⟨vs, []⟩ = pure ((["ruler", "enough"] : List Str).zip vs)) (hsco : fd.scope = fnS "_law_sizes")
    (hA : AOk (L + 1) A) (hfr : A.frames = some outer) (hk : Kp sB s) (htok : s.toks ≠ 0) (hlive : Live s F) (hvs : VRs s F vs [.list ((0 :: xs).map D.int), .int e]) (hl : xs.length ≤ 1000)
    (hbase : base.StaysIn s.heap) (hFF : s.heap.FunFrames base outer) (hLw' : ∃ o, s.heap.get? Lw = some o) :
    wpAny (model prog w) A (call (.ref a) vs) (fun _ _ => False) (Flown base outer Lw s) s := by
  refine con_core (xs := ["ruler", "enough"]) ho hd hbody hgl hbl hcl hcd hlim hbind (by rw [hsco]; exact good_sizes) hA hk htok hlive hvs rfl fun env s' hFR hfrm hkp hA' hSR => ?_
  rw [hsco] at hFR hSR
  have hfr' : (A.deeper env).frames = some (env :: outer) := Around.frames_deeper hfr
  have hSR0 : SR s cSz env F s' (List.replicate cSz.vars.length none) [.val (.list ((0 :: xs).map D.int)), .val (.int e), .no, .no, .no] := by
    have : initW cSz [.list ((0 :: xs).map D.int), .int e] = [.val (.list ((0 :: xs).map D.int)), .val (.int e), .no, .no, .no] := by
      unfold cSz initW
      rw [vars_sizes]; rfl
    rw [← this]; exact hSR
  rw [szs_form]
  refine execs_go (wps (X := XB) hG xb_orc hFR (.asn 2 (.slA (.var 0))) szs_ok.1 hA' hSR0 (R := fun o => o = .go [.val (.list ((0 :: xs).map D.int)), .val (.int e), .val (.list ((0 :: xs).map D.int)), .no, .no]) ?_) fun s₁ O₁ hSR1 => ?_
  · refine ⟨?_, rfl⟩
    rw [List.length_map]; exact Nat.le_trans (Nat.succ_le_succ hl) (by decide)
  refine execs_go (wps (X := XB) hG xb_orc hFR (.own 3 (.lst [])) szs_ok.2 hA' hSR1 (R := fun o => o = .go (WS (.val (.list ((0 :: xs).map D.int))) e ((0 :: xs).map D.int) [] .no)) rfl) fun s₂ O₂ hSR2 => ?_
  have hk2 := hSR2.base
  have hbn : base.get? env.locals = none := by
    cases q : base.get? env.locals with
    | none => rfl
    | some o' => have := hbase _ _ q; rw [hFR.tnew _ (.inl rfl)] at this; cases this
  refine wpAny_execs_cons (wpAny_mono (sz_raise (base := base) (outer := outer) (Lw := Lw) hG hD hmg hmb hlim hFR hA' hfr' hfrm hSR2 (let ⟨o', q⟩ := hLw'; ⟨o', hk2.hp _ _ q⟩) (fun b o' q => hk2.hp _ _ (hbase b o' q)) hbn
    (funFrames_keep (fun e' _ L' _ o' ho' => hk2.hp L' o' ho') hFF)) (fun _ _ q => q.elim) fun e' s₃ p₃ => ?_)
  obtain ⟨ea, rfl, f3, u3, t3, o3, g3⟩ := p₃
  exact fly_leave hfrm f3 fun h4 f4 u4 => ⟨ea, rfl, f4, ((UpAt.keep fun o' q => hk2.hp _ _ q).trans u3).trans (.of u4), Nat.le_trans hk2.tk t3, o3.trans hk2.os, gens_two hk2.gn g3⟩
end
end Mp
end

section
open PySem PySem.W PyProof.Rows PySem.Calls
set_option maxRecDepth 100000
set_option linter.unusedVariables false
set_option linter.unusedSimpArgs false
set_option linter.unusedSectionVars false
namespace Mp
section
variable {sB s0 : Shared} {c : Cx} {env : Env} {Fc : Addr → Prop} {s : Shared} {O : Os'} {W : Ws}
theorem UpAt.ns {h h' : Heap} {a : Addr} {m : Str → Option Value} (x : UpAt a h h') (hn : h.Ns a m) : h'.Ns a m := by
  obtain ⟨o, es, ep, ho, hd, r⟩ := hn
  obtain ⟨sl, hs⟩ := x o ho fun vs q => by rw [hd] at q; cases q
  exact ⟨_, es, ep, hs, hd, r⟩

/-- only the slots of the frame itself have turned -/
theorem SR.upS {s' : Shared} (hf : FR sB s0 c env Fc) (h : SR s0 c env Fc s O W) (hk : ∀ b o, b ≠ env.locals → s.heap.get? b = some o → s'.heap.get? b = some o) (hu : UpAt env.locals s.heap s'.heap) (htk : s.toks ≤ s'.toks) (hos : s'.os = s.os)
    (hgn : ∃ t : List GenState, s'.gens.toList = s.gens.toList ++ t ∧ ∀ y ∈ t, y.bare = true) : SR s0 c env Fc s' O W := by
  obtain ⟨mL, hmL⟩ := h.ns
  have hv : ∀ b o, (∃ vs n, o.data = .seq vs n) → s.heap.get? b = some o → s'.heap.get? b = some o := fun b o hc e => hk b o (by
    rintro rfl
    obtain ⟨vs, n, hd⟩ := hc
    obtain ⟨o', _, _, e', hd', _⟩ := hmL
    rw [e] at e'; cases e'; rw [hd] at hd'; cases hd') e
  have hsl : ∀ y b' v', Slot env s y b' v' → Slot env s' y b' v' := by
    intro y b' v' hsl
    cases b' with
    | true =>
      obtain ⟨a', e1, o, e3, e4⟩ := hsl
      exact ⟨a', e1, o, hk _ _ (hf.cloc y a' e1) e3, e4⟩
    | false =>
      obtain ⟨m, e1, e2⟩ := hsl
      exact ⟨m, hu.ns e1, e2⟩
  exact {
    base := ⟨fun b o e => hk b o (by rintro rfl; rw [hf.tnew _ (.inl rfl)] at e; cases e) (h.base.hp b o e), Nat.le_trans h.base.tk htk, hos.trans h.base.os, by
      obtain ⟨t1, q1, q2⟩ := h.base.gn
      obtain ⟨t2, q3, q4⟩ := hgn
      refine ⟨t1 ++ t2, by rw [q3, q1, List.append_assoc], fun y hy => ?_⟩
      rcases List.mem_append.mp hy with h | h
      · exact q2 y h
      · exact q4 y h⟩
    toks := by have := h.toks; omega
    lenW := h.lenW
    lenO := h.lenO
    ns := ⟨mL, hu.ns hmL⟩
    cell := by
      intro y a' e
      obtain ⟨ov, o, e3, e4⟩ := h.cell y a' e
      exact ⟨ov, o, hk _ _ (hf.cloc y a' e) e3, e4⟩
    onew := by
      intro i a' hi
      obtain ⟨e1, vs2, n2, e2⟩ := h.onew i a' hi
      exact ⟨e1, _, _, hv _ _ ⟨_, _, rfl⟩ e2⟩
    oinj := h.oinj
    vals := by
      intro i y b' d e1 e2
      obtain ⟨v, e3, e4⟩ := h.vals i y b' d e1 e2
      exact ⟨v, hsl _ _ _ e3, e4.keepI htk hv⟩
    owns := by
      intro i y b' ds e1 e2
      obtain ⟨a2, vs2, n2, e3, e4, e5, e6⟩ := h.owns i y b' ds e1 e2
      exact ⟨a2, vs2, n2, e3, hsl _ _ _ e4, hv _ _ ⟨_, _, rfl⟩ e5, e6.keepI htk hv⟩ }
end

/-- the def of _law_sizes, as the heap has it -/
structure SDef (sB : Shared) (mg : Str → Option Value) (a : Addr) (o : Obj) (fd : FuncData) : Prop where
  hm : mg "_law_sizes" = some (.ref a)
  ho : sB.heap.get? a = some o
  hd : o.data = .func fd
  body : fd.body = .stmts (fnB "_law_sizes")
  scope : fd.scope = fnS "_law_sizes"
  gl : fd.globals = mainGlobals
  bl : fd.builtins = builtinsNs
  cl : fd.closure = []
  cd : sB.heap.CodeRec fd.code fd.qualname
  bind : ∀ vs : List Value, vs.length = (["ruler", "enough"] : List Str).length → bindArgs fd ⟨vs, []⟩ = pure ((["ruler", "enough"] : List Str).zip vs)

/-- the try, as the program has it -/
noncomputable def cLaw : Cx := cxOf (fnS "law")
noncomputable def trRaw : Stmt := (fnB "law").getD 10 default
noncomputable def trAt (k : Nat) : Stmt := (partS trRaw).a.getD k default
noncomputable def trCall : Expr := vE (trAt 0)
noncomputable def trIr : List I := [.lst [.cst (.int 0), .var 6], .cst (.int 1)]
noncomputable def hTy : ExceptHandler → Expr | .ExceptHandler t _ _ _ => t.getD default
noncomputable def hBd : ExceptHandler → List Stmt | .ExceptHandler _ _ b _ => b
noncomputable def hPs : ExceptHandler → Pos | .ExceptHandler _ _ _ p => p
noncomputable def trH : ExceptHandler := (partS trRaw).h.headD default
noncomputable def tryX : Stmt := .Try [.Expr (.Call (.Name "_law_sizes" (kid trCall 0).pos) (emits XB.G trIr cLaw (args trCall)) [] trCall.pos) (trAt 0).pos, trAt 1] [.ExceptHandler (some (.Name "ValueError" (hTy trH).pos)) none [.Pass (hdS (hBd trH)).pos] (hPs trH)] [] [] trRaw.pos
theorem tryX_ok : gname cLaw "_law_sizes" (some "_law_sizes") = true ∧ (emits XB.G trIr cLaw (args trCall)).all notStar = true ∧ oks XB.G trIr cLaw (args trCall) = true ∧ gname cLaw "ValueError" (some "ValueError") = true := ⟨by kernel_rfl, by kernel_rfl, by kernel_rfl, by kernel_rfl⟩
noncomputable def tryPt (W : Ws) (R : Out → Prop) : Prop := (∃ step, W[6]? = some (.val (.int step))) ∧ R (.go W)

theorem chk_law' (f g h i j k : Ctr) (p) : okB ⟨⟨vals0, bis0, [("_law_lamp", f), ("_law_sizes", g), ("_law_whole", h), ("_strcoll", i), ("_law_strung", j), ("_ellipsis_match", k)]⟩, [(tryX, p)]⟩ (cxOf (fnS "law")) ir_law (fnB "law") := ⟨by kernel_rfl, by kernel_rfl⟩
end Mp
end

section
open PySem PySem.W PyProof.Rows PySem.Calls
set_option maxRecDepth 100000
set_option linter.unusedVariables false
set_option linter.unusedSimpArgs false
set_option linter.unusedSectionVars false
namespace Mp
theorem AOk.down {L : Nat} {A : Around} (h : AOk (L + 1) A) : AOk L A := ⟨h.1, by have := h.2.1; omega, by have := h.2.2; omega⟩

section
variable {prog : Program} {w : World} {sB s0 : Shared} {mg mb : Str → Option Value} {L : Nat} {env : Env} {Fc : Addr → Prop} {ga sa : Addr} {og os' : Obj} {fg fs : FuncData} {A : Around}

theorem try_args {W : Ws} {step : Int} (hW : W[6]? = some (.val (.int step))) : pes XB.G trIr (hid W) (fun ds => ds = [.list ((0 :: [step]).map D.int), .int 1]) := by
  have : (hid W)[6]? = some (some (.int step)) := by unfold hid; rw [List.getElem?_map, hW]; rfl
  show (match (hid W)[6]? with | some (some d) => [D.list [.int 0, d], .int 1] = [.list ((0 :: [step]).map D.int), .int 1] | _ => False)
  rw [this]
  rfl

/-- try: _law_sizes([0, step], 1) .. except ValueError: pass -/
theorem try_step {s : Shared} {O : Os'} {W : Ws} {R : Out → Prop} {E : Value → Shared → Prop} (hG : GOk prog w sB mg mb L XB.G) (hD : GDef sB mg ga og fg) (hS : SDef sB mg sa os' fs) (hmg : mg "ValueError" = none) (hmb : mb "ValueError" = some (.type "ValueError"))
    (hlim : sB.heap.NoLimit) (hf : FR sB s0 cLaw env Fc) (hfr : A.frames = some [env]) (hfrm : env.frame = some env.locals) (hA : AOk (L + 1) A) (hr : SR s0 cLaw env Fc s O W) (hp : tryPt W R) :
    wpAny (model prog w) A (exec tryX env) (PostS s0 cLaw env Fc s O R) E s := by
  obtain ⟨⟨step, hW⟩, hR⟩ := hp
  obtain ⟨h1, h2, h3, h4⟩ := tryX_ok
  have her := hr.er_hid hf
  refine wpAny_Try_except (wpAny_execs_cons (wpAny_Expr_any ?_ (by unfold interactive; rw [hf.kind]; rfl) (by rfl)))
  refine wp_calld hS.hd h2 (wp_global hG her h1 hS.hm ⟨rfl, ?_⟩)
  refine mono_l (wpes hG trIr h3 h2 hA.down her (try_args hW)) fun ws s₁ ds _ hds hws k₁ => ?_
  rw [hds] at hws
  have hr₁ := hr.up k₁
  refine ⟨hr₁.base.hp _ _ (hf.sb.hp _ _ hS.ho), ?_⟩
  obtain ⟨mL, hmL⟩ := hr₁.ns
  have hbn : (hideAll s₁.heap [env.locals]).get? env.locals = none := hideAll_none _ (List.mem_cons_self ..)
  refine wpAny_mono (sizes_raise (base := hideAll s₁.heap [env.locals]) (outer := [env]) (Lw := env.locals) hG hD hmg hmb hS.ho hS.hd hS.body hS.gl hS.bl hS.cl hS.cd hlim hS.bind hS.scope hA hfr (hf.sb.trans hr₁.base) hr₁.toks (hr₁.live hf) hws (Nat.le_of_ble_eq_true rfl)
    (fun b o q => of_hideAll _ q) (Heap.FunFrames.cons (by rw [hf.kind]; decide) hfrm hmL hbn trivial) (let ⟨o, _, _, e, _⟩ := hmL; ⟨o, e⟩)) (fun _ _ q => q.elim) fun e' s₂ p₂ => ?_
  obtain ⟨e, rfl, f2, u2, t2, o2, g2⟩ := p₂
  have keep : ∀ {h' : Heap} {fl : Value}, Fly (hideAll s₁.heap [env.locals]) [env] e fl h' → ∀ b o, b ≠ env.locals → s₁.heap.get? b = some o → h'.get? b = some o := fun {h' fl} ff b o hb q => ff.1 b o (hideAll_get _ q fun hm => hb (List.mem_singleton.mp hm))
  refine fly_next hfr hfrm f2 fun h3' f3 u3 => fly_none (s := { s₂ with heap := h3' }) f3 fun h4' f4 u4 => ?_
  have hr₄ : SR s0 cLaw env Fc { s₂ with heap := h4' } O W := hr₁.upS hf (keep f4) ((u2.trans (.of u3)).trans (.of u4)) t2 o2 g2
  obtain ⟨ob, hob, hobc⟩ := fly_type f4
  refine wpAny_handleBy_builtin (X := "ValueError") (T := "ValueError") (b := true) PySem.F.isExc_ValueError PySem.F.notTuple_ValueError (by rw [isSubtype_type]; kernel_rfl) ?_
  refine wp_builtin hG (hr₄.er_hid hf) h4 ⟨hmg, hmb⟩ ⟨rfl, ⟨ob, hob, hobc⟩, ?_⟩
  rw [if_pos rfl]
  refine fly_none (s := { s₂ with heap := h4' }) f4 fun h5' f5 u5 => wpAny_execs_cons (wpAny_Pass (wpAny_execs_nil ?_))
  have hr₅ : SR s0 cLaw env Fc { s₂ with heap := h5' } O W := hr₁.upS hf (keep f5) (((u2.trans (.of u3)).trans (.of u4)).trans (.of u5)) t2 o2 g2
  exact post_go hR ⟨fun b o hb q => keep f5 b o (fun q' => hb (.inl (.inl q'))) (k₁.hp b o q), Nat.le_trans k₁.tk t2, gnx k₁.gx (let ⟨t1, q1, _⟩ := g2; ⟨t1, q1⟩)⟩ hr₅ (Osub.refl _ _)

theorem law_orc {X : Xt} (hX : X.orcs = [(tryX, tryPt)]) (hG : GOk prog w sB mg mb L XB.G) (hD : GDef sB mg ga og fg) (hS : SDef sB mg sa os' fs) (hmg : mg "ValueError" = none) (hmb : mb "ValueError" = some (.type "ValueError"))
    (hlim : sB.heap.NoLimit) (hf : FR sB s0 cLaw env Fc) (hfr : A.frames = some [env]) (hfrm : env.frame = some env.locals) : OrcOk prog w s0 (L + 1) X cLaw env Fc A := by
  intro n p hp W R s O E hA hr hw
  have hp : p = (tryX, tryPt) := by
    rw [hX] at hp
    cases n with
    | zero => exact (Option.some.inj hp).symm
    | succ n => exact nomatch hp
  subst hp
  exact try_step hG hD hS hmg hmb hlim hf hfr hfrm hA hr hw
end
end Mp
end

section
open PySem PySem.W PyProof.Rows PySem.Calls
set_option maxRecDepth 100000
set_option linter.unusedVariables false
set_option linter.unusedSimpArgs false
set_option linter.unusedSectionVars false
namespace Mp
open PySem.Builtin PySem.Builtin.Str PySem.StrLaws

/-! ## texts -/
noncomputable abbrev ofL (l : List Nat) : Str := ⟨l.toArray⟩
theorem ofL_cps (l : List Nat) : (ofL l).cps.toList = l := by simp
theorem ofL_len (l : List Nat) : (ofL l).length = l.length := by simp [Str.length]
theorem ofL_add (a b : List Nat) : ofL a ++ ofL b = ofL (a ++ b) := by
  apply Str.ext'
  show a.toArray ++ b.toArray = (a ++ b).toArray
  simp
theorem dots : (Str.ofString "...") = ofL [46, 46, 46] := by decide
theorem toL (x : Str) : x = ofL x.cps.toList := by cases x; simp

noncomputable def swapc (c d : Nat) (l : List Nat) : List Nat := l.map fun k => if k = c then d else k
theorem swapc_free (c d : Nat) : ∀ l : List Nat, c ∉ l → swapc c d l = l
  | [], _ => rfl
  | k :: r, h => by
    have h1 : ¬ k = c := fun e => h (e ▸ List.mem_cons_self ..)
    have h2 : c ∉ r := fun m => h (List.mem_cons_of_mem _ m)
    have := swapc_free c d r h2
    unfold swapc at this ⊢
    rw [List.map_cons, if_neg h1, this]
theorem swapc_join (c d : Nat) : ∀ parts : List Str, (∀ p ∈ parts, c ∉ p.cps.toList) → swapc c d (Str.join ⟨#[c]⟩ parts).cps.toList = (Str.join ⟨#[d]⟩ parts).cps.toList
  | [], _ => rfl
  | [p], h => swapc_free c d _ (h p (List.mem_singleton.mpr rfl))
  | p :: q :: r, h => by
    have ih := swapc_join c d (q :: r) fun a ha => h a (List.mem_cons_of_mem _ ha)
    show swapc c d (p ++ ⟨#[c]⟩ ++ Str.join ⟨#[c]⟩ (q :: r)).cps.toList = (p ++ ⟨#[d]⟩ ++ Str.join ⟨#[d]⟩ (q :: r)).cps.toList
    simp only [Str.cps_append, Array.toList_append]
    have := swapc_free c d _ (h p (List.mem_cons_self ..))
    unfold swapc at this ih ⊢
    rw [List.map_append, List.map_append, ih, this]
    simp
theorem replace_swap (l : List Nat) (c d : Nat) : Txt.replace (ofL l) ⟨#[c]⟩ ⟨#[d]⟩ = ofL (swapc c d l) := by
  rw [toL (Txt.replace _ _ _), replace_one, ← swapc_join c d _ (split_free _ c), join_split, ofL_cps]

/-! ## the dots -/
theorem dots_at {x y : List Nat} (hx : 46 ∉ x) (hy : 46 ∉ y) (i : Nat) : At (ofL (x ++ [46, 46, 46] ++ y)) (ofL [46, 46, 46]) (ofL (x ++ [46, 46, 46] ++ y)).length i ↔ i = x.length := by
  have hget : ∀ j, (x ++ [46, 46, 46] ++ y)[j]? = some 46 → x.length ≤ j ∧ j < x.length + 3 := by
    intro j hj
    constructor
    · rcases Nat.lt_or_ge j x.length with h | h
      · rw [List.append_assoc, List.getElem?_append_left h] at hj
        exact absurd (List.mem_of_getElem? hj) hx
      · exact h
    · rcases Nat.lt_or_ge j (x.length + 3) with h | h
      · exact h
      · rw [List.getElem?_append_right (by simpa using h)] at hj
        exact absurd (List.mem_of_getElem? hj) hy
  constructor
  · rintro ⟨_, h2⟩
    rw [subAt_eq, ofL_cps, ofL_cps, beq_iff_eq] at h2
    have g : ∀ k, k < 3 → (x ++ [46, 46, 46] ++ y)[i + k]? = some 46 := by
      intro k hk
      have e : (((x ++ [46, 46, 46] ++ y).drop i).take (ofL [46, 46, 46]).length)[k]? = some 46 := by
        rw [h2]
        match k, hk with
        | 0, _ => rfl
        | 1, _ => rfl
        | 2, _ => rfl
      rw [List.getElem?_take_of_lt (by simpa [Str.length] using hk), List.getElem?_drop] at e
      exact e
    have h0 := hget _ (g 0 (by decide))
    have h3 := hget _ (g 2 (by decide))
    omega
  · rintro rfl
    refine ⟨by simp [Str.length], ?_⟩
    rw [subAt_eq, ofL_cps, ofL_cps, beq_iff_eq, List.append_assoc, List.drop_left]
    simp [Str.length]

theorem kind_pos (x : Str) : 1 ≤ Str.strKind x := by
  unfold Str.strKind
  split
  · exact Nat.le_refl _
  · split <;> omega

theorem split_dots {x y : List Nat} (hx : 46 ∉ x) (hy : 46 ∉ y) : Txt.split (ofL (x ++ [46, 46, 46] ++ y)) (ofL [46, 46, 46]) = [ofL x, ofL y] := by
  have key : occurrences (ofL (x ++ [46, 46, 46] ++ y)) (ofL [46, 46, 46]) 0 (ofL (x ++ [46, 46, 46] ++ y)).length ((ofL (x ++ [46, 46, 46] ++ y)).length + 1) = [x.length] := by
    obtain ⟨f, hG, hn⟩ := occ_tight (ofL (x ++ [46, 46, 46] ++ y)) (ofL [46, 46, 46]) (by decide)
    revert hG
    cases occurrences (ofL (x ++ [46, 46, 46] ++ y)) (ofL [46, 46, 46]) 0 (ofL (x ++ [46, 46, 46] ++ y)).length ((ofL (x ++ [46, 46, 46] ++ y)).length + 1) with
    | nil =>
      intro hG
      have e : f = 0 := hG
      subst e
      exact absurd ((dots_at hx hy x.length).mpr rfl) (hn _ (Nat.zero_le _))
    | cons c r =>
      rintro ⟨_, h2, _, h4⟩
      have hc := (dots_at hx hy c).mp h2
      subst hc
      cases r with
      | nil => rfl
      | cons d r =>
        obtain ⟨h5, h6, _⟩ := h4
        have hd := (dots_at hx hy d).mp h6
        have h3 : (ofL [46, 46, 46]).length = 3 := rfl
        rw [h3] at h5
        omega
  unfold Txt.split
  rw [key]
  have hk : Str.strKind (ofL [46, 46, 46]) = 1 := by decide +kernel
  have h1 := kind_pos (ofL (x ++ [46, 46, 46] ++ y))
  have hl : (ofL [46, 46, 46]).length = 3 := rfl
  rw [if_neg (by rw [hk, hl, ofL_len]; simp only [Bool.or_eq_true, decide_eq_true_eq, List.length_append, List.length_cons, List.length_nil]; omega), if_neg (by simp)]
  unfold partsBetween
  rw [hl]
  simp only [List.map_cons, List.map_nil, List.cons_append, List.nil_append, List.zip_cons_cons, List.zip_nil_right]
  have e1 : strSub (ofL (x ++ [46, 46, 46] ++ y)) 0 x.length = ofL x := by
    rw [toL (strSub _ _ _), strSub_toList, ofL_cps]; simp
  have e2 : strSub (ofL (x ++ [46, 46, 46] ++ y)) (x.length + 3) (ofL (x ++ [46, 46, 46] ++ y)).length = ofL y := by
    rw [toL (strSub _ _ _), strSub_toList, ofL_cps, ofL_len]
    have : (x ++ [46, 46, 46] ++ y).drop (x.length + 3) = y := by
      rw [List.drop_append_of_le_length (by simp)]
      simp
    rw [this, List.take_of_length_le (by simp; omega)]
  rw [e1, e2]

theorem has_dots {x y : List Nat} (hx : 46 ∉ x) (hy : 46 ∉ y) : (occurrences (ofL (x ++ [46, 46, 46] ++ y)) (ofL [46, 46, 46]) 0 (ofL (x ++ [46, 46, 46] ++ y)).length 1).isEmpty = false := by
  have := (found_iff (ofL (x ++ [46, 46, 46] ++ y)) (ofL [46, 46, 46])).mpr ⟨x.length, (dots_at hx hy x.length).mpr rfl⟩
  simpa using this

theorem split_letter : ∀ k, k < 16 → Txt.split (ofL [46, 46, 46, 97 + k, 46, 46, 46]) (ofL [46, 46, 46]) = [ofL [], ofL [97 + k], ofL []] := by decide +kernel
theorem has_letter : ∀ k, k < 16 → (occurrences (ofL [46, 46, 46, 97 + k, 46, 46, 46]) (ofL [46, 46, 46]) 0 7 1).isEmpty = false := by decide +kernel

/-! ## find -/
theorem occ_stop (s sub : Str) (hi limit : Nat) : ∀ (l : List Nat) (st : Array Nat × Nat), limit ≤ st.fst.size → (forIn l st (occBody s sub hi limit)).run.fst = st.fst
  | [], st, _ => rfl
  | a :: l, st, h => by
    rw [List.forIn_cons]
    unfold occBody
    rw [if_neg (fun c => by have := c.1.1.1; omega)]
    exact occ_stop s sub hi limit l st h
theorem find_empty (s : Str) {lo hi : Nat} (h : lo ≤ hi) : occurrences s (ofL []) lo hi 1 = [lo] := by
  rw [occ_eq]
  obtain ⟨m, hm⟩ : ∃ m, hi + 1 - lo = m + 1 := ⟨hi - lo, by omega⟩
  rw [hm, List.range'_succ, List.forIn_cons]
  unfold occBody
  rw [if_pos ⟨⟨⟨by simp, Nat.le_refl _⟩, by simpa [Str.length] using h⟩, by rw [subAt_eq]; simp [Str.length]⟩]
  show (forIn (List.range' (lo + 1) m) ((#[] : Array Nat).push lo, lo + (ofL []).length) (occBody s (ofL []) hi 1)).run.fst.toList = [lo]
  rw [occ_stop _ _ _ _ _ _ (by simp)]
  simp
theorem starts_eq (x y : List Nat) : Txt.startswith (ofL x) (ofL y) = (decide (y.length ≤ x.length) && (x.take y.length == y)) := by
  unfold Txt.startswith
  rw [subAt_eq, ofL_cps, ofL_cps, ofL_len, ofL_len]
  simp
theorem ends_eq (x y : List Nat) : Txt.endswith (ofL x) (ofL y) = (decide (y.length ≤ x.length) && (x.drop (x.length - y.length) == y)) := by
  unfold Txt.endswith
  rw [subAt_eq, ofL_cps, ofL_cps, ofL_len, ofL_len]
  simp only [Nat.zero_add]
  by_cases h : y.length ≤ x.length
  · rw [List.take_of_length_le (by simp; omega)]
  · simp [h]
end Mp
end

section
open PySem PySem.W PyProof.Rows PySem.Calls
set_option maxRecDepth 100000
set_option linter.unusedVariables false
set_option linter.unusedSimpArgs false
set_option linter.unusedSectionVars false
namespace Mp
open PySem.Builtin PySem.Builtin.Str PySem.StrLaws

noncomputable def ellF (x y got : List Nat) : Bool := (decide (x.length ≤ got.length) && (got.take x.length == x)) && (decide (y.length ≤ got.length) && (got.drop (got.length - y.length) == y)) && decide (x.length + y.length ≤ got.length)
noncomputable def cEll : Ctr := fun ds Q => ∃ (want got : List Nat), ds = [.str (ofL want), .str (ofL got)] ∧ got.length ≤ 1000 ∧ want.length ≤ 5000 ∧
  ((∃ x y, want = x ++ [46, 46, 46] ++ y ∧ 46 ∉ x ∧ 46 ∉ y ∧ (x ≠ [] ∨ y ≠ []) ∧ Q (.bool (ellF x y got))) ∨ (∃ k, k < 16 ∧ want = [46, 46, 46, 97 + k, 46, 46, 46] ∧ Q (.bool (decide (97 + k ∈ got)))))

noncomputable abbrev WE (want got : List Nat) (ws : List D) (a b : Int) (w : V) : Ws := [.val (.str (ofL want)), .val (.str (ofL got)), .own ws, .val (.int a), .val (.int b), w]
theorem cmp_notin {x y : Str} {Q : D → Prop} : pcmp .NotIn (.str x) (.str y) Q = Q (.bool (!!(occurrences y x 0 y.length 1).isEmpty)) := rfl
theorem truth_of {p : List Nat} {F : Bool → Prop} (hp : p.length ≤ 5000) (h0 : p = [] → F false) (h1 : p ≠ [] → F true) : ptruth (.str (ofL p)) F := by
  refine ⟨by rw [ofL_len]; omega, ?_⟩
  by_cases h : p = []
  · rw [ofL_len, h]; exact h0 h
  · rw [ofL_len, show decide (p.length ≠ 0) = true by simpa using h]; exact h1 h
theorem ofL_lenI (l : List Nat) : ((ofL l).length : Int) = (l.length : Int) := by rw [ofL_len]

section
variable {want got : List Nat} {Q : D → Prop} {R : Out → Prop}

theorem ell_0 {ps : List Str} (hw : want.length ≤ 5000) (hg : got.length ≤ 1000) (hd : (occurrences (ofL want) (ofL [46, 46, 46]) 0 (ofL want).length 1).isEmpty = false) (hs : Txt.split (ofL want) (ofL [46, 46, 46]) = ps) (hp : 2 ≤ ps.length) (hp' : ps.length ≤ 1000)
    (h : pxs X0 ir_ellipsis_match_4 (WE want got (ps.map D.str) 0 got.length .no) R) :
    pxs X0 ir_ellipsis_match [.val (.str (ofL want)), .val (.str (ofL got)), .no, .no, .no, .no] R := by
  unfold ir_ellipsis_match
  refine s_ite ?_
  simp only [pe_cst, pe_neg, pe_var, pe_gval, pe_bin, pe_cmp, pe_ite, pe_and, pe_one, pe_bi, pe_fn, pe_meth, pe_item, pe_slA, pe_slL, pe_slU, pe_lst, pe_tup, pe_isint, pe_comp, pe_compif, pt_cmp, pt_and, pt_or, pt_one, pt_var, pt_isint, pt_fn, pt_meth, vis, List.map_cons, List.map_nil, V.vis, List.getElem?_cons_zero, List.getElem?_cons_succ, vals0]
  rw [cmp_notin, dots, hd]
  simp only [ptruth_bool]
  rw [if_neg (by decide)]
  refine s_nil ?_
  rw [nxt_go]
  unfold ir_ellipsis_match_1
  refine s_own ?_
  simp only [N.i, onL, pe_cst, pe_neg, pe_var, pe_gval, pe_bin, pe_cmp, pe_ite, pe_and, pe_one, pe_bi, pe_fn, pe_meth, pe_item, pe_slA, pe_slL, pe_slU, pe_lst, pe_tup, pe_isint, pe_comp, pe_compif, pes_nil, pes_cons, hid, List.map_cons, List.map_nil, V.hid, List.getElem?_cons_zero, List.getElem?_cons_succ, vals0, pmeth_split, pmeth_startswith, pmeth_endswith, pmeth_find, D.text]
  refine ⟨rfl, ⟨by decide, by rw [ofL_len]; omega⟩, ?_⟩
  rw [dots, hs]
  simp only [List.set_cons_zero, List.set_cons_succ]
  unfold ir_ellipsis_match_2
  refine s_asrt ?_
  simp only [pe_cst, pe_neg, pe_var, pe_gval, pe_bin, pe_cmp, pe_ite, pe_and, pe_one, pe_bi, pe_fn, pe_meth, pe_item, pe_slA, pe_slL, pe_slU, pe_lst, pe_tup, pe_isint, pe_comp, pe_compif, pes_nil, pes_cons, pt_cmp, pt_and, pt_or, pt_one, pt_var, pt_isint, pt_fn, pt_meth, vis, List.map_cons, List.map_nil, V.vis, List.getElem?_cons_zero, List.getElem?_cons_succ, bis0]
  refine ⟨by simpa using Nat.le_trans hp' (by decide), ?_⟩
  simp only [pcmp_ltI, pcmp_leI, pcmp_gtI', pcmp_geI, pcmp_eqI, pcmp_neI', pcmp_eqF, pcmp_eqFI, pcmp_isB, pcmp_isnotB, ptruth_bool, List.length_map]
  refine ⟨by simp; omega, ?_⟩
  unfold ir_ellipsis_match_3
  refine s_swp ?_
  simp only [pe_cst, pe_neg, pe_var, pe_gval, pe_bin, pe_cmp, pe_ite, pe_and, pe_one, pe_bi, pe_fn, pe_meth, pe_item, pe_slA, pe_slL, pe_slU, pe_lst, pe_tup, pe_isint, pe_comp, pe_compif, pes_nil, pes_cons, hid, List.map_cons, List.map_nil, V.hid, List.getElem?_cons_zero, List.getElem?_cons_succ, bis0]
  refine ⟨by rw [ofL_len]; omega, ?_⟩
  rw [ofL_lenI]
  exact h

theorem ell_4 {p : List Nat} {ps : List D} {n : Int} (hp : p.length ≤ 5000) (hps : ps.length ≤ 1000)
    (h0 : p = [] → pxs X0 ir_ellipsis_match_6 (WE want got (.str (ofL p) :: ps) 0 n (.val (.str (ofL p)))) (retP Q))
    (h1 : p ≠ [] → (decide (p.length ≤ got.length) && (got.take p.length == p)) = true → pxs X0 ir_ellipsis_match_6 (WE want got ps p.length n (.val (.str (ofL p)))) (retP Q))
    (h2 : p ≠ [] → (decide (p.length ≤ got.length) && (got.take p.length == p)) = false → Q (.bool false)) :
    pxs X0 ir_ellipsis_match_4 (WE want got (.str (ofL p) :: ps) 0 n .no) (retP Q) := by
  unfold ir_ellipsis_match_4
  refine s_asnf ?_
  simp only [pe_cst, pe_neg, pe_var, pe_gval, pe_bin, pe_cmp, pe_ite, pe_and, pe_one, pe_bi, pe_fn, pe_meth, pe_item, pe_slA, pe_slL, pe_slU, pe_lst, pe_tup, pe_isint, pe_comp, pe_compif, vis, List.map_cons, List.map_nil, V.vis, List.getElem?_cons_zero, List.getElem?_cons_succ]
  refine ⟨by decide, by simp; omega, ?_⟩
  rw [if_neg (by decide)]
  refine ⟨fun h => absurd h (by decide), trivial, ?_⟩
  simp only [List.set_cons_zero, List.set_cons_succ]
  unfold ir_ellipsis_match_5
  refine s_ite ?_
  simp only [pt_cmp, pt_and, pt_or, pt_one, pt_var, pt_isint, pt_fn, pt_meth, vis, List.map_cons, List.map_nil, V.vis, List.getElem?_cons_zero, List.getElem?_cons_succ]
  refine truth_of (by omega) (fun hp0 => ?_) fun hp0 => ?_
  · rw [if_neg (by decide)]
    exact s_nil (h0 hp0)
  · rw [if_pos rfl]
    unfold ellipsis_match_b4
    refine s_ite ?_
    simp only [pt_cmp, pt_and, pt_or, pt_one, pt_var, pt_isint, pt_fn, pt_meth, pe_cst, pe_neg, pe_var, pe_gval, pe_bin, pe_cmp, pe_ite, pe_and, pe_one, pe_bi, pe_fn, pe_meth, pe_item, pe_slA, pe_slL, pe_slU, pe_lst, pe_tup, pe_isint, pe_comp, pe_compif, pes_nil, pes_cons, vis, List.map_cons, List.map_nil, V.vis, List.getElem?_cons_zero, List.getElem?_cons_succ, pmeth_split, pmeth_startswith, pmeth_endswith, pmeth_find, D.text]
    refine ⟨rfl, ?_⟩
    rw [starts_eq]
    simp only [ptruth_bool]
    cases hb : (decide (p.length ≤ got.length) && (got.take p.length == p)) with
    | false =>
      rw [if_neg (by decide)]
      unfold ellipsis_match_b3
      refine s_ret ?_
      simp only [pe_cst, pe_neg, pe_var, pe_gval, pe_bin, pe_cmp, pe_ite, pe_and, pe_one, pe_bi, pe_fn, pe_meth, pe_item, pe_slA, pe_slL, pe_slU, pe_lst, pe_tup, pe_isint, pe_comp, pe_compif]
      exact h2 hp0 hb
    | true =>
      rw [if_pos rfl]
      unfold ellipsis_match_b2
      refine s_asn ?_
      simp only [pe_cst, pe_neg, pe_var, pe_gval, pe_bin, pe_cmp, pe_ite, pe_and, pe_one, pe_bi, pe_fn, pe_meth, pe_item, pe_slA, pe_slL, pe_slU, pe_lst, pe_tup, pe_isint, pe_comp, pe_compif, pes_nil, pes_cons, hid, List.map_cons, List.map_nil, V.hid, List.getElem?_cons_zero, List.getElem?_cons_succ, bis0]
      refine ⟨by rw [ofL_len]; omega, ?_⟩
      simp only [List.set_cons_zero, List.set_cons_succ]
      unfold ellipsis_match_b2_1
      refine s_del (xs := .str (ofL p) :: ps) rfl ⟨⟨by simp, by simp; omega⟩, ?_⟩
      refine s_nil ?_
      rw [nxt_go]
      refine s_nil ?_
      rw [nxt_go]
      rw [ofL_lenI]
      exact h1 hp0 hb

theorem ell_6 {q : List Nat} {ps : List D} {a : Int} {w : V} (hw : (vis [w]).length = 1) (hq : q.length ≤ 5000) (hps : ps.length ≤ 1000)
    (h0 : q = [] → pxs X0 ir_ellipsis_match_8 (WE want got (ps ++ [.str (ofL q)]) a got.length (.val (.str (ofL q)))) (retP Q))
    (h1 : q ≠ [] → (decide (q.length ≤ got.length) && (got.drop (got.length - q.length) == q)) = true → pxs X0 ir_ellipsis_match_8 (WE want got ps a (got.length - q.length) (.val (.str (ofL q)))) (retP Q))
    (h2 : q ≠ [] → (decide (q.length ≤ got.length) && (got.drop (got.length - q.length) == q)) = false → Q (.bool false)) :
    pxs X0 ir_ellipsis_match_6 (WE want got (ps ++ [.str (ofL q)]) a got.length w) (retP Q) := by
  unfold ir_ellipsis_match_6
  refine s_asnf ?_
  simp only [pe_cst, pe_neg, pe_var, pe_gval, pe_bin, pe_cmp, pe_ite, pe_and, pe_one, pe_bi, pe_fn, pe_meth, pe_item, pe_slA, pe_slL, pe_slU, pe_lst, pe_tup, pe_isint, pe_comp, pe_compif, vis, List.map_cons, List.map_nil, V.vis, List.getElem?_cons_zero, List.getElem?_cons_succ]
  refine ⟨fun _ => rfl, by simp; omega, ?_⟩
  rw [if_pos (by decide)]
  have e1 : ((-1 + ((ps ++ [D.str (ofL q)]).length : Int))).toNat = ps.length := by simp; omega
  rw [e1, List.getElem?_append_right (Nat.le_refl _), Nat.sub_self]
  simp only [List.getElem?_cons_zero]
  refine ⟨fun _ => by simp, trivial, ?_⟩
  simp only [List.set_cons_zero, List.set_cons_succ]
  unfold ir_ellipsis_match_7
  refine s_ite ?_
  simp only [pt_cmp, pt_and, pt_or, pt_one, pt_var, pt_isint, pt_fn, pt_meth, vis, List.map_cons, List.map_nil, V.vis, List.getElem?_cons_zero, List.getElem?_cons_succ]
  refine truth_of (by omega) (fun hp0 => ?_) fun hp0 => ?_
  · rw [if_neg (by decide)]
    exact s_nil (h0 hp0)
  · rw [if_pos rfl]
    unfold ellipsis_match_b7
    refine s_ite ?_
    simp only [pt_cmp, pt_and, pt_or, pt_one, pt_var, pt_isint, pt_fn, pt_meth, pe_cst, pe_neg, pe_var, pe_gval, pe_bin, pe_cmp, pe_ite, pe_and, pe_one, pe_bi, pe_fn, pe_meth, pe_item, pe_slA, pe_slL, pe_slU, pe_lst, pe_tup, pe_isint, pe_comp, pe_compif, pes_nil, pes_cons, vis, List.map_cons, List.map_nil, V.vis, List.getElem?_cons_zero, List.getElem?_cons_succ, pmeth_split, pmeth_startswith, pmeth_endswith, pmeth_find, D.text]
    refine ⟨rfl, ?_⟩
    rw [ends_eq]
    simp only [ptruth_bool]
    cases hb : (decide (q.length ≤ got.length) && (got.drop (got.length - q.length) == q)) with
    | false =>
      rw [if_neg (by decide)]
      unfold ellipsis_match_b6
      refine s_ret ?_
      simp only [pe_cst, pe_neg, pe_var, pe_gval, pe_bin, pe_cmp, pe_ite, pe_and, pe_one, pe_bi, pe_fn, pe_meth, pe_item, pe_slA, pe_slL, pe_slU, pe_lst, pe_tup, pe_isint, pe_comp, pe_compif]
      exact h2 hp0 hb
    | true =>
      rw [if_pos rfl]
      unfold ellipsis_match_b5
      refine s_aug (o := .int got.length) rfl ?_
      simp only [pe_cst, pe_neg, pe_var, pe_gval, pe_bin, pe_cmp, pe_ite, pe_and, pe_one, pe_bi, pe_fn, pe_meth, pe_item, pe_slA, pe_slL, pe_slU, pe_lst, pe_tup, pe_isint, pe_comp, pe_compif, pes_nil, pes_cons, vis, List.map_cons, List.map_nil, V.vis, List.getElem?_cons_zero, List.getElem?_cons_succ, bis0]
      refine ⟨by rw [ofL_len]; omega, trivial, ?_⟩
      simp only [List.set_cons_zero, List.set_cons_succ]
      unfold ellipsis_match_b5_1
      refine s_del (xs := ps ++ [.str (ofL q)]) rfl ⟨⟨by simp, by simp; omega⟩, ?_⟩
      refine s_nil ?_
      rw [nxt_go]
      refine s_nil ?_
      rw [nxt_go]
      rw [ofL_lenI, if_pos rfl, List.dropLast_concat]
      exact h1 hp0 hb
end
end Mp
end

section
open PySem PySem.W PyProof.Rows PySem.Calls
set_option maxRecDepth 100000
set_option linter.unusedVariables false
set_option linter.unusedSimpArgs false
set_option linter.unusedSectionVars false
namespace Mp
open PySem.Builtin PySem.Builtin.Str PySem.StrLaws

noncomputable abbrev WB (want got : List Nat) (ds : List D) (a b : Int) (w : V) : Ws := [.val (.str (ofL want)), .val (.str (ofL got)), .val (.list ds), .val (.int a), .val (.int b), w]
section
variable {want got : List Nat} {Q : D → Prop} {R : Out → Prop}

theorem ell_8 {ps : List D} {a b : Int} {w : V}
    (h0 : a > b → Q (.bool false)) (h1 : ¬ a > b → pxs X0 ir_ellipsis_match_10 (WB want got ps a b w) (retP Q)) :
    pxs X0 ir_ellipsis_match_8 (WE want got ps a b w) (retP Q) := by
  unfold ir_ellipsis_match_8
  refine s_ite ?_
  simp only [pe_cst, pe_neg, pe_var, pe_gval, pe_bin, pe_cmp, pe_ite, pe_and, pe_one, pe_bi, pe_fn, pe_meth, pe_item, pe_slA, pe_slL, pe_slU, pe_lst, pe_tup, pe_isint, pe_comp, pe_compif, pt_cmp, pt_and, pt_or, pt_one, pt_var, pt_isint, pt_fn, pt_meth, vis, List.map_cons, List.map_nil, V.vis, List.getElem?_cons_zero, List.getElem?_cons_succ, pcmp_ltI, pcmp_leI, pcmp_gtI', pcmp_geI, pcmp_eqI, pcmp_neI', pcmp_eqF, pcmp_eqFI, pcmp_isB, pcmp_isnotB, ptruth_bool]
  by_cases h : a > b
  · rw [if_pos (by simpa using h)]
    unfold ellipsis_match_b8
    refine s_ret ?_
    simp only [pe_cst, pe_neg, pe_var, pe_gval, pe_bin, pe_cmp, pe_ite, pe_and, pe_one, pe_bi, pe_fn, pe_meth, pe_item, pe_slA, pe_slL, pe_slU, pe_lst, pe_tup, pe_isint, pe_comp, pe_compif]
    exact h0 h
  · rw [if_neg (by simpa using h)]
    refine s_nil ?_
    rw [nxt_go]
    unfold ir_ellipsis_match_9
    refine s_rel (xs := ps) rfl ?_
    exact h1 h

/-- one turn: an empty text -/
theorem ell_turn0 {ds : List D} {a b : Nat} (hab : a ≤ b) (hb : b ≤ got.length) (h : R (.go (WB want got ds a b (.val (.str (ofL [])))))) :
    pxs X0 ellipsis_match_b10 (WB want got ds a b (.val (.str (ofL [])))) R := by
  unfold ellipsis_match_b10
  refine s_asn ?_
  simp only [pe_cst, pe_neg, pe_var, pe_gval, pe_bin, pe_cmp, pe_ite, pe_and, pe_one, pe_bi, pe_fn, pe_meth, pe_item, pe_slA, pe_slL, pe_slU, pe_lst, pe_tup, pe_isint, pe_comp, pe_compif, pes_nil, pes_cons, hid, List.map_cons, List.map_nil, V.hid, List.getElem?_cons_zero, List.getElem?_cons_succ, pmeth_split, pmeth_startswith, pmeth_endswith, pmeth_find, D.text]
  refine ⟨rfl, ⟨by omega, by omega, by rw [ofL_len]; omega⟩, ?_⟩
  rw [Int.toNat_natCast, Int.toNat_natCast, find_empty _ hab]
  simp only [List.set_cons_zero, List.set_cons_succ]
  unfold ellipsis_match_b10_1
  refine s_ite ?_
  simp only [pe_cst, pe_neg, pe_var, pe_gval, pe_bin, pe_cmp, pe_ite, pe_and, pe_one, pe_bi, pe_fn, pe_meth, pe_item, pe_slA, pe_slL, pe_slU, pe_lst, pe_tup, pe_isint, pe_comp, pe_compif, pt_cmp, pt_and, pt_or, pt_one, pt_var, pt_isint, pt_fn, pt_meth, vis, List.map_cons, List.map_nil, V.vis, List.getElem?_cons_zero, List.getElem?_cons_succ, pcmp_ltI, pcmp_leI, pcmp_gtI', pcmp_geI, pcmp_eqI, pcmp_neI', pcmp_eqF, pcmp_eqFI, pcmp_isB, pcmp_isnotB, ptruth_bool]
  rw [show occ1 [a] = (a : Int) from rfl, if_neg (fun h => absurd (of_decide_eq_true h) (Int.not_lt.mpr (Int.natCast_nonneg a)))]
  refine s_nil ?_
  rw [nxt_go]
  unfold ellipsis_match_b10_2
  refine s_aug (o := .int a) rfl ?_
  simp only [pe_cst, pe_neg, pe_var, pe_gval, pe_bin, pe_cmp, pe_ite, pe_and, pe_one, pe_bi, pe_fn, pe_meth, pe_item, pe_slA, pe_slL, pe_slU, pe_lst, pe_tup, pe_isint, pe_comp, pe_compif, pes_nil, pes_cons, vis, List.map_cons, List.map_nil, V.vis, List.getElem?_cons_zero, List.getElem?_cons_succ, bis0]
  refine ⟨by decide, trivial, ?_⟩
  simp only [List.set_cons_zero, List.set_cons_succ]
  refine s_nil ?_
  exact h

/-- one turn: a letter -/
theorem ell_turn1 {ds : List D} {c : Nat} (hn : got.length ≤ 1000) (h0 : c ∉ got → R (.ret (.bool false))) (h1 : c ∈ got → ∀ a : Nat, a ≤ got.length → R (.go (WB want got ds a got.length (.val (.str (ofL [c])))))) :
    pxs X0 ellipsis_match_b10 (WB want got ds (0 : Nat) got.length (.val (.str (ofL [c])))) R := by
  unfold ellipsis_match_b10
  refine s_asn ?_
  simp only [pe_cst, pe_neg, pe_var, pe_gval, pe_bin, pe_cmp, pe_ite, pe_and, pe_one, pe_bi, pe_fn, pe_meth, pe_item, pe_slA, pe_slL, pe_slU, pe_lst, pe_tup, pe_isint, pe_comp, pe_compif, pes_nil, pes_cons, hid, List.map_cons, List.map_nil, V.hid, List.getElem?_cons_zero, List.getElem?_cons_succ, pmeth_split, pmeth_startswith, pmeth_endswith, pmeth_find, D.text]
  refine ⟨rfl, ⟨by omega, by omega, by rw [ofL_len]; omega⟩, ?_⟩
  rw [Int.toNat_natCast, Int.toNat_natCast]
  have key := found_one (ofL got) c
  rw [ofL_cps, ofL_len] at key
  have spec := occ_spec (ofL got) (ofL [c]) 0 got.length 1
  have e1 : (ofL [c]) = (⟨#[c]⟩ : Str) := rfl
  rw [e1] at spec ⊢
  cases ho : occurrences (ofL got) ⟨#[c]⟩ 0 got.length 1 with
  | nil =>
    rw [ho] at key
    have hc : c ∉ got := by simpa using key
    simp only [List.set_cons_zero, List.set_cons_succ]
    unfold ellipsis_match_b10_1
    refine s_ite ?_
    simp only [pe_cst, pe_neg, pe_var, pe_gval, pe_bin, pe_cmp, pe_ite, pe_and, pe_one, pe_bi, pe_fn, pe_meth, pe_item, pe_slA, pe_slL, pe_slU, pe_lst, pe_tup, pe_isint, pe_comp, pe_compif, pt_cmp, pt_and, pt_or, pt_one, pt_var, pt_isint, pt_fn, pt_meth, vis, List.map_cons, List.map_nil, V.vis, List.getElem?_cons_zero, List.getElem?_cons_succ, pcmp_ltI, pcmp_leI, pcmp_gtI', pcmp_geI, pcmp_eqI, pcmp_neI', pcmp_eqF, pcmp_eqFI, pcmp_isB, pcmp_isnotB, ptruth_bool]
    rw [if_pos (by decide)]
    unfold ellipsis_match_b9
    refine s_ret ?_
    simp only [pe_cst, pe_neg, pe_var, pe_gval, pe_bin, pe_cmp, pe_ite, pe_and, pe_one, pe_bi, pe_fn, pe_meth, pe_item, pe_slA, pe_slL, pe_slU, pe_lst, pe_tup, pe_isint, pe_comp, pe_compif]
    exact h0 hc
  | cons k r =>
    rw [ho] at key spec
    have hc : c ∈ got := by simpa using key
    have hk : k + 1 ≤ got.length := (spec k (List.mem_cons_self ..)).1
    simp only [List.set_cons_zero, List.set_cons_succ]
    unfold ellipsis_match_b10_1
    refine s_ite ?_
    simp only [pe_cst, pe_neg, pe_var, pe_gval, pe_bin, pe_cmp, pe_ite, pe_and, pe_one, pe_bi, pe_fn, pe_meth, pe_item, pe_slA, pe_slL, pe_slU, pe_lst, pe_tup, pe_isint, pe_comp, pe_compif, pt_cmp, pt_and, pt_or, pt_one, pt_var, pt_isint, pt_fn, pt_meth, vis, List.map_cons, List.map_nil, V.vis, List.getElem?_cons_zero, List.getElem?_cons_succ, pcmp_ltI, pcmp_leI, pcmp_gtI', pcmp_geI, pcmp_eqI, pcmp_neI', pcmp_eqF, pcmp_eqFI, pcmp_isB, pcmp_isnotB, ptruth_bool]
    rw [show occ1 (k :: r) = (k : Int) from rfl, if_neg (fun h => absurd (of_decide_eq_true h) (Int.not_lt.mpr (Int.natCast_nonneg k)))]
    refine s_nil ?_
    rw [nxt_go]
    unfold ellipsis_match_b10_2
    refine s_aug (o := .int k) rfl ?_
    simp only [pe_cst, pe_neg, pe_var, pe_gval, pe_bin, pe_cmp, pe_ite, pe_and, pe_one, pe_bi, pe_fn, pe_meth, pe_item, pe_slA, pe_slL, pe_slU, pe_lst, pe_tup, pe_isint, pe_comp, pe_compif, pes_nil, pes_cons, vis, List.map_cons, List.map_nil, V.vis, List.getElem?_cons_zero, List.getElem?_cons_succ, bis0]
    refine ⟨(by decide : 1 ≤ 1048576), trivial, ?_⟩
    simp only [List.set_cons_zero, List.set_cons_succ]
    refine s_nil ?_
    exact h1 hc (k + 1) hk

theorem ell_end {W : Ws} (h : Q (.bool true)) : pxs X0 ir_ellipsis_match_11 W (retP Q) := by
  unfold ir_ellipsis_match_11
  refine s_ret ?_
  simp only [pe_cst, pe_neg, pe_var, pe_gval, pe_bin, pe_cmp, pe_ite, pe_and, pe_one, pe_bi, pe_fn, pe_meth, pe_item, pe_slA, pe_slL, pe_slU, pe_lst, pe_tup, pe_isint, pe_comp, pe_compif]
  exact h
theorem ell_10_none {a b : Int} {w : V} (h : Q (.bool true)) : pxs X0 ir_ellipsis_match_10 (WB want got [] a b w) (retP Q) := by
  unfold ir_ellipsis_match_10
  refine s_for ?_
  simp only [pit_rng, pit_var, pit_slA, pit_slL, pit_slU, hid, List.map_cons, List.map_nil, V.hid, List.getElem?_cons_zero, List.getElem?_cons_succ]
  refine ⟨by simp, ?_⟩
  unfold pfor
  exact ell_end h
theorem ell_10_one {a b : Nat} {w : V} (hab : a ≤ b) (hb : b ≤ got.length) (h : Q (.bool true)) : pxs X0 ir_ellipsis_match_10 (WB want got [.str (ofL [])] a b w) (retP Q) := by
  unfold ir_ellipsis_match_10
  refine s_for ?_
  simp only [pit_rng, pit_var, pit_slA, pit_slL, pit_slU, hid, List.map_cons, List.map_nil, V.hid, List.getElem?_cons_zero, List.getElem?_cons_succ]
  refine ⟨by simp, ?_⟩
  unfold pfor
  simp only [List.set_cons_zero, List.set_cons_succ]
  refine ell_turn0 hab hb ?_
  show pfor _ _ [] _ _
  unfold pfor
  exact ell_end h
theorem ell_10_three {c : Nat} {w : V} (hn : got.length ≤ 1000) (h : Q (.bool (decide (c ∈ got)))) : pxs X0 ir_ellipsis_match_10 (WB want got [.str (ofL []), .str (ofL [c]), .str (ofL [])] (0 : Nat) got.length w) (retP Q) := by
  unfold ir_ellipsis_match_10
  refine s_for ?_
  simp only [pit_rng, pit_var, pit_slA, pit_slL, pit_slU, hid, List.map_cons, List.map_nil, V.hid, List.getElem?_cons_zero, List.getElem?_cons_succ]
  refine ⟨by simp, ?_⟩
  unfold pfor
  simp only [List.set_cons_zero, List.set_cons_succ]
  refine ell_turn0 (Nat.zero_le _) (Nat.le_refl _) ?_
  show pfor _ _ [_, _] _ _
  unfold pfor
  simp only [List.set_cons_zero, List.set_cons_succ]
  refine ell_turn1 hn (fun hc => ?_) fun hc a ha => ?_
  · rw [show decide (c ∈ got) = false by simpa using hc] at h
    exact h
  · rw [show decide (c ∈ got) = true by simpa using hc] at h
    show pfor _ _ [_] _ _
    unfold pfor
    simp only [List.set_cons_zero, List.set_cons_succ]
    refine ell_turn0 ha (Nat.le_refl _) ?_
    show pfor _ _ [] _ _
    unfold pfor
    exact ell_end h
end

theorem ok_ell (ds : List D) (Q : D → Prop) (h : cEll ds Q) : ds.length = 2 ∧ pxs X0 ir_ellipsis_match (initW (cxOf (fnS "_ellipsis_match")) ds) (retP Q) := by
  obtain ⟨want, got, rfl, hg, hw, h⟩ := h
  refine ⟨rfl, ?_⟩
  simp only [initW, vars_ell, List.length_cons, List.length_nil, Nat.reduceAdd, Nat.reduceSub, List.replicate, List.map_cons, List.map_nil, List.cons_append, List.nil_append]
  rcases h with ⟨x, y, rfl, hx, hy, hne, h⟩ | ⟨k, hk, rfl, h⟩
  · have hxl : x.length ≤ 5000 := by simp at hw; omega
    have hyl : y.length ≤ 5000 := by simp at hw; omega
    refine ell_0 hw hg (has_dots hx hy) (split_dots hx hy) (by simp) (by simp) ?_
    refine ell_4 hxl (by simp) (fun hx0 => ?_) (fun hx0 hb => ?_) fun hx0 hb => ?_
    · -- x = []
      have hy0 : y ≠ [] := hne.resolve_left (fun h => h hx0)
      refine ell_6 (ps := [.str (ofL x)]) rfl hyl (by simp) (fun e => absurd e hy0) (fun _ hb => ?_) fun _ hb => ?_
      · rw [Bool.and_eq_true, decide_eq_true_eq, beq_iff_eq] at hb
        refine ell_8 (fun hc => ?_) fun hc => ?_
        · have := hb.1; omega
        · subst hx0
          have e : ((got.length : Int) - (y.length : Int)) = ((got.length - y.length : Nat) : Int) := by have := hb.1; omega
          rw [e]
          refine ell_10_one (a := 0) (Nat.zero_le _) (Nat.sub_le _ _) ?_
          have : ellF [] y got = true := by simp [ellF, hb.1, hb.2]
          rw [this] at h; exact h
      · subst hx0
        have : ellF [] y got = false := by unfold ellF; rw [hb]; simp
        rw [this] at h; exact h
    · by_cases hy0 : y = []
      · subst hy0
        rw [Bool.and_eq_true, decide_eq_true_eq, beq_iff_eq] at hb
        refine ell_6 (ps := []) rfl hyl (by simp) (fun _ => ?_) (fun e => absurd rfl e) fun e => absurd rfl e
        refine ell_8 (fun hc => ?_) fun hc => ?_
        · have := hb.1; omega
        · refine ell_10_one hb.1 (Nat.le_refl _) ?_
          have : ellF x [] got = true := by simp [ellF, hb.1, hb.2]
          rw [this] at h; exact h
      · refine ell_6 (ps := []) rfl hyl (by simp) (fun e => absurd e hy0) (fun _ hb2 => ?_) fun _ hb2 => ?_
        · refine ell_8 (fun hc => ?_) fun hc => ?_
          · have : ellF x y got = false := by
              unfold ellF
              rw [show decide (x.length + y.length ≤ got.length) = false by simp; omega]; simp
            rw [this] at h; exact h
          · have : ellF x y got = true := by
              unfold ellF
              rw [hb, hb2, show decide (x.length + y.length ≤ got.length) = true by simp; omega]; rfl
            rw [this] at h; exact ell_10_none h
        · have : ellF x y got = false := by unfold ellF; rw [hb2]; simp
          rw [this] at h; exact h
    · have : ellF x y got = false := by unfold ellF; rw [hb]; simp
      rw [this] at h; exact h
  · refine ell_0 (ps := [ofL [], ofL [97 + k], ofL []]) hw hg (has_letter k hk) (split_letter k hk) (by simp) (by simp) ?_
    refine ell_4 (p := []) (by simp) (by simp) (fun _ => ?_) (fun e => absurd rfl e) fun e => absurd rfl e
    refine ell_6 (q := []) (ps := [.str (ofL []), .str (ofL [97 + k])]) rfl (by simp) (by simp) (fun _ => ?_) (fun e => absurd rfl e) fun e => absurd rfl e
    refine ell_8 (fun hc => ?_) fun hc => ?_
    · omega
    · exact ell_10_three hg h
end Mp
end

section
set_option linter.unusedVariables false
set_option maxRecDepth 100000
set_option linter.unusedSimpArgs false
set_option linter.unusedSectionVars false
namespace Mp

/-! ## the plain law: what is reckoned -/
/-- the string from a start -/
noncomputable def walkS (L S n start : Nat) : Nat → Nat → List Nat
  | 0, _ => []
  | k + 1, t => if (start + t * S) % L < n ∧ (start + t * S) % L ≠ start then (start + t * S) % L :: walkS L S n start k (t + 1) else []
noncomputable def strOf (L S n start : Nat) : List Nat := (if start < n then [start] else []) ++ walkS L S n start L 1
/-- the strings that are drawn: with the places written so far -/
noncomputable def strsF (L S n : Nat) : List Nat → List Nat → List (List Nat)
  | [], _ => []
  | st :: r, w => if st < n ∧ st ∈ w then strsF L S n r w else strOf L S n st :: strsF L S n r (strOf L S n st ++ w)
noncomputable def starts (L n : Nat) : List Nat := (List.range (L - n)).map (n + ·) ++ List.range n

/-- rulers -/
noncomputable def ruler1 (L S n spot : Nat) : List Int := ([((spot : Int) + 1)].take ((S : Int) - 1 - spot).toNat) ++ [(S : Int), 0]
noncomputable def size1 (L S n spot : Nat) : List Int := ((spot : Int) + 1) :: List.replicate (1 + (n - spot - 1) / S) (S : Int)
noncomputable def tails (S : Nat) : List (List Int) := [[126, 16, 0, (S : Int)], [128, 127, (S : Int)], [128, 127], []]
noncomputable def tails' : List (List Int) := [[126, 16, 16, 16], [128], [128], []]
noncomputable def ruler2 (L S n spot : Nat) : List Int := [((spot : Int) + 1), (L : Int) - S] ++ (tails S).getD (spot % 4) []
noncomputable def size2 (L S n spot : Nat) : List Int := [((spot : Int) + 1), (L : Int) - S] ++ tails'.getD (spot % 4) []
noncomputable def sizesF (L S n : Nat) : List (List Int) := (List.range S).map (size1 L S n) ++ (List.range n).map (size2 L S n)

/-- the classes -/
noncomputable def mergeC (t : List Nat) (p q : Nat) : List Nat := t.map fun k => if k = t.getD p 0 then t.getD q 0 else k
noncomputable def rulC (n : Nat) : Int → List Int → List Nat → List Nat
  | _, [], t => t
  | m, s :: r, t => if m + s ≤ n then rulC n (m + s) r (mergeC t (m - 1).toNat (m + s - 1).toNat) else rulC n (m + s) r t
noncomputable def clsF (L S n : Nat) : List Nat := (sizesF L S n).foldl (fun t r => rulC n (r.headD 0) r.tail t) (List.range n)

noncomputable def distinct : List Nat → List Nat
  | [] => []
  | x :: r => if x ∈ r then distinct r else x :: distinct r

/-- what is to be known of each of the eighty cases -/
noncomputable def fact1 (L S n : Nat) : Bool := (List.range S).all fun spot => ruler1 L S n spot != [] && (ruler1 L S n spot).headD 0 != 0 && (run 60 (.top (ruler1 L S n spot) none) (2 + ((n - spot - 1) / S : Nat)) [] == some (size1 L S n spot))
noncomputable def fact2 (L S n : Nat) : Bool := (List.range n).all fun spot => (run 60 (.top (ruler2 L S n spot) none) 6 [] == some (size2 L S n spot))
noncomputable def fact3 (L S n : Nat) : Bool := (strsF L S n (starts L n) []).all (fun s => s.all fun p => (List.range n).all fun q => (decide ((clsF L S n).getD q 0 = (clsF L S n).getD p 0) == decide (q ∈ s)))
noncomputable def fact4 (L S n : Nat) : Bool := (List.range n).all fun p => (strsF L S n (starts L n) []).any fun s => decide (p ∈ s)
noncomputable def fact5 (L S n : Nat) : Bool := (distinct (clsF L S n)).length == max (L - n) (Nat.gcd S L)
noncomputable def fact6 (L S n : Nat) : Bool := !(decide (L - n ≤ Nat.gcd S L)) || (List.range n).all fun a => a == 0 || (((List.range n).all fun p => decide (p < a) || (clsF L S n).getD p 0 == (clsF L S n).getD (p - a) 0) == decide (a % Nat.gcd S L = 0))
noncomputable def fact7 (L S n : Nat) : Bool := (List.range (L - n)).all fun k => decide ((n + k + S) % L < n)
noncomputable def combos : List (Nat × Nat × Nat) := ([8, 16] : List Nat).flatMap fun L => (List.range (L - 1)).flatMap fun s => (List.range (min (s + 1) (L - (s + 1)))).map fun g => (L, s + 1, L - (g + 1))

theorem combo_mem {L S g : Nat} (hL : L = 8 ∨ L = 16) (h1 : 1 ≤ S) (h2 : S < L) (h3 : 1 ≤ g) (h4 : g ≤ min S (L - S)) : (L, S, L - g) ∈ combos := by
  unfold combos
  rw [List.mem_flatMap]
  refine ⟨L, by rcases hL with rfl | rfl <;> simp, ?_⟩
  rw [List.mem_flatMap]
  refine ⟨S - 1, by rw [List.mem_range]; omega, ?_⟩
  rw [List.mem_map]
  refine ⟨g - 1, ?_, ?_⟩
  · rw [List.mem_range]
    rw [show S - 1 + 1 = S by omega]
    omega
  · rw [show S - 1 + 1 = S by omega, show g - 1 + 1 = g by omega]
theorem facts1 : combos.all (fun (L, S, n) => fact1 L S n) = true := by decide +kernel
theorem facts2 : combos.all (fun (L, S, n) => fact2 L S n) = true := by decide +kernel
theorem facts3 : combos.all (fun (L, S, n) => fact3 L S n) = true := by decide +kernel
theorem facts4 : combos.all (fun (L, S, n) => fact4 L S n) = true := by decide +kernel
theorem facts5 : combos.all (fun (L, S, n) => fact5 L S n) = true := by decide +kernel
theorem facts6 : combos.all (fun (L, S, n) => fact6 L S n) = true := by decide +kernel
theorem facts7 : combos.all (fun (L, S, n) => fact7 L S n) = true := by decide +kernel
end Mp
end

section
set_option maxRecDepth 100000
set_option linter.unusedVariables false
set_option linter.unusedSimpArgs false
set_option linter.unusedSectionVars false
namespace Mp

/-! ## the plain law: merging -/
noncomputable def mergeT (t : List Nat) (p q : Nat) : List Nat := if t.getD p 0 < t.getD q 0 then t.map (fun k => if k = t.getD p 0 then t.getD q 0 else k) else t.map fun k => if k = t.getD q 0 then t.getD p 0 else k
noncomputable def rulT (n : Nat) : Int → List Int → List Nat → List Nat
  | _, [], t => t
  | m, s :: r, t => if m + s ≤ n then rulT n (m + s) r (mergeT t (m - 1).toNat (m + s - 1).toNat) else rulT n (m + s) r t

structure Inv (dr cl t : List Nat) : Prop where
  lc : cl.length = dr.length
  lt : t.length = dr.length
  mx : ∀ p, p < dr.length → (∃ q, q < dr.length ∧ cl.getD q 0 = cl.getD p 0 ∧ t.getD p 0 = dr.getD q 0) ∧ ∀ q, q < dr.length → cl.getD q 0 = cl.getD p 0 → dr.getD q 0 ≤ t.getD p 0
noncomputable def Inj (dr : List Nat) : Prop := ∀ p q, p < dr.length → q < dr.length → dr.getD p 0 = dr.getD q 0 → p = q

theorem getD_map {l : List Nat} {f : Nat → Nat} {r : Nat} (h : r < l.length) : (l.map f).getD r 0 = f (l.getD r 0) := by
  simp [List.getD_eq_getElem?_getD, List.getElem?_map, List.getElem?_eq_getElem h]
theorem getD_range {n r : Nat} (h : r < n) : (List.range n).getD r 0 = r := by
  simp [List.getD_eq_getElem?_getD, List.getElem?_range h]

theorem inv_start (dr : List Nat) : Inv dr (List.range dr.length) dr where
  lc := List.length_range
  lt := rfl
  mx := by
    intro p hp
    refine ⟨⟨p, hp, rfl, rfl⟩, fun q hq h => ?_⟩
    rw [getD_range hq, getD_range hp] at h
    subst h; exact Nat.le_refl _

theorem Inv.same {dr cl t : List Nat} (h : Inv dr cl t) (hi : Inj dr) {r s : Nat} (hr : r < dr.length) (hs : s < dr.length) : t.getD r 0 = t.getD s 0 ↔ cl.getD r 0 = cl.getD s 0 := by
  obtain ⟨⟨r', h1, h2, h3⟩, h4⟩ := h.mx r hr
  obtain ⟨⟨s', k1, k2, k3⟩, k4⟩ := h.mx s hs
  constructor
  · intro e
    have := hi r' s' h1 k1 (by rw [← h3, ← k3, e])
    subst this
    rw [← h2, ← k2]
  · intro e
    have a := k4 r' h1 (h2.trans e)
    have b := h4 s' k1 (k2.trans e.symm)
    omega

theorem inv_merge {dr cl t : List Nat} (h : Inv dr cl t) (hi : Inj dr) {p q : Nat} (hp : p < dr.length) (hq : q < dr.length) : Inv dr (mergeC cl p q) (mergeT t p q) := by
  have hcl : ∀ r, r < dr.length → (mergeC cl p q).getD r 0 = if cl.getD r 0 = cl.getD p 0 then cl.getD q 0 else cl.getD r 0 := fun r hr => getD_map (by rw [h.lc]; exact hr)
  have ht : ∀ r, r < dr.length → (mergeT t p q).getD r 0 = if cl.getD r 0 = cl.getD p 0 ∨ cl.getD r 0 = cl.getD q 0 then max (t.getD p 0) (t.getD q 0) else t.getD r 0 := by
    intro r hr
    unfold mergeT
    have e1 := h.same hi hr hp
    have e2 := h.same hi hr hq
    split
    · rename_i hlt
      rw [getD_map (by rw [h.lt]; exact hr)]
      by_cases c1 : cl.getD r 0 = cl.getD p 0
      · rw [if_pos (e1.mpr c1), if_pos (.inl c1)]; omega
      · rw [if_neg (fun x => c1 (e1.mp x))]
        by_cases c2 : cl.getD r 0 = cl.getD q 0
        · rw [if_pos (.inr c2)]; have := e2.mpr c2; omega
        · rw [if_neg (fun x => x.elim c1 c2)]
    · rename_i hlt
      rw [getD_map (by rw [h.lt]; exact hr)]
      by_cases c2 : cl.getD r 0 = cl.getD q 0
      · rw [if_pos (e2.mpr c2), if_pos (.inr c2)]; omega
      · rw [if_neg (fun x => c2 (e2.mp x))]
        by_cases c1 : cl.getD r 0 = cl.getD p 0
        · rw [if_pos (.inl c1)]; have := e1.mpr c1; omega
        · rw [if_neg (fun x => x.elim c1 c2)]
  refine ⟨by unfold mergeC; rw [List.length_map]; exact h.lc, by unfold mergeT; split <;> rw [List.length_map] <;> exact h.lt, fun r hr => ?_⟩
  rw [ht r hr]
  obtain ⟨⟨p', a1, a2, a3⟩, a4⟩ := h.mx p hp
  obtain ⟨⟨q', b1, b2, b3⟩, b4⟩ := h.mx q hq
  obtain ⟨⟨r', c1, c2, c3⟩, c4⟩ := h.mx r hr
  by_cases hc : cl.getD r 0 = cl.getD p 0 ∨ cl.getD r 0 = cl.getD q 0
  · rw [if_pos hc]
    have hr' : (mergeC cl p q).getD r 0 = cl.getD q 0 := by
      rw [hcl r hr]
      split
      · rfl
      · rename_i hn; exact hc.resolve_left hn
    rw [hr']
    have hin : ∀ s, s < dr.length → ((mergeC cl p q).getD s 0 = cl.getD q 0 ↔ (cl.getD s 0 = cl.getD p 0 ∨ cl.getD s 0 = cl.getD q 0)) := by
      intro s hs
      rw [hcl s hs]
      split
      · rename_i hh; exact ⟨fun _ => .inl hh, fun _ => rfl⟩
      · rename_i hh; exact ⟨fun x => .inr x, fun x => x.resolve_left hh⟩
    refine ⟨?_, fun s hs hcs => ?_⟩
    · rcases Nat.le_total (t.getD p 0) (t.getD q 0) with hle | hle
      · exact ⟨q', b1, (hin q' b1).mpr (.inr b2), by rw [Nat.max_eq_right hle]; exact b3⟩
      · exact ⟨p', a1, (hin p' a1).mpr (.inl a2), by rw [Nat.max_eq_left hle]; exact a3⟩
    · rcases (hin s hs).mp hcs with x | x
      · have := a4 s hs x; omega
      · have := b4 s hs x; omega
  · rw [if_neg hc]
    have hr' : (mergeC cl p q).getD r 0 = cl.getD r 0 := by
      rw [hcl r hr, if_neg (fun x => hc (.inl x))]
    rw [hr']
    have hin : ∀ s, s < dr.length → ((mergeC cl p q).getD s 0 = cl.getD r 0 ↔ cl.getD s 0 = cl.getD r 0) := by
      intro s hs
      rw [hcl s hs]
      split
      · rename_i hh
        exact ⟨fun x => absurd (.inr x.symm) hc, fun x => absurd (.inl (x.symm.trans hh)) hc⟩
      · exact Iff.rfl
    exact ⟨⟨r', c1, (hin r' c1).mpr c2, c3⟩, fun s hs hcs => c4 s hs ((hin s hs).mp hcs)⟩

theorem inv_rul {dr : List Nat} (hi : Inj dr) : ∀ (sz : List Int) (m : Int) (cl t : List Nat), 1 ≤ m → (∀ s ∈ sz, 1 ≤ s) → Inv dr cl t → Inv dr (rulC dr.length m sz cl) (rulT dr.length m sz t)
  | [], _, _, _, _, _, h => h
  | s :: r, m, cl, t, hm, hs, h => by
    unfold rulC rulT
    have h1 := hs s (List.mem_cons_self ..)
    have hr := fun x hx => hs x (List.mem_cons_of_mem _ hx)
    split
    · exact inv_rul hi r _ _ _ (by omega) hr (inv_merge h hi (by omega) (by omega))
    · exact inv_rul hi r _ _ _ (by omega) hr h
theorem inv_ruls {dr : List Nat} (hi : Inj dr) : ∀ (R : List (List Int)) (cl t : List Nat), (∀ r ∈ R, 1 ≤ r.headD 0 ∧ ∀ s ∈ r.tail, 1 ≤ s) → Inv dr cl t →
    Inv dr (R.foldl (fun t r => rulC dr.length (r.headD 0) r.tail t) cl) (R.foldl (fun t r => rulT dr.length (r.headD 0) r.tail t) t)
  | [], _, _, _, h => h
  | r :: R, cl, t, hR, h => by
    rw [List.foldl_cons, List.foldl_cons]
    obtain ⟨h1, h2⟩ := hR r (List.mem_cons_self ..)
    exact inv_ruls hi R _ _ (fun x hx => hR x (List.mem_cons_of_mem _ hx)) (inv_rul hi r.tail _ cl t h1 h2 h)

theorem sizes_pos {L S n : Nat} (h1 : 1 ≤ S) (h2 : S < L) : ∀ r ∈ sizesF L S n, 1 ≤ r.headD 0 ∧ ∀ s ∈ r.tail, 1 ≤ s := by
  intro r hr
  unfold sizesF at hr
  rcases List.mem_append.mp hr with h | h
  · obtain ⟨spot, _, rfl⟩ := List.mem_map.mp h
    refine ⟨by simp [size1]; omega, fun s hs => ?_⟩
    simp only [size1, List.tail_cons, List.mem_replicate] at hs
    omega
  · obtain ⟨spot, _, rfl⟩ := List.mem_map.mp h
    refine ⟨by simp [size2]; omega, fun s hs => ?_⟩
    simp only [size2, List.tail_cons, List.cons_append, List.nil_append] at hs
    rcases List.mem_cons.mp hs with rfl | hs
    · omega
    · have h4 : spot % 4 < 4 := Nat.mod_lt _ (by decide)
      generalize spot % 4 = k at hs h4
      match k, h4 with
      | 0, _ => simp [tails'] at hs; omega
      | 1, _ => simp [tails'] at hs; omega
      | 2, _ => simp [tails'] at hs; omega
      | 3, _ => simp [tails'] at hs

/-! ## painting -/
noncomputable def maxL : List Nat → Nat
  | [] => 0
  | x :: r => r.foldl max x
noncomputable def setAllN (v : List Nat) : List Nat → List (List Nat) → List (List Nat)
  | [], tx => tx
  | p :: r, tx => setAllN v r (tx.set p v)
noncomputable def paint (dr : List Nat) : List (List Nat) → List (List Nat) → List (List Nat)
  | [], tx => tx
  | s :: r, tx => paint dr r (setAllN [97 + maxL (s.map fun p => dr.getD p 0)] s tx)

theorem foldl_max : ∀ (r : List Nat) (x : Nat), (∀ y ∈ x :: r, y ≤ r.foldl max x) ∧ r.foldl max x ∈ x :: r
  | [], x => by simp
  | y :: r, x => by
    rw [List.foldl_cons]
    obtain ⟨h1, h2⟩ := foldl_max r (max x y)
    refine ⟨fun z hz => ?_, ?_⟩
    · have hm := h1 (max x y) (List.mem_cons_self ..)
      rcases List.mem_cons.mp hz with rfl | hz
      · omega
      · rcases List.mem_cons.mp hz with rfl | hz
        · omega
        · exact h1 z (List.mem_cons_of_mem _ hz)
    · rcases List.mem_cons.mp h2 with e | e
      · rw [e]
        rcases Nat.le_total x y with h | h
        · rw [Nat.max_eq_right h]; simp
        · rw [Nat.max_eq_left h]; simp
      · simp [e]
theorem maxL_eq {l : List Nat} {m : Nat} (hm : m ∈ l) (h : ∀ x ∈ l, x ≤ m) : maxL l = m := by
  cases l with
  | nil => cases hm
  | cons x r =>
    obtain ⟨h1, h2⟩ := foldl_max r x
    have a := h1 m hm
    have b := h _ h2
    show r.foldl max x = m
    omega

theorem setAllN_len (v : List Nat) : ∀ (s : List Nat) (tx : List (List Nat)), (setAllN v s tx).length = tx.length
  | [], _ => rfl
  | p :: r, tx => by unfold setAllN; rw [setAllN_len v r]; simp
theorem setAllN_get (v : List Nat) : ∀ (s : List Nat) (tx : List (List Nat)) (p : Nat), p < tx.length → (setAllN v s tx)[p]? = if p ∈ s then some v else tx[p]?
  | [], tx, p, _ => by simp [setAllN]
  | x :: r, tx, p, hp => by
    unfold setAllN
    rw [setAllN_get v r _ p (by simpa using hp)]
    by_cases h : p ∈ r
    · rw [if_pos h, if_pos (List.mem_cons_of_mem _ h)]
    · rw [if_neg h, List.getElem?_set]
      by_cases e : x = p
      · subst e; simp [hp]
      · rw [if_neg e, if_neg (by simp [h, Ne.symm e])]

theorem paint_len (dr : List Nat) : ∀ (ss : List (List Nat)) (tx : List (List Nat)), (paint dr ss tx).length = tx.length
  | [], _ => rfl
  | s :: r, tx => by unfold paint; rw [paint_len dr r, setAllN_len]

theorem paint_get {dr cl t : List Nat} (h : Inv dr cl t) : ∀ (ss : List (List Nat)) (tx : List (List Nat)), tx.length = dr.length →
    (∀ s ∈ ss, ∀ p ∈ s, p < dr.length ∧ ∀ q, q < dr.length → (cl.getD q 0 = cl.getD p 0 ↔ q ∈ s)) →
    ∀ p, p < dr.length → (tx[p]? = some [97 + t.getD p 0] ∨ ∃ s ∈ ss, p ∈ s) → (paint dr ss tx)[p]? = some [97 + t.getD p 0]
  | [], tx, _, _, p, hp, hh => by
    rcases hh with hh | ⟨s, hs, _⟩
    · exact hh
    · cases hs
  | s :: r, tx, hl, hs, p, hp, hh => by
    unfold paint
    refine paint_get h r _ (by rw [setAllN_len]; exact hl) (fun s' hs' => hs s' (List.mem_cons_of_mem _ hs')) p hp ?_
    rw [setAllN_get _ _ _ _ (by rw [hl]; exact hp)]
    by_cases hm : p ∈ s
    · left
      rw [if_pos hm]
      obtain ⟨_, h2⟩ := hs s (List.mem_cons_self ..) p hm
      obtain ⟨⟨q, q1, q2, q3⟩, h4⟩ := h.mx p hp
      rw [maxL_eq (m := t.getD p 0)]
      · rw [q3]; exact List.mem_map.mpr ⟨q, (h2 q q1).mp q2, rfl⟩
      · intro x hx
        obtain ⟨y, hy, rfl⟩ := List.mem_map.mp hx
        obtain ⟨y1, y2⟩ := hs s (List.mem_cons_self ..) y hy
        exact h4 y y1 (((y2 p hp).mpr hm).symm)
    · rw [if_neg hm]
      rcases hh with hh | ⟨s', hs', hp'⟩
      · exact .inl hh
      · rcases List.mem_cons.mp hs' with rfl | hs'
        · exact absurd hp' hm
        · exact .inr ⟨s', hs', hp'⟩

theorem paint_all {dr cl t : List Nat} (h : Inv dr cl t) {ss : List (List Nat)} (hs : ∀ s ∈ ss, ∀ p ∈ s, p < dr.length ∧ ∀ q, q < dr.length → (cl.getD q 0 = cl.getD p 0 ↔ q ∈ s)) (hc : ∀ p, p < dr.length → ∃ s ∈ ss, p ∈ s) :
    paint dr ss (List.replicate dr.length []) = t.map fun v => [97 + v] := by
  apply List.ext_getElem?
  intro p
  by_cases hp : p < dr.length
  · rw [paint_get h ss _ (by simp) hs p hp (.inr (hc p hp)), List.getElem?_map, List.getElem?_eq_getElem (by rw [h.lt]; exact hp)]
    simp [List.getD_eq_getElem?_getD, List.getElem?_eq_getElem (show p < t.length by rw [h.lt]; exact hp)]
  · rw [List.getElem?_eq_none (by rw [paint_len]; simpa using hp), List.getElem?_eq_none (by rw [List.length_map, h.lt]; omega)]
end Mp
end

section
open PySem PySem.W PyProof.Rows PySem.Calls
set_option maxRecDepth 100000
set_option linter.unusedSimpArgs false
set_option linter.unusedVariables false
set_option linter.unusedSectionVars false
namespace Mp

theorem pcomp_map {elt : D → (D → Prop) → Prop} {f : D → D} : ∀ {ds : List D} {Q : List D → Prop}, (∀ d ∈ ds, ∀ Q' : D → Prop, Q' (f d) → elt d Q') → Q (ds.map f) → pcompif (fun _ Q => Q true) elt ds Q
  | [], Q, _, h => by unfold pcompif; exact h
  | d :: ds, Q, he, h => by
    unfold pcompif
    show if true = true then _ else _
    rw [if_pos rfl]
    refine he d (List.mem_cons_self ..) _ ?_
    exact pcomp_map (fun d' hd' => he d' (List.mem_cons_of_mem _ hd')) h
noncomputable def nI (x : Nat) : D := .int (x : Int)
theorem irange_nat (a b : Nat) : irange (a : Int) (b : Int) = (List.range' a (b - a)).map nI := by
  unfold irange
  rw [List.range'_eq_map_range, List.map_map, show ((b : Int) - (a : Int)).toNat = b - a by omega]
  rfl
theorem fmodN (a b : Nat) : (a : Int).fmod (b : Int) = ((a % b : Nat) : Int) := by
  rw [Int.fmod_eq_emod_of_nonneg _ (Int.natCast_nonneg _)]; rfl
theorem fdivN (a b : Nat) : (a : Int).fdiv (b : Int) = ((a / b : Nat) : Int) := by
  rw [Int.fdiv_eq_ediv_of_nonneg _ (Int.natCast_nonneg _)]; rfl
theorem smallN {a : Nat} (h : a ≤ 1000000000) : small (a : Int) := by unfold small; omega

noncomputable def XT : Xt := ⟨⟨vals0, bis0, [("_law_lamp", cLamp)]⟩, []⟩
noncomputable abbrev WT (dr : List Nat) (L S n : Nat) (letters : List D) (v5 : V) (start : Nat) (v7 v8 v9 v10 v11 : V) : Ws :=
  [.val (.list (dr.map nI)), .val (nI L), .val (nI S), .val (nI n), .own letters, v5, .val (nI start), v7, v8, v9, v10, v11]

theorem lamp_room {L S start t : Nat} (hL : L = 8 ∨ L = 16) (hS : S < L) (hs : start < L) (ht : t ≤ L) : (L = 8 ∧ start + t * S < 72) ∨ (L = 16 ∧ start + t * S < 256) := by
  rcases hL with rfl | rfl
  · left
    have : t * S ≤ 8 * 7 := Nat.mul_le_mul ht (by omega)
    omega
  · right
    have : t * S ≤ 16 * 15 := Nat.mul_le_mul ht (by omega)
    omega

section
variable {dr : List Nat} {L S n : Nat} {letters : List D} {v5 : V} {start : Nat} {R : Out → Prop}

theorem st_turn (hL : L = 8 ∨ L = 16) (hS : S < L) (hs : start < L) {t : Nat} (ht : t ≤ L) {acc : List Nat} {v9 v10 v11 : V} (hacc : acc.length ≤ 1000)
    (h0 : ¬ ((start + t * S) % L < n ∧ (start + t * S) % L ≠ start) → ∀ v8 v9 v10, R (.brk (WT dr L S n letters v5 start (.own (acc.map nI)) v8 v9 v10 v11)))
    (h1 : ((start + t * S) % L < n ∧ (start + t * S) % L ≠ start) → ∀ v8 v9 v10, R (.go (WT dr L S n letters v5 start (.own ((acc ++ [(start + t * S) % L]).map nI)) v8 v9 v10 v11))) :
    pxs XT law_strung_b4 (WT dr L S n letters v5 start (.own (acc.map nI)) (.val (nI t)) v9 v10 v11) R := by
  unfold law_strung_b4
  refine s_asn ?_
  simp only [nI, pe_cst, pe_neg, pe_var, pe_gval, pe_bin, pe_cmp, pe_ite, pe_and, pe_one, pe_bi, pe_fn, pe_meth, pe_item, pe_slA, pe_slL, pe_slU, pe_lst, pe_tup, pe_isint, pe_comp, pe_compif, pes_nil, pes_cons, hid, List.map_cons, List.map_nil, V.hid, List.getElem?_cons_zero, List.getElem?_cons_succ, List.set_cons_zero, List.set_cons_succ]
  refine ⟨smallN (by rcases hL with rfl | rfl <;> omega), ?_⟩
  show pxs XT law_strung_b4_1 [.val (.list (dr.map nI)), .val (nI L), .val (nI S), .val (nI n), .own letters, v5, .val (nI start), .own (acc.map nI), .val (nI t), .val (.int ((start : Int) + (t : Int) * (S : Int))), v10, v11] R
  have e9 : (start : Int) + (t : Int) * (S : Int) = ((start + t * S : Nat) : Int) := by rw [Int.natCast_add, Int.natCast_mul]
  rw [e9]
  have hroom := lamp_room hL hS hs ht
  generalize start + t * S = p at *
  unfold law_strung_b4_1
  refine s_asn ?_
  simp only [nI, pe_cst, pe_neg, pe_var, pe_gval, pe_bin, pe_cmp, pe_ite, pe_and, pe_one, pe_bi, pe_fn, pe_meth, pe_item, pe_slA, pe_slL, pe_slU, pe_lst, pe_tup, pe_isint, pe_comp, pe_compif, pes_nil, pes_cons, hid, List.map_cons, List.map_nil, V.hid, List.getElem?_cons_zero, List.getElem?_cons_succ, List.set_cons_zero, List.set_cons_succ, XT]
  refine ⟨by rcases hL with rfl | rfl <;> decide, ?_⟩
  rw [fmodN]
  refine ⟨p, L, decide (((p % L : Nat) : Int) < (n : Int)), rfl, hroom, ?_⟩
  unfold law_strung_b4_2
  refine s_ite ?_
  simp only [pe_cst, pe_neg, pe_var, pe_gval, pe_bin, pe_cmp, pe_ite, pe_and, pe_one, pe_bi, pe_fn, pe_meth, pe_item, pe_slA, pe_slL, pe_slU, pe_lst, pe_tup, pe_isint, pe_comp, pe_compif, pes_nil, pes_cons, pt_cmp, pt_and, pt_or, pt_one, pt_var, pt_isint, pt_fn, pt_meth, vis, List.map_cons, List.map_nil, V.vis, List.getElem?_cons_zero, List.getElem?_cons_succ, pcmp_ltI, pcmp_leI, pcmp_gtI', pcmp_geI, pcmp_eqI, pcmp_neI', pcmp_eqF, pcmp_eqFI, pcmp_isB, pcmp_isnotB, ptruth_bool]
  rw [if_neg (by split <;> simp <;> omega)]
  refine s_nil ?_
  rw [nxt_go]
  unfold law_strung_b4_3
  refine s_ite ?_
  simp only [pe_cst, pe_neg, pe_var, pe_gval, pe_bin, pe_cmp, pe_ite, pe_and, pe_one, pe_bi, pe_fn, pe_meth, pe_item, pe_slA, pe_slL, pe_slU, pe_lst, pe_tup, pe_isint, pe_comp, pe_compif, pes_nil, pes_cons, pt_cmp, pt_and, pt_or, pt_one, pt_var, pt_isint, pt_fn, pt_meth, vis, List.map_cons, List.map_nil, V.vis, List.getElem?_cons_zero, List.getElem?_cons_succ, pcmp_ltI, pcmp_leI, pcmp_gtI', pcmp_geI, pcmp_eqI, pcmp_neI', pcmp_eqF, pcmp_eqFI, pcmp_isB, pcmp_isnotB, ptruth_bool]
  by_cases hn : p % L < n
  · have hd : decide (((p % L : Nat) : Int) < (n : Int)) = true := by simpa using (by omega : ((p % L : Nat) : Int) < (n : Int))
    rw [hd, if_pos rfl, if_neg (by simp; omega)]
    by_cases hst : p % L = start
    · rw [if_pos (by simpa using (by omega : ((p % L : Nat) : Int) = (start : Int)))]
      unfold law_strung_b3
      refine s_brk ?_
      exact h0 (fun c => c.2 hst) _ _ _
    · rw [if_neg (by simpa using (by omega : ¬ ((p % L : Nat) : Int) = (start : Int)))]
      refine s_nil ?_
      rw [nxt_go]
      unfold law_strung_b4_4
      refine s_app (xs := acc.map nI) rfl ?_
      simp only [pe_cst, pe_neg, pe_var, pe_gval, pe_bin, pe_cmp, pe_ite, pe_and, pe_one, pe_bi, pe_fn, pe_meth, pe_item, pe_slA, pe_slL, pe_slU, pe_lst, pe_tup, pe_isint, pe_comp, pe_compif, hid, List.map_cons, List.map_nil, V.hid, List.getElem?_cons_zero, List.getElem?_cons_succ, List.set_cons_zero, List.set_cons_succ]
      refine ⟨by rw [List.length_map]; omega, ?_⟩
      refine s_nil ?_
      have e : acc.map nI ++ [D.int ((p % L : Nat) : Int)] = (acc ++ [p % L]).map nI := by rw [List.map_append]; rfl
      rw [e]
      exact h1 ⟨hn, hst⟩ _ _ _
  · have hd : decide (((p % L : Nat) : Int) < (n : Int)) = false := by simpa using (by omega : (n : Int) ≤ ((p % L : Nat) : Int))
    rw [hd, if_neg (by decide : ¬ false = true), if_pos (by decide)]
    unfold law_strung_b3
    refine s_brk ?_
    exact h0 (fun c => hn c.1) _ _ _

theorem st_turns (hL : L = 8 ∨ L = 16) (hS : S < L) (hs : start < L) : ∀ (k t : Nat) (acc : List Nat) (v8 v9 v10 v11 : V), t + k ≤ L + 1 → acc.length + k ≤ 900 →
    (∀ v8 v9 v10, R (.go (WT dr L S n letters v5 start (.own ((acc ++ walkS L S n start k t).map nI)) v8 v9 v10 v11))) →
    pfor (fun W R => pxs XT law_strung_b4 W R) 8 ((List.range' t k).map nI) (WT dr L S n letters v5 start (.own (acc.map nI)) v8 v9 v10 v11) R
  | 0, t, acc, v8, v9, v10, v11, _, _, h => by
    simp only [List.range'_zero, List.map_nil]
    unfold pfor
    have := h v8 v9 v10
    unfold walkS at this
    rw [List.append_nil] at this
    exact this
  | k + 1, t, acc, v8, v9, v10, v11, htk, hak, h => by
    rw [List.range'_succ, List.map_cons]
    unfold pfor
    show pxs XT law_strung_b4 (WT dr L S n letters v5 start (.own (acc.map nI)) (.val (nI t)) v9 v10 v11) _
    refine st_turn hL hS hs (by omega) (by omega) (fun hc a b c => ?_) fun hc a b c => ?_
    · have := h a b c
      unfold walkS at this
      rw [if_neg hc, List.append_nil] at this
      exact this
    · refine st_turns hL hS hs k (t + 1) _ _ _ _ _ (by omega) (by simp; omega) fun a' b' c' => ?_
      have := h a' b' c'
      unfold walkS at this
      rw [if_pos hc] at this
      rw [List.append_assoc]
      exact this
end
end Mp
end

section
open PySem PySem.W PyProof.Rows PySem.Calls
set_option maxRecDepth 100000
set_option linter.unusedSimpArgs false
set_option linter.unusedVariables false
set_option linter.unusedSectionVars false
namespace Mp

noncomputable def TX (ds : List D) (tx : List (List Nat)) : Prop := ds.map D.text = tx.map fun x => some (ofL x)
theorem TX.len {ds : List D} {tx : List (List Nat)} (h : TX ds tx) : ds.length = tx.length := by
  have := congrArg List.length h; simpa using this
theorem TX.get {ds : List D} {tx : List (List Nat)} (h : TX ds tx) {p : Nat} (hp : p < ds.length) : ∃ d, ds[p]? = some d ∧ d.text = some (ofL (tx.getD p [])) := by
  have hl := h.len
  have e : (ds.map D.text)[p]? = (tx.map fun x => some (ofL x))[p]? := by rw [show ds.map D.text = _ from h]
  rw [List.getElem?_map, List.getElem?_map, List.getElem?_eq_getElem hp, List.getElem?_eq_getElem (by omega : p < tx.length)] at e
  refine ⟨ds[p], List.getElem?_eq_getElem hp, ?_⟩
  rw [List.getD_eq_getElem?_getD, List.getElem?_eq_getElem (by omega : p < tx.length)]
  simpa using e
theorem TX.set {ds : List D} {tx : List (List Nat)} (h : TX ds tx) {p : Nat} {d : D} {x : List Nat} (hd : d.text = some (ofL x)) : TX (ds.set p d) (tx.set p x) := by
  unfold TX at h ⊢
  rw [List.map_set, List.map_set, h, hd]
theorem TX.texts : ∀ {ds : List D} {tx : List (List Nat)}, TX ds tx → textsOf ds = some (tx.map ofL)
  | [], [], _ => rfl
  | [], _ :: _, h => by cases h
  | _ :: _, [], h => by cases h
  | d :: ds, x :: tx, h => by
    unfold TX at h
    rw [List.map_cons, List.map_cons] at h
    obtain ⟨h1, h2⟩ := List.cons.inj h
    unfold textsOf
    rw [h1, TX.texts h2]
    rfl
theorem cmp_ne_text {a b : D} {x y : Str} {Q : D → Prop} (ha : a.text = some x) (hb : b.text = some y) : pcmp .NotEq a b Q = Q (.bool (!decide (x = y))) := by
  cases a <;> simp [D.text] at ha <;> cases b <;> simp [D.text] at hb <;> subst ha <;> subst hb <;> rfl
theorem cmp_eq_text {a b : D} {x y : Str} {Q : D → Prop} (ha : a.text = some x) (hb : b.text = some y) : pcmp .Eq a b Q = Q (.bool (decide (x = y))) := by
  cases a <;> simp [D.text] at ha <;> cases b <;> simp [D.text] at hb <;> subst ha <;> subst hb <;> rfl
theorem pcomp_mapN {elt : D → (D → Prop) → Prop} {f : Nat → D} : ∀ {s : List Nat} {Q : List D → Prop}, (∀ p ∈ s, ∀ Q' : D → Prop, Q' (f p) → elt (nI p) Q') → Q (s.map f) → pcompif (fun _ Q => Q true) elt (s.map nI) Q
  | [], Q, _, h => by unfold pcompif; exact h
  | d :: ds, Q, he, h => by
    rw [List.map_cons]
    unfold pcompif
    show if true = true then _ else _
    rw [if_pos rfl]
    refine he d (List.mem_cons_self ..) _ ?_
    exact pcomp_mapN (fun d' hd' => he d' (List.mem_cons_of_mem _ hd')) h
theorem intsOf_map (f : Nat → Nat) : ∀ s : List Nat, intsOf (s.map fun p => nI (f p)) = some (s.map fun p => (f p : Int))
  | [] => rfl
  | p :: s => by
    rw [List.map_cons]
    unfold nI intsOf
    have := intsOf_map f s
    unfold nI at this
    rw [this]; rfl
theorem imax_fold : ∀ (l : List Nat) (x : Nat), (l.map fun p : Nat => (p : Int)).foldl (fun m y => if y > m then y else m) (x : Int) = ((l.foldl max x : Nat) : Int)
  | [], x => rfl
  | y :: l, x => by
    rw [List.map_cons, List.foldl_cons, List.foldl_cons, ← imax_fold l (max x y)]
    congr 1
    rcases Nat.lt_or_ge x y with h | h
    · rw [if_pos (by omega), Nat.max_eq_right (by omega)]
    · rw [if_neg (by omega), Nat.max_eq_left h]
theorem imax_nat (l : List Nat) : imax (l.map fun p : Nat => (p : Int)) = ((maxL l : Nat) : Int) := by
  cases l with
  | nil => rfl
  | cons x l => exact imax_fold l x
theorem pbi_max {l : List D} {xs : List Int} {Q : D → Prop} (hx : intsOf l = some xs) (hne : xs ≠ []) (h : Q (.int (imax xs))) : pbi .max [.list l] Q := by
  show (match intsOf l with | some xs => xs ≠ [] ∧ Q (.int (imax xs)) | none => False)
  rw [hx]; exact ⟨hne, h⟩
noncomputable def abc : Str := "abcdefghijklmnop"
theorem abc_get : ∀ b, b < 16 → abc.cps[b]? = some (97 + b) := by decide +kernel

section
variable {dr : List Nat} {L S n : Nat} {v5 : V} {start : Nat} {R : Out → Prop}

theorem item_list {fr : Tok → Prop} {ds : List D} {p : Nat} {d : D} {Q : D → Prop} (hl : ds.length ≤ 1048576) (hd : ds[p]? = some d) (h : Q d) : pitem fr (.list ds) (.int (p : Int)) Q := by
  refine ⟨fun h => absurd h (by omega), hl, ?_⟩
  rw [if_neg (by omega), Int.toNat_natCast, hd]
  exact ⟨fun h => absurd h (by omega), h⟩
theorem item_abc {fr : Tok → Prop} {b : Nat} {Q : D → Prop} (hb : b < 16) (h : ∀ t, t ≠ 0 → fr t → Q (.strt (ofL [97 + b]) t)) : pitem fr (.str abc) (.int (b : Int)) Q := by
  refine ⟨by omega, by omega, ?_⟩
  rw [Int.toNat_natCast, abc_get b hb]
  exact h

theorem st_paint {best : Nat} (hb : best < 16) {v7 v8 v9 v10 : V} : ∀ (s : List Nat) (letters : List D) (tx : List (List Nat)) (v5 : V), letters.length ≤ 100 → (∀ p ∈ s, p < letters.length) → TX letters tx →
    (∀ letters' v5, TX letters' (setAllN [97 + best] s tx) → R (.go (WT dr L S n letters' v5 start v7 v8 v9 v10 (.val (nI best))))) →
    pfor (fun W R => pxs XT law_strung_b5 W R) 5 (s.map nI) (WT dr L S n letters v5 start v7 v8 v9 v10 (.val (nI best))) R
  | [], letters, tx, v5, _, _, ht, h => by
    rw [List.map_nil]
    unfold pfor
    exact h letters v5 ht
  | p :: s, letters, tx, v5, hl, hp, ht, h => by
    rw [List.map_cons]
    unfold pfor
    show pxs XT law_strung_b5 (WT dr L S n letters (.val (nI p)) start v7 v8 v9 v10 (.val (nI best))) _
    unfold law_strung_b5
    refine s_sit (xs := letters) rfl ?_
    simp only [pe_cst, pe_neg, pe_var, pe_gval, pe_bin, pe_cmp, pe_ite, pe_and, pe_one, pe_bi, pe_fn, pe_meth, pe_item, pe_slA, pe_slL, pe_slU, pe_lst, pe_tup, pe_isint, pe_comp, pe_compif, hid, List.map_cons, List.map_nil, V.hid, List.getElem?_cons_zero, List.getElem?_cons_succ, List.set_cons_zero, List.set_cons_succ]
    refine item_abc hb fun t h0 hfr => ?_
    have hpl := hp p (List.mem_cons_self ..)
    refine ⟨⟨by omega, by omega, by omega⟩, ?_⟩
    rw [Int.toNat_natCast]
    refine s_nil ?_
    refine st_paint hb s _ (tx.set p [97 + best]) _ (by simpa using hl) (fun q hq => by simpa using hp q (List.mem_cons_of_mem _ hq)) (ht.set rfl) fun l' v5' h' => h l' v5' h'

theorem walk_lt : ∀ (k t : Nat), ∀ p ∈ walkS L S n start k t, p < n
  | 0, t, p, h => by cases h
  | k + 1, t, p, h => by
    unfold walkS at h
    split at h
    · rename_i hc
      rcases List.mem_cons.mp h with rfl | h
      · exact hc.1
      · exact walk_lt k (t + 1) p h
    · cases h
theorem walk_len : ∀ (k t : Nat), (walkS L S n start k t).length ≤ k
  | 0, t => Nat.le_refl _
  | k + 1, t => by
    unfold walkS
    split
    · rw [List.length_cons]; exact Nat.succ_le_succ (walk_len k (t + 1))
    · exact Nat.zero_le _
theorem str_lt : ∀ p ∈ strOf L S n start, p < n := by
  intro p h
  unfold strOf at h
  rcases List.mem_append.mp h with h | h
  · split at h
    · rename_i hc; rw [List.mem_singleton] at h; omega
    · cases h
  · exact walk_lt _ _ p h

theorem st_start (hL : L = 8 ∨ L = 16) (hS : S < L) (hs : start < L) (hn : dr.length = n) (hn1 : n ≤ 16) (hdr : ∀ d ∈ dr, d < 16) {letters : List D} {tx : List (List Nat)} {w : List Nat} (hl : letters.length = n) (ht : TX letters tx) (hw : ∀ p, p < n → (tx.getD p [] ≠ [] ↔ p ∈ w))
    (hne : strOf L S n start ≠ []) {v7 v8 v9 v10 v11 : V}
    (h0 : (start < n ∧ start ∈ w) → R (.cont (WT dr L S n letters v5 start v7 v8 v9 v10 v11)))
    (h1 : ¬ (start < n ∧ start ∈ w) → ∀ letters' v5 v7 v8 v9 v10 v11, TX letters' (setAllN [97 + maxL ((strOf L S n start).map fun p => dr.getD p 0)] (strOf L S n start) tx) → R (.go (WT dr L S n letters' v5 start v7 v8 v9 v10 v11))) :
    pxs XT law_strung_b6 (WT dr L S n letters v5 start v7 v8 v9 v10 v11) R := by
  unfold law_strung_b6
  refine s_ite ?_
  simp only [nI, pe_cst, pe_neg, pe_var, pe_gval, pe_bin, pe_cmp, pe_ite, pe_and, pe_one, pe_bi, pe_fn, pe_meth, pe_item, pe_slA, pe_slL, pe_slU, pe_lst, pe_tup, pe_isint, pe_comp, pe_compif, pes_nil, pes_cons, pt_cmp, pt_and, pt_or, pt_one, pt_var, pt_isint, pt_fn, pt_meth, vis, List.map_cons, List.map_nil, V.vis, List.getElem?_cons_zero, List.getElem?_cons_succ, pcmp_ltI, pcmp_leI, pcmp_gtI', pcmp_geI, pcmp_eqI, pcmp_neI', pcmp_eqF, pcmp_eqFI, pcmp_isB, pcmp_isnotB, ptruth_bool]
  have go : ¬ (start < n ∧ start ∈ w) → pxs XT [] (WT dr L S n letters v5 start v7 v8 v9 v10 v11) (nxt XT law_strung_b6_1 R) := by
    intro hc
    refine s_nil ?_
    rw [nxt_go]
    unfold law_strung_b6_1
    refine s_own ?_
    simp only [N.i, onL, nI, pe_cst, pe_neg, pe_var, pe_gval, pe_bin, pe_cmp, pe_ite, pe_and, pe_one, pe_bi, pe_fn, pe_meth, pe_item, pe_slA, pe_slL, pe_slU, pe_lst, pe_tup, pe_isint, pe_comp, pe_compif, pes_nil, pes_cons, pt_cmp, pt_and, pt_or, pt_one, pt_var, pt_isint, pt_fn, pt_meth, hid, List.map_cons, List.map_nil, V.hid, List.getElem?_cons_zero, List.getElem?_cons_succ, pcmp_ltI, pcmp_leI, pcmp_gtI', pcmp_geI, pcmp_eqI, pcmp_neI', pcmp_eqF, pcmp_eqFI, pcmp_isB, pcmp_isnotB, ptruth_bool]
    have e7 : ∀ (Q : D → Prop), Q (.list ((if start < n then [start] else []).map nI)) → (if decide ((start : Int) < (n : Int)) = true then Q (.list [.int (start : Int)]) else Q (.list [])) := by
      intro Q hq
      by_cases hsn : start < n
      · rw [if_pos (by simpa using hsn)]; rw [if_pos hsn] at hq; exact hq
      · rw [if_neg (by simpa using hsn)]; rw [if_neg hsn] at hq; exact hq
    refine e7 (fun d => match d with | .list ds => pxs XT law_strung_b6_2 ((WT dr L S n letters v5 start v7 v8 v9 v10 v11).set 7 (.own ds)) R | _ => False) ?_
    show pxs XT law_strung_b6_2 (WT dr L S n letters v5 start (.own ((if start < n then [start] else []).map nI)) v8 v9 v10 v11) R
    unfold law_strung_b6_2
    refine s_for ?_
    simp only [nI, pit_rng, pit_var, pit_slA, pit_slL, pit_slU, pe_cst, pe_neg, pe_var, pe_gval, pe_bin, pe_cmp, pe_ite, pe_and, pe_one, pe_bi, pe_fn, pe_meth, pe_item, pe_slA, pe_slL, pe_slU, pe_lst, pe_tup, pe_isint, pe_comp, pe_compif, pes_nil, pes_cons, pt_cmp, pt_and, pt_or, pt_one, pt_var, pt_isint, pt_fn, pt_meth, hid, List.map_cons, List.map_nil, V.hid, List.getElem?_cons_zero, List.getElem?_cons_succ, pbin_addI, pbin_subI, pbin_modI, pbin_fdivI, pbin_mulI', pbin_addF, pbin_subF, pbin_mulF, pbin_divF, pbin_modF, pbin_subFI, pbin_mulFI, pbin_subB, pbin_addL, pbin_mulL]
    refine ⟨⟨by unfold small; decide, by unfold small; rcases hL with rfl | rfl <;> decide, by rcases hL with rfl | rfl <;> decide⟩, ?_⟩
    have er : irange 1 ((L : Int) + 1) = (List.range' 1 L).map nI := irange_nat 1 (L + 1)
    rw [er]
    refine st_turns hL hS hs L 1 _ _ _ _ _ (by omega) (by split <;> simp <;> rcases hL with rfl | rfl <;> omega) fun v8 v9 v10 => ?_
    have es : (if start < n then [start] else []) ++ walkS L S n start L 1 = strOf L S n start := rfl
    rw [es, nxt_go]
    have hsl : (strOf L S n start).length ≤ 100 := by
      unfold strOf
      have := walk_len (L := L) (S := S) (n := n) (start := start) L 1
      rw [List.length_append]
      split <;> simp <;> rcases hL with rfl | rfl <;> omega
    have hlt := str_lt (L := L) (S := S) (n := n) (start := start)
    generalize strOf L S n start = str at *
    unfold law_strung_b6_3
    refine s_asnf ?_
    simp only [nI, pit_rng, pit_var, pit_slA, pit_slL, pit_slU, pe_cst, pe_neg, pe_var, pe_gval, pe_bin, pe_cmp, pe_ite, pe_and, pe_one, pe_bi, pe_fn, pe_meth, pe_item, pe_slA, pe_slL, pe_slU, pe_lst, pe_tup, pe_isint, pe_comp, pe_compif, pes_nil, pes_cons, pt_cmp, pt_and, pt_or, pt_one, pt_var, pt_isint, pt_fn, pt_meth, vis, List.map_cons, List.map_nil, V.vis, List.getElem?_cons_zero, List.getElem?_cons_succ]
    refine ⟨by rw [List.length_map]; omega, ?_⟩
    refine pcomp_mapN (f := fun p => nI (dr.getD p 0)) (fun p hp Q' hq => ?_) ?_
    · simp only [inner, nI, List.map_cons, List.map_nil, List.getElem?_cons_zero, List.getElem?_cons_succ]
      have hpl : p < dr.length := by rw [hn]; exact hlt p hp
      refine item_list (d := nI (dr.getD p 0)) (by rw [List.length_map]; omega) ?_ hq
      rw [List.getElem?_map, List.getElem?_eq_getElem hpl, List.getD_eq_getElem?_getD, List.getElem?_eq_getElem hpl]
      rfl
    · show pbi .max [.list (str.map fun p => nI (dr.getD p 0))] _
      refine pbi_max (intsOf_map (fun p => dr.getD p 0) str) (by simpa using hne) ?_
      have em : imax (str.map fun p => ((dr.getD p 0 : Nat) : Int)) = ((maxL (str.map fun p => dr.getD p 0) : Nat) : Int) := by
        rw [← imax_nat, List.map_map]; rfl
      rw [em]
      have hb : maxL (str.map fun p => dr.getD p 0) < 16 := by
        cases str with
        | nil => exact absurd rfl hne
        | cons a r =>
          have hm := (foldl_max (r.map fun p => dr.getD p 0) (dr.getD a 0)).2
          have : maxL ((a :: r).map fun p => dr.getD p 0) ∈ (a :: r).map fun p => dr.getD p 0 := by
            rw [List.map_cons]; exact hm
          obtain ⟨p, hp, e⟩ := List.mem_map.mp this
          rw [← e]
          have hpl : p < dr.length := by rw [hn]; exact hlt p hp
          rw [List.getD_eq_getElem?_getD, List.getElem?_eq_getElem hpl]
          exact hdr _ (List.getElem_mem hpl)
      generalize maxL (str.map fun p => dr.getD p 0) = best at *
      refine ⟨trivial, ?_⟩
      show pxs XT law_strung_b6_4 (WT dr L S n letters v5 start (.own (str.map nI)) v8 v9 v10 (.val (nI best))) R
      unfold law_strung_b6_4
      refine s_rel (xs := str.map nI) rfl ?_
      show pxs XT law_strung_b6_5 (WT dr L S n letters v5 start (.val (.list (str.map nI))) v8 v9 v10 (.val (nI best))) R
      unfold law_strung_b6_5
      refine s_for ?_
      simp only [pit_rng, pit_var, pit_slA, pit_slL, pit_slU, hid, List.map_cons, List.map_nil, V.hid, List.getElem?_cons_zero, List.getElem?_cons_succ]
      refine ⟨by rw [List.length_map]; omega, ?_⟩
      refine st_paint hb str letters tx v5 (by omega) (fun p hp => by rw [hl]; exact hlt p hp) ht fun l' v5' h' => ?_
      rw [nxt_go]
      refine s_nil ?_
      exact h1 hc l' _ _ _ _ _ _ h'
  by_cases hsn : start < n
  · rw [if_pos (by simpa using hsn)]
    obtain ⟨d, hd, hdt⟩ := ht.get (p := start) (by omega)
    refine item_list (by omega) hd ?_
    rw [cmp_ne_text hdt (show D.text (.str (Str.ofString "")) = some (Str.ofString "") from rfl), ptruth_bool]
    by_cases hin : start ∈ w
    · have hx := (hw start hsn).mpr hin
      rw [show (!decide (ofL (tx.getD start []) = Str.ofString "")) = true by
        simp only [Bool.not_eq_true', decide_eq_false_iff_not]
        intro e
        have := congrArg (fun x : Str => x.cps.toList) e
        rw [ofL_cps] at this
        exact hx (by rw [this]; rfl)]
      rw [if_pos rfl]
      unfold law_strung_b1
      exact s_cont (h0 ⟨hsn, hin⟩)
    · have hx : tx.getD start [] = [] := Classical.byContradiction fun c => hin ((hw start hsn).mp c)
      rw [hx, show (!decide (ofL [] = Str.ofString "")) = false by decide]
      rw [if_neg (by decide)]
      exact go fun c => hin c.2
  · rw [if_neg (by simpa using hsn), if_neg (by decide)]
    exact go fun c => hsn c.1
end
end Mp
end

section
open PySem PySem.W PyProof.Rows PySem.Calls
set_option maxRecDepth 100000
set_option linter.unusedSimpArgs false
set_option linter.unusedVariables false
set_option linter.unusedSectionVars false
namespace Mp
open PySem.Builtin PySem.Builtin.Str PySem.StrLaws

theorem join_letters : ∀ t : List Nat, (Str.join (ofL []) ((t.map fun v => [97 + v]).map ofL)).cps.toList = t.map (97 + ·)
  | [] => rfl
  | [x] => rfl
  | x :: y :: r => by
    have ih := join_letters (y :: r)
    rw [List.map_cons, List.map_cons] at ih ⊢
    show (ofL [97 + x] ++ ofL [] ++ Str.join (ofL []) (((y :: r).map fun v => [97 + v]).map ofL)).cps.toList = _
    simp only [Str.cps_append, Array.toList_append]
    have := join_letters (y :: r)
    rw [this]
    rfl
theorem join_ok : ∀ (t : List Nat), t.length ≤ 100 → JoinOk (ofL []) ((t.map fun v => [97 + v]).map ofL) = true := by
  intro t ht
  have key : ∀ (l : List Nat) (k : Nat), ((l.map fun v => [97 + v]).map ofL).foldl (fun a x => a + x.length + (ofL []).length) k = k + l.length := by
    intro l
    induction l with
    | nil => intro k; rfl
    | cons x l ih =>
      intro k
      rw [List.map_cons, List.map_cons, List.foldl_cons, ih]
      show k + 1 + 0 + l.length = k + (l.length + 1)
      omega
  unfold JoinOk
  have e : (((t.map fun v => [97 + v]).map ofL).toArray.foldl (fun a x => a + x.length + (ofL []).length) 0) = t.length := by
    rw [List.foldl_toArray, key]; simp
  rw [e]
  unfold tooLong sizeLine
  simp; omega

section
variable {dr : List Nat} {L S n : Nat} {R : Out → Prop}

theorem st_outer (hL : L = 8 ∨ L = 16) (hS : S < L) (hn : dr.length = n) (hn1 : n ≤ 16) (hdr : ∀ d ∈ dr, d < 16) : ∀ (sts : List Nat) (letters : List D) (tx : List (List Nat)) (w : List Nat) (v5 v6 v7 v8 v9 v10 v11 : V),
    (∀ s ∈ sts, s < L ∧ strOf L S n s ≠ []) → letters.length = n → TX letters tx → (∀ p, p < n → (tx.getD p [] ≠ [] ↔ p ∈ w)) →
    (∀ letters' v5 v6 v7 v8 v9 v10 v11, TX letters' (paint dr (strsF L S n sts w) tx) → R (.go [.val (.list (dr.map nI)), .val (nI L), .val (nI S), .val (nI n), .own letters', v5, v6, v7, v8, v9, v10, v11])) →
    pfor (fun W R => pxs XT law_strung_b6 W R) 6 (sts.map nI) [.val (.list (dr.map nI)), .val (nI L), .val (nI S), .val (nI n), .own letters, v5, v6, v7, v8, v9, v10, v11] R
  | [], letters, tx, w, v5, v6, v7, v8, v9, v10, v11, _, _, ht, _, h => by
    rw [List.map_nil]
    unfold pfor
    exact h letters _ _ _ _ _ _ _ ht
  | st :: sts, letters, tx, w, v5, v6, v7, v8, v9, v10, v11, hs, hl, ht, hw, h => by
    rw [List.map_cons]
    unfold pfor
    show pxs XT law_strung_b6 (WT dr L S n letters v5 st v7 v8 v9 v10 v11) _
    obtain ⟨h1, h2⟩ := hs st (List.mem_cons_self ..)
    have hs' := fun s hs'' => hs s (List.mem_cons_of_mem _ hs'')
    refine st_start hL hS h1 hn hn1 hdr hl ht hw h2 (fun hc => ?_) fun hc letters' v5' v7' v8' v9' v10' v11' ht' => ?_
    · refine st_outer hL hS hn hn1 hdr sts letters tx w _ _ _ _ _ _ _ hs' hl ht hw fun letters' a b c d e f g hh => ?_
      refine h letters' a b c d e f g ?_
      unfold strsF
      rw [if_pos hc]
      exact hh
    · have hl' : letters'.length = n := by rw [ht'.len, setAllN_len, ← ht.len]; exact hl
      refine st_outer hL hS hn hn1 hdr sts letters' _ (strOf L S n st ++ w) _ _ _ _ _ _ _ hs' hl' ht' (fun p hp => ?_) fun letters'' a b c d e f g hh => ?_
      · have hpt : p < tx.length := by rw [← ht.len, hl]; exact hp
        rw [List.getD_eq_getElem?_getD, setAllN_get _ _ _ _ hpt, List.mem_append]
        by_cases hm : p ∈ strOf L S n st
        · rw [if_pos hm]; simp [hm]
        · rw [if_neg hm, ← List.getD_eq_getElem?_getD]
          exact (hw p hp).trans ⟨.inr, fun x => x.resolve_left hm⟩
      · refine h letters'' a b c d e f g ?_
        unfold strsF
        rw [if_neg hc]
        exact hh
end

noncomputable def cStrung : Ctr := fun ds Q => ∃ (dr : List Nat) (L S : Nat) (t : List Nat), ds = [.list (dr.map nI), nI L, nI S] ∧ (L = 8 ∨ L = 16) ∧ 1 ≤ S ∧ S < L ∧ dr.length ≤ L ∧ (∀ d ∈ dr, d < 16) ∧ (∀ st, dr.length ≤ st → st < L → (st + S) % L < dr.length) ∧
  paint dr (strsF L S dr.length (starts L dr.length) []) (List.replicate dr.length []) = t.map (fun v => [97 + v]) ∧ Q (.str (ofL (t.map (97 + ·))))

theorem str_ne {L S n st : Nat} (hL : 1 ≤ L) (hst : st < L) (h : n ≤ st → (st + S) % L < n) : strOf L S n st ≠ [] := by
  unfold strOf
  by_cases hs : st < n
  · rw [if_pos hs]; simp
  · rw [if_neg hs]
    have h' := h (by omega)
    obtain ⟨k, rfl⟩ : ∃ k, L = k + 1 := ⟨L - 1, by omega⟩
    unfold walkS
    rw [Nat.one_mul, if_pos ⟨h', by omega⟩]
    simp

theorem ok_strung (ds : List D) (Q : D → Prop) (h : cStrung ds Q) : ds.length = 3 ∧ pxs XT ir_law_strung (initW (cxOf (fnS "_law_strung")) ds) (retP Q) := by
  obtain ⟨dr, L, S, t, rfl, hL, hS1, hS, hn, hdr, hg, hp, h⟩ := h
  have hL16 : L ≤ 16 := by rcases hL with rfl | rfl <;> omega
  refine ⟨rfl, ?_⟩
  simp only [initW, vars_strung, List.length_cons, List.length_nil, Nat.reduceAdd, Nat.reduceSub, List.replicate, List.map_cons, List.map_nil, List.cons_append, List.nil_append]
  unfold ir_law_strung
  refine s_asn ?_
  simp only [nI, pe_cst, pe_neg, pe_var, pe_gval, pe_bin, pe_cmp, pe_ite, pe_and, pe_one, pe_bi, pe_fn, pe_meth, pe_item, pe_slA, pe_slL, pe_slU, pe_lst, pe_tup, pe_isint, pe_comp, pe_compif, pes_nil, pes_cons, hid, List.map_cons, List.map_nil, V.hid, List.getElem?_cons_zero, List.getElem?_cons_succ, List.set_cons_zero, List.set_cons_succ, bis0]
  refine ⟨by rw [List.length_map]; omega, ?_⟩
  rw [List.length_map]
  unfold ir_law_strung_1
  refine s_own ?_
  simp only [N.i, onL, nI, pe_cst, pe_neg, pe_var, pe_gval, pe_bin, pe_cmp, pe_ite, pe_and, pe_one, pe_bi, pe_fn, pe_meth, pe_item, pe_slA, pe_slL, pe_slU, pe_lst, pe_tup, pe_isint, pe_comp, pe_compif, pes_nil, pes_cons, hid, List.map_cons, List.map_nil, V.hid, List.getElem?_cons_zero, List.getElem?_cons_succ, List.set_cons_zero, List.set_cons_succ, pbin_addI, pbin_subI, pbin_modI, pbin_fdivI, pbin_mulI', pbin_addF, pbin_subF, pbin_mulF, pbin_divF, pbin_modF, pbin_subFI, pbin_mulFI, pbin_subB, pbin_addL, pbin_mulL]
  refine ⟨⟨by omega, by omega, rfl⟩, ?_⟩
  rw [Int.toNat_natCast]
  generalize hle : (List.replicate dr.length [D.str (Str.ofString "")]).flatten = letters
  have hlet : letters = List.replicate dr.length (.str (ofL [])) := by
    rw [← hle]
    have : ∀ k, (List.replicate k [D.str (Str.ofString "")]).flatten = List.replicate k (.str (ofL [])) := by
      intro k
      induction k with
      | zero => rfl
      | succ k ih => rw [List.replicate_succ, List.flatten_cons, ih]; rfl
    exact this _
  have htx : TX letters (List.replicate dr.length []) := by
    unfold TX
    rw [hlet, List.map_replicate, List.map_replicate]; rfl
  unfold ir_law_strung_2
  refine s_for ?_
  simp only [nI, pit_rng, pit_var, pit_slA, pit_slL, pit_slU, pe_cst, pe_neg, pe_var, pe_gval, pe_bin, pe_cmp, pe_ite, pe_and, pe_one, pe_bi, pe_fn, pe_meth, pe_item, pe_slA, pe_slL, pe_slU, pe_lst, pe_tup, pe_isint, pe_comp, pe_compif, pes_nil, pes_cons, hid, List.map_cons, List.map_nil, V.hid, List.getElem?_cons_zero, List.getElem?_cons_succ, List.set_cons_zero, List.set_cons_succ]
  refine ⟨⟨smallN (by omega), smallN (by omega), by omega⟩, ?_⟩
  rw [irange_nat]
  refine pcomp_mapN (f := nI) (fun p _ Q' hq => hq) ?_
  refine ⟨⟨smallN (by omega), by omega⟩, ?_⟩
  have e0 : irange 0 (dr.length : Int) = (List.range dr.length).map nI := by
    have := irange_nat 0 dr.length
    rw [Nat.sub_zero, ← List.range_eq_range'] at this
    exact this
  rw [e0]
  refine pcomp_mapN (f := nI) (fun p _ Q' hq => hq) ?_
  refine ⟨by simp; omega, ?_⟩
  refine ⟨by simp; omega, ?_⟩
  have es : (List.range' dr.length (L - dr.length)).map nI ++ (List.range dr.length).map nI = (starts L dr.length).map nI := by
    unfold starts
    rw [List.map_append, List.range'_eq_map_range]
  rw [es]
  refine st_outer hL hS rfl (by omega) hdr (starts L dr.length) letters (List.replicate dr.length []) [] _ _ _ _ _ _ _ (fun st hst => ?_) (by rw [hlet]; simp) htx (fun p hp => ?_) fun letters' a b c d e f g hh => ?_
  · have hlt : st < L := by
      unfold starts at hst
      rcases List.mem_append.mp hst with h | h
      · obtain ⟨k, hk, rfl⟩ := List.mem_map.mp h
        have := List.mem_range.mp hk; omega
      · have := List.mem_range.mp h; omega
    exact ⟨hlt, str_ne (by omega) hlt fun hh => hg st hh hlt⟩
  · rw [List.getD_eq_getElem?_getD, List.getElem?_replicate, if_pos hp]; simp
  · rw [hp] at hh
    rw [nxt_go]
    unfold ir_law_strung_3
    refine s_ret ?_
    simp only [pe_cst, pe_neg, pe_var, pe_gval, pe_bin, pe_cmp, pe_ite, pe_and, pe_one, pe_bi, pe_fn, pe_meth, pe_item, pe_slA, pe_slL, pe_slU, pe_lst, pe_tup, pe_isint, pe_comp, pe_compif, pes_nil, pes_cons, vis, List.map_cons, List.map_nil, V.vis, List.getElem?_cons_zero, List.getElem?_cons_succ]
    refine ⟨rfl, ?_⟩
    show (match textsOf _ with | some r => JoinOk (Str.ofString "") r = true ∧ retP Q (Out.ret (D.str (Txt.join (Str.ofString "") r))) | none => False)
    rw [hh.texts]
    have htl : t.length = dr.length := by
      have := congrArg List.length hp
      rw [paint_len] at this
      simpa using this.symm
    have ej : (Str.ofString "") = ofL [] := by decide
    rw [ej]
    refine ⟨join_ok t (by omega), ?_⟩
    have : Txt.join (ofL []) ((t.map fun v => [97 + v]).map ofL) = ofL (t.map (97 + ·)) := by
      unfold Txt.join
      rw [glued_eq_join, toL (Str.join _ _), join_letters]
    rw [this]
    exact h
end Mp
end

section
open PySem PySem.W PyProof.Rows PySem.Calls
set_option maxRecDepth 100000
set_option linter.unusedSimpArgs false
set_option linter.unusedVariables false
set_option linter.unusedSectionVars false
namespace Mp

noncomputable def XW : Xt := ⟨⟨vals0, bis0, [("_law_lamp", cLamp), ("_law_sizes", cSizes), ("_law_whole", cWhole), ("_strcoll", cStrcoll), ("_law_strung", cStrung), ("_ellipsis_match", cEll)]⟩, [(tryX, tryPt)]⟩
noncomputable abbrev WL (sc nm : D) (f s t : Nat) (v5 v6 v7 v8 v9 v10 v11 v12 v13 v14 v15 v16 v17 v18 v19 v20 v21 v22 v23 v24 v25 v26 v27 v28 v29 v30 : V) : Ws :=
  [.val sc, .val nm, .val (nI f), .val (nI s), .val (nI t), v5, v6, v7, v8, v9, v10, v11, v12, v13, v14, v15, v16, v17, v18, v19, v20, v21, v22, v23, v24, v25, v26, v27, v28, v29, v30]

section
variable {R : Out → Prop}

theorem numbers (xs : List Int) : ∃ f s t : Nat, f < 1000000 ∧ s < 1000000 ∧ t < 1000000 ∧
    ((xs.take 3).map fun x => D.int (x.fmod 1000000)) ++ ([nI 0, nI 0, nI 0] : List D).drop ((xs.take 3).map fun x => D.int (x.fmod 1000000)).length = [nI f, nI s, nI t] := by
  have key : ∀ x : Int, D.int (x.fmod 1000000) = nI (x.fmod 1000000).toNat ∧ (x.fmod 1000000).toNat < 1000000 := by
    intro x
    have h0 : 0 ≤ x.fmod 1000000 := Int.fmod_nonneg_of_pos _ (by decide)
    have h1 : x.fmod 1000000 < 1000000 := Int.fmod_lt_of_pos _ (by decide)
    refine ⟨?_, by omega⟩
    unfold nI
    rw [Int.toNat_of_nonneg h0]
  match xs with
  | [] => exact ⟨0, 0, 0, by decide, by decide, by decide, rfl⟩
  | [a] => exact ⟨_, 0, 0, (key a).2, by decide, by decide, by show [D.int (a.fmod 1000000), nI 0, nI 0] = _; rw [(key a).1]⟩
  | [a, b] => exact ⟨_, _, 0, (key a).2, (key b).2, by decide, by show [D.int (a.fmod 1000000), D.int (b.fmod 1000000), nI 0] = _; rw [(key a).1, (key b).1]⟩
  | a :: b :: c :: r => exact ⟨_, _, _, (key a).2, (key b).2, (key c).2, by show [D.int (a.fmod 1000000), D.int (b.fmod 1000000), D.int (c.fmod 1000000)] = _; rw [(key a).1, (key b).1, (key c).1]⟩

theorem law_0 {xs : List Int} (hl : xs.length ≤ 1000) (h : ∀ nm f s t, f < 1000000 → s < 1000000 → t < 1000000 → pxs XW ir_law_2 (WL (.list (xs.map D.int)) nm f s t .no .no .no .no .no .no .no .no .no .no .no .no .no .no .no .no .no .no .no .no .no .no .no .no .no .no) R) :
    pxs XW ir_law [.val (.list (xs.map D.int)), .no, .no, .no, .no, .no, .no, .no, .no, .no, .no, .no, .no, .no, .no, .no, .no, .no, .no, .no, .no, .no, .no, .no, .no, .no, .no, .no, .no, .no, .no] R := by
  unfold ir_law
  refine s_asnc ?_
  simp only [pit_rng, pit_var, pit_slA, pit_slL, pit_slU, pe_cst, pe_neg, pe_var, pe_gval, pe_bin, pe_cmp, pe_ite, pe_and, pe_one, pe_bi, pe_fn, pe_meth, pe_item, pe_slA, pe_slL, pe_slU, pe_lst, pe_tup, pe_isint, pe_comp, pe_compif, hid, List.map_cons, List.map_nil, V.hid, List.getElem?_cons_zero, List.getElem?_cons_succ]
  refine ⟨⟨by decide, by rw [List.length_map]; omega⟩, ?_⟩
  refine ⟨by simp; omega, ?_⟩
  have e : (xs.map D.int).take (3 : Int).toNat = ((xs.take 3).map D.int) := by rw [← List.map_take]; rfl
  rw [e]
  obtain ⟨f, s, t, hf, hs, ht, he⟩ := numbers xs
  have go : ∀ (l : List Int) (Q : List D → Prop), Q (l.map fun x => D.int (x.fmod 1000000)) → pcompif (fun _ Q => Q true) (fun d Q => match (inner [some (D.list (xs.map D.int)), none, none, none, none, none, none, none, none, none, none, none, none, none, none, none, none, none, none, none, none, none, none, none, none, none, none, none, none, none, none] [] d)[0]? with | some (some d) => pbin .Mod d (.int 1000000) Q | _ => False) (l.map D.int) Q := by
    intro l
    induction l with
    | nil => intro Q hq; unfold pcompif; exact hq
    | cons a l ih =>
      intro Q hq
      rw [List.map_cons]
      unfold pcompif
      show if true = true then _ else _
      rw [if_pos rfl]
      show pbin .Mod (.int a) (.int 1000000) _
      exact ⟨by decide, ih _ hq⟩
  refine go _ _ ?_
  simp only [List.set_cons_zero, List.set_cons_succ]
  rw [if_neg (by decide)]
  generalize hn : ((xs.take 3).map fun x => D.int (x.fmod 1000000)) = nm at *
  unfold ir_law_1
  refine s_unp ?_
  simp only [pit_rng, pit_var, pit_slA, pit_slL, pit_slU, pe_cst, pe_neg, pe_var, pe_gval, pe_bin, pe_cmp, pe_ite, pe_and, pe_one, pe_bi, pe_fn, pe_meth, pe_item, pe_slA, pe_slL, pe_slU, pe_lst, pe_tup, pe_isint, pe_comp, pe_compif, pes_nil, pes_cons, hid, List.map_cons, List.map_nil, V.hid, List.getElem?_cons_zero, List.getElem?_cons_succ, bis0]
  have hnl : nm.length ≤ 3 := by rw [← hn]; simp; omega
  refine ⟨by omega, ⟨by omega, by decide⟩, ?_⟩
  rw [Int.toNat_natCast]
  have he' : nm ++ List.drop nm.length [D.int 0, D.int 0, D.int 0] = [nI f, nI s, nI t] := he
  refine ⟨by simp; omega, ?_⟩
  rw [he']
  exact ⟨rfl, h _ f s t hf hs ht⟩
end
end Mp
end

section
open PySem PySem.W PyProof.Rows PySem.Calls
set_option maxRecDepth 100000
set_option linter.unusedSimpArgs false
set_option linter.unusedVariables false
set_option linter.unusedSectionVars false
namespace Mp


/-! ## the equations, one by one -/
section
variable {G : Gt} {m : Vs} {Q : D → Prop} {op : Operator} {co : CmpOp} {a b c i : I} {as : List I} {k : Nat} {d : D} {z : Int} {Qs : List D → Prop} {Qb : Bool → Prop} {me : Me} {out : List Nat}
end
theorem nI_eq {x : Int} {k : Nat} (h : x = (k : Int)) : D.int x = nI k := by rw [h]; rfl
noncomputable def drawF (t L n : Nat) : List Nat := (List.range n).map fun i => (t / 16 + i * (2 * (t % 16) + 3)) % L

theorem XW_bi0 : XW.G.bis[0]? = some ((Str.ofString "len", Bi.len) : Str × Bi) := rfl
theorem XW_bi1 : XW.G.bis[1]? = some ((Str.ofString "min", Bi.min) : Str × Bi) := rfl
theorem XW_bi2 : XW.G.bis[2]? = some ((Str.ofString "max", Bi.max) : Str × Bi) := rfl
theorem XW_fn0 : XW.G.fns[0]? = some ((Str.ofString "_law_lamp", cLamp) : Str × (List D → (D → Prop) → Prop)) := rfl
theorem XW_fn1 : XW.G.fns[1]? = some ((Str.ofString "_law_sizes", cSizes) : Str × (List D → (D → Prop) → Prop)) := rfl
theorem XW_fn2 : XW.G.fns[2]? = some ((Str.ofString "_law_whole", cWhole) : Str × (List D → (D → Prop) → Prop)) := rfl
theorem XW_fn3 : XW.G.fns[3]? = some ((Str.ofString "_strcoll", cStrcoll) : Str × (List D → (D → Prop) → Prop)) := rfl
theorem XW_fn4 : XW.G.fns[4]? = some ((Str.ofString "_law_strung", cStrung) : Str × (List D → (D → Prop) → Prop)) := rfl
theorem XW_fn5 : XW.G.fns[5]? = some ((Str.ofString "_ellipsis_match", cEll) : Str × (List D → (D → Prop) → Prop)) := rfl

section
variable {R : Out → Prop} {sc nm : D} {f s t L S g n : Nat} {v5 v6 v7 v8 v9 v10 v11 v12 v13 v14 v15 v16 v17 v18 v19 v20 v21 v22 v23 v24 v25 v26 v27 v28 v29 v30 : V}

theorem law_2 (h : pxs XW ir_law_3 (WL sc nm f s t (.val (nI (8 + 8 * (f % 2)))) v6 v7 v8 v9 v10 v11 v12 v13 v14 v15 v16 v17 v18 v19 v20 v21 v22 v23 v24 v25 v26 v27 v28 v29 v30) R) :
    pxs XW ir_law_2 (WL sc nm f s t v5 v6 v7 v8 v9 v10 v11 v12 v13 v14 v15 v16 v17 v18 v19 v20 v21 v22 v23 v24 v25 v26 v27 v28 v29 v30) R := by
  unfold ir_law_2
  refine s_asn ?_
  simp only [nI, pe_cst, pe_neg, pe_var, pe_bin, pe_bi, pes_nil, pes_cons, hid, List.map_cons, List.map_nil, V.hid, List.getElem?_cons_zero, List.getElem?_cons_succ, List.set_cons_zero, List.set_cons_succ]
  refine ⟨by decide, by unfold small; decide, ?_⟩
  have e : (8 : Int) + 8 * ((f : Int).fmod 2) = ((8 + 8 * (f % 2) : Nat) : Int) := by
    rw [show (2 : Int) = ((2 : Nat) : Int) from rfl, fmodN]; omega
  show pxs XW ir_law_3 (WL sc nm f s t (.val (.int ((8 : Int) + 8 * ((f : Int).fmod 2)))) v6 v7 v8 v9 v10 v11 v12 v13 v14 v15 v16 v17 v18 v19 v20 v21 v22 v23 v24 v25 v26 v27 v28 v29 v30) R
  rw [nI_eq e]
  exact h

theorem law_3 (hL : 2 ≤ L) (h : pxs XW ir_law_4 (WL sc nm f s t (.val (nI L)) (.val (nI (1 + (f / 2 + 4) % (L - 1)))) v7 v8 v9 v10 v11 v12 v13 v14 v15 v16 v17 v18 v19 v20 v21 v22 v23 v24 v25 v26 v27 v28 v29 v30) R) :
    pxs XW ir_law_3 (WL sc nm f s t (.val (nI L)) v6 v7 v8 v9 v10 v11 v12 v13 v14 v15 v16 v17 v18 v19 v20 v21 v22 v23 v24 v25 v26 v27 v28 v29 v30) R := by
  unfold ir_law_3
  refine s_asn ?_
  simp only [nI, pe_cst, pe_neg, pe_var, pe_bin, pe_bi, pes_nil, pes_cons, hid, List.map_cons, List.map_nil, V.hid, List.getElem?_cons_zero, List.getElem?_cons_succ, List.set_cons_zero, List.set_cons_succ, pbin_fdivI, pbin_addI, pbin_subI, pbin_modI]
  refine ⟨⟨by decide, by unfold small; decide⟩, ?_⟩
  refine ⟨by omega, ?_⟩
  have e : (1 : Int) + (((f : Int).fdiv 2 + 4).fmod ((L : Int) - 1)) = ((1 + (f / 2 + 4) % (L - 1) : Nat) : Int) := by
    rw [show (2 : Int) = ((2 : Nat) : Int) from rfl, fdivN, show (((f / 2 : Nat) : Int) + 4) = ((f / 2 + 4 : Nat) : Int) by omega, show ((L : Int) - 1) = ((L - 1 : Nat) : Int) by omega, fmodN]; omega
  show pxs XW ir_law_4 (WL sc nm f s t (.val (nI L)) (.val (.int ((1 : Int) + (((f : Int).fdiv 2 + 4).fmod ((L : Int) - 1))))) v7 v8 v9 v10 v11 v12 v13 v14 v15 v16 v17 v18 v19 v20 v21 v22 v23 v24 v25 v26 v27 v28 v29 v30) R
  rw [nI_eq e]
  exact h

theorem law_4 (hS1 : 1 ≤ S) (hS : S < L) (h : pxs XW ir_law_5 (WL sc nm f s t (.val (nI L)) (.val (nI S)) (.val (nI (1 + (s + 1) % (min S (L - S))))) v8 v9 v10 v11 v12 v13 v14 v15 v16 v17 v18 v19 v20 v21 v22 v23 v24 v25 v26 v27 v28 v29 v30) R) :
    pxs XW ir_law_4 (WL sc nm f s t (.val (nI L)) (.val (nI S)) v7 v8 v9 v10 v11 v12 v13 v14 v15 v16 v17 v18 v19 v20 v21 v22 v23 v24 v25 v26 v27 v28 v29 v30) R := by
  unfold ir_law_4
  refine s_asn ?_
  simp only [nI, pe_cst, pe_neg, pe_var, pe_bin, pe_bi, pes_nil, pes_cons, hid, List.map_cons, List.map_nil, V.hid, List.getElem?_cons_zero, List.getElem?_cons_succ, List.set_cons_zero, List.set_cons_succ, XW_bi1, pbi_min, pbin_addI, pbin_subI]
  have em : (if (L : Int) - (S : Int) < (S : Int) then (L : Int) - (S : Int) else (S : Int)) = ((min S (L - S) : Nat) : Int) := by
    split <;> omega
  rw [em, pbin_modI]
  refine ⟨by omega, ?_⟩
  have e : (1 : Int) + (((s : Int) + 1).fmod ((min S (L - S) : Nat) : Int)) = ((1 + (s + 1) % (min S (L - S)) : Nat) : Int) := by
    rw [show ((s : Int) + 1) = ((s + 1 : Nat) : Int) by omega, fmodN]; omega
  show pxs XW ir_law_5 (WL sc nm f s t (.val (nI L)) (.val (nI S)) (.val (.int ((1 : Int) + (((s : Int) + 1).fmod ((min S (L - S) : Nat) : Int))))) v8 v9 v10 v11 v12 v13 v14 v15 v16 v17 v18 v19 v20 v21 v22 v23 v24 v25 v26 v27 v28 v29 v30) R
  rw [nI_eq e]
  exact h

theorem law_5 (hg : g ≤ L) (h : pxs XW ir_law_7 (WL sc nm f s t (.val (nI L)) v6 (.val (nI g)) (.val (nI (L - g))) (.val (.str abc)) v10 v11 v12 v13 v14 v15 v16 v17 v18 v19 v20 v21 v22 v23 v24 v25 v26 v27 v28 v29 v30) R) :
    pxs XW ir_law_5 (WL sc nm f s t (.val (nI L)) v6 (.val (nI g)) v8 v9 v10 v11 v12 v13 v14 v15 v16 v17 v18 v19 v20 v21 v22 v23 v24 v25 v26 v27 v28 v29 v30) R := by
  unfold ir_law_5
  refine s_asn ?_
  simp only [nI, pe_cst, pe_neg, pe_var, pe_bin, pe_bi, pes_nil, pes_cons, hid, List.map_cons, List.map_nil, V.hid, List.getElem?_cons_zero, List.getElem?_cons_succ, List.set_cons_zero, List.set_cons_succ]
  show pxs XW ir_law_6 (WL sc nm f s t (.val (nI L)) v6 (.val (nI g)) (.val (.int ((L : Int) - (g : Int)))) v9 v10 v11 v12 v13 v14 v15 v16 v17 v18 v19 v20 v21 v22 v23 v24 v25 v26 v27 v28 v29 v30) R
  rw [nI_eq (show (L : Int) - (g : Int) = ((L - g : Nat) : Int) by omega)]
  unfold ir_law_6
  refine s_asn ?_
  simp only [pe_cst]
  exact h

theorem law_7 (hL : 2 ≤ L) (hn : n ≤ 1000) (h : pxs XW ir_law_9 (WL sc nm f s t (.val (nI L)) v6 v7 (.val (nI n)) v9 v10 (.val (.list ((drawF t L n).map nI))) (.val (.str (ofL []))) v13 v14 v15 v16 v17 v18 v19 v20 v21 v22 v23 v24 v25 v26 v27 v28 v29 v30) R) :
    pxs XW ir_law_7 (WL sc nm f s t (.val (nI L)) v6 v7 (.val (nI n)) v9 v10 v11 v12 v13 v14 v15 v16 v17 v18 v19 v20 v21 v22 v23 v24 v25 v26 v27 v28 v29 v30) R := by
  unfold ir_law_7
  refine s_asnc ?_
  simp only [nI, pit_rng, pe_cst, pe_neg, pe_var, pe_bin, pe_bi, pes_nil, pes_cons, hid, List.map_cons, List.map_nil, V.hid, List.getElem?_cons_zero, List.getElem?_cons_succ, List.set_cons_zero, List.set_cons_succ]
  refine ⟨⟨smallN (by omega), by omega⟩, ?_⟩
  have e0 : irange 0 (n : Int) = (List.range n).map nI := by
    have := irange_nat 0 n
    rw [Nat.sub_zero, ← List.range_eq_range'] at this
    exact this
  rw [e0]
  refine pcomp_mapN (f := fun i => nI ((t / 16 + i * (2 * (t % 16) + 3)) % L)) (fun i hi Q' hq => ?_) ?_
  · have hin := List.mem_range.mp hi
    simp only [inner, nI, List.map_cons, List.map_nil, List.getElem?_cons_zero, List.getElem?_cons_succ, List.getD_cons_succ, List.getD_cons_zero]
    refine ⟨⟨by decide, by unfold small; decide⟩, ?_⟩
    refine ⟨by decide, by unfold small; decide, ?_⟩
    refine ⟨smallN (by omega), ?_⟩
    refine ⟨by omega, ?_⟩
    have e : ((t : Int).fdiv 16 + (i : Int) * (2 * (t : Int).fmod 16 + 3)).fmod (L : Int) = (((t / 16 + i * (2 * (t % 16) + 3)) % L : Nat) : Int) := by
      have e1 : (t : Int).fdiv 16 = ((t / 16 : Nat) : Int) := fdivN t 16
      have e2 : (t : Int).fmod 16 = ((t % 16 : Nat) : Int) := fmodN t 16
      rw [e1, e2, ← fmodN (t / 16 + i * (2 * (t % 16) + 3)) L, Int.natCast_add, Int.natCast_mul, Int.natCast_add, Int.natCast_mul]
      rfl
    rw [e]
    exact hq
  · rw [if_neg (by decide)]
    unfold ir_law_8
    refine s_asn ?_
    simp only [pe_cst]
    have ed : ((List.range n).map fun i => nI ((t / 16 + i * (2 * (t % 16) + 3)) % L)) = (drawF t L n).map nI := by
      unfold drawF; rw [List.map_map]; rfl
    rw [ed]
    exact h
end
end Mp
end

section
open PySem PySem.W PyProof.Rows PySem.Calls
set_option maxRecDepth 100000
set_option linter.unusedSimpArgs false
set_option linter.unusedVariables false
set_option linter.unusedSectionVars false
namespace Mp


/-- the lists of small numbers -/
theorem nI_get {dr : List Nat} {i : Nat} (h : i < dr.length) : (dr.map nI)[i]? = some (nI (dr.getD i 0)) := by
  rw [List.getElem?_map, List.getElem?_eq_getElem h, List.getD_eq_getElem?_getD, List.getElem?_eq_getElem h]; rfl
theorem getD_mem {dr : List Nat} {i : Nat} (h : i < dr.length) : dr.getD i 0 ∈ dr := by
  rw [List.getD_eq_getElem?_getD, List.getElem?_eq_getElem h]; exact List.getElem_mem h

section
variable {R : Out → Prop} {sc nm : D} {f s t L S g n : Nat} {v5 v6 v7 v8 v9 v10 v11 v12 v13 v14 v15 v16 v17 v18 v19 v20 v21 v22 v23 v24 v25 v26 v27 v28 v29 v30 : V} {dr : List Nat}

theorem lamp_turn (hL : L = 8 ∨ L = 16) (hdr : ∀ d ∈ dr, d < L) (hl : dr.length ≤ 16) {i : Nat} (hi : i < dr.length) {x : List Nat} (hx : x.length ≤ 100)
    (h : ∀ v13, R (.go (WL sc nm f s t (.val (nI L)) v6 v7 v8 (.val (.str abc)) (.val (nI i)) (.val (.list (dr.map nI))) (.val (.str (ofL (x ++ [97 + dr.getD i 0])))) v13 v14 v15 v16 v17 v18 v19 v20 v21 v22 v23 v24 v25 v26 v27 v28 v29 v30))) :
    pxs XW law_b2 (WL sc nm f s t (.val (nI L)) v6 v7 v8 (.val (.str abc)) (.val (nI i)) (.val (.list (dr.map nI))) (.val (.str (ofL x))) v13 v14 v15 v16 v17 v18 v19 v20 v21 v22 v23 v24 v25 v26 v27 v28 v29 v30) R := by
  have hd := hdr _ (getD_mem hi)
  have hL16 : L ≤ 16 := by rcases hL with rfl | rfl <;> decide
  unfold law_b2
  refine s_asn ?_
  simp only [nI, pe_fn, pes_cons, pes_nil, pe_bin, pe_item, pe_var, pe_cst, hid, List.map_cons, List.map_nil, V.hid, List.getElem?_cons_zero, List.getElem?_cons_succ, XW_fn0]
  refine item_list (by rw [List.length_map]; omega) (nI_get hi) ?_
  simp only [nI, pbin_modI, pbin_mulI', pbin_addI]
  refine ⟨by decide, smallN (by omega), ?_⟩
  have e : ((dr.getD i 0 : Nat) : Int) + (L : Int) * (i : Int).fmod 3 = ((dr.getD i 0 + L * (i % 3) : Nat) : Int) := by
    have e1 : (i : Int).fmod 3 = ((i % 3 : Nat) : Int) := fmodN i 3
    rw [e1, Int.natCast_add, Int.natCast_mul]
  rw [e]
  have h3 : i % 3 < 3 := Nat.mod_lt _ (by decide)
  have h3' : L * (i % 3) ≤ L * 2 := Nat.mul_le_mul_left _ (by omega)
  refine ⟨dr.getD i 0 + L * (i % 3), L, true, rfl, ?_, ?_⟩
  · rcases hL with rfl | rfl
    · left; omega
    · right; omega
  rw [if_pos rfl, Nat.add_mul_mod_self_left, Nat.mod_eq_of_lt hd]
  simp only [List.set_cons_zero, List.set_cons_succ]
  unfold law_b2_1
  refine s_ite ?_
  simp only [nI, pt_cmp, pe_item, pe_var, vis, List.map_cons, List.map_nil, V.vis, List.getElem?_cons_zero, List.getElem?_cons_succ]
  refine item_list (by rw [List.length_map]; omega) (nI_get hi) ?_
  simp only [nI, pcmp_neI', ptruth_bool]
  rw [if_neg (by simp)]
  refine s_nil ?_
  rw [nxt_go]
  unfold law_b2_2
  refine s_aug (o := .str (ofL x)) rfl ?_
  simp only [nI, pe_item, pe_var, vis, List.map_cons, List.map_nil, V.vis, List.getElem?_cons_zero, List.getElem?_cons_succ]
  refine item_abc (by omega) fun tk h0 hfr => ?_
  rw [pinp_text]
  refine ⟨by rw [ofL_len, ofL_len]; simp; omega, trivial, ?_⟩
  rw [ofL_add]
  simp only [List.set_cons_zero, List.set_cons_succ]
  refine s_nil ?_
  exact h _

theorem lamps_loop (hL : L = 8 ∨ L = 16) (hdr : ∀ d ∈ dr, d < L) (hl : dr.length ≤ 16) : ∀ (k i : Nat) (v10 v13 : V), i + k = dr.length →
    (∀ v10 v13, R (.go (WL sc nm f s t (.val (nI L)) v6 v7 v8 (.val (.str abc)) v10 (.val (.list (dr.map nI))) (.val (.str (ofL (dr.map (97 + ·))))) v13 v14 v15 v16 v17 v18 v19 v20 v21 v22 v23 v24 v25 v26 v27 v28 v29 v30))) →
    pfor (fun W R => pxs XW law_b2 W R) 10 ((List.range' i k).map nI) (WL sc nm f s t (.val (nI L)) v6 v7 v8 (.val (.str abc)) v10 (.val (.list (dr.map nI))) (.val (.str (ofL ((dr.take i).map (97 + ·))))) v13 v14 v15 v16 v17 v18 v19 v20 v21 v22 v23 v24 v25 v26 v27 v28 v29 v30) R
  | 0, i, v10, v13, hik, h => by
    simp only [List.range'_zero, List.map_nil]
    unfold pfor
    rw [List.take_of_length_le (by omega)]
    exact h _ _
  | k + 1, i, v10, v13, hik, h => by
    rw [List.range'_succ, List.map_cons]
    unfold pfor
    show pxs XW law_b2 (WL sc nm f s t (.val (nI L)) v6 v7 v8 (.val (.str abc)) (.val (nI i)) (.val (.list (dr.map nI))) (.val (.str (ofL ((dr.take i).map (97 + ·))))) v13 v14 v15 v16 v17 v18 v19 v20 v21 v22 v23 v24 v25 v26 v27 v28 v29 v30) _
    have hi : i < dr.length := by omega
    refine lamp_turn hL hdr hl hi (by simp; omega) fun v13' => ?_
    have e : (dr.take i).map (97 + ·) ++ [97 + dr.getD i 0] = (dr.take (i + 1)).map (97 + ·) := by
      rw [List.take_succ_eq_append_getElem hi, List.map_append, List.getD_eq_getElem?_getD, List.getElem?_eq_getElem hi]
      rfl
    rw [e]
    exact lamps_loop hL hdr hl k (i + 1) _ _ (by omega) h

theorem law_9 (hL : L = 8 ∨ L = 16) (hdr : ∀ d ∈ dr, d < L) (hl : dr.length = n) (hn : n ≤ 16)
    (h : ∀ v10 v13, pxs XW ir_law_10 (WL sc nm f s t (.val (nI L)) v6 v7 (.val (nI n)) (.val (.str abc)) v10 (.val (.list (dr.map nI))) (.val (.str (ofL (dr.map (97 + ·))))) v13 v14 v15 v16 v17 v18 v19 v20 v21 v22 v23 v24 v25 v26 v27 v28 v29 v30) R) :
    pxs XW ir_law_9 (WL sc nm f s t (.val (nI L)) v6 v7 (.val (nI n)) (.val (.str abc)) v10 (.val (.list (dr.map nI))) (.val (.str (ofL []))) v13 v14 v15 v16 v17 v18 v19 v20 v21 v22 v23 v24 v25 v26 v27 v28 v29 v30) R := by
  unfold ir_law_9
  refine s_for ?_
  simp only [nI, pit_rng, pes_cons, pes_nil, pe_var, hid, List.map_cons, List.map_nil, V.hid, List.getElem?_cons_zero, List.getElem?_cons_succ]
  refine ⟨⟨smallN (by omega), by omega⟩, ?_⟩
  have e0 : irange 0 (n : Int) = (List.range' 0 n).map nI := by
    have := irange_nat 0 n
    rw [Nat.sub_zero] at this
    exact this
  rw [e0]
  refine lamps_loop hL hdr (by omega) n 0 _ _ (by omega) fun v10 v13 => ?_
  rw [nxt_go]
  exact h _ _
end
end Mp
end

section
open PySem PySem.W PyProof.Rows PySem.Calls
set_option maxRecDepth 100000
set_option linter.unusedSimpArgs false
set_option linter.unusedVariables false
set_option linter.unusedSectionVars false
namespace Mp

theorem fact_of {P : Nat → Nat → Nat → Bool} (h : combos.all (fun (L, S, n) => P L S n) = true) {L S n : Nat} (hm : (L, S, n) ∈ combos) : P L S n = true := List.all_eq_true.mp h _ hm
theorem head_ne {xs : List Int} (h : xs.headD 1 ≠ 0) : ∀ r, xs ≠ 0 :: r := by rintro r rfl; exact h rfl

section
variable {R : Out → Prop} {sc nm : D} {f s t L S g n : Nat} {v5 v6 v7 v8 v9 v10 v11 v12 v13 v14 v15 v16 v17 v18 v19 v20 v21 v22 v23 v24 v25 v26 v27 v28 v29 v30 : V} {dr : List Nat}

theorem law_10 (h : pxs XW ir_law_11 (WL sc nm f s t v5 (.val (nI S)) v7 v8 v9 v10 v11 v12 v13 v14 v15 v16 v17 v18 v19 v20 v21 v22 v23 v24 v25 v26 v27 v28 v29 v30) R) :
    pxs XW ir_law_10 (WL sc nm f s t v5 (.val (nI S)) v7 v8 v9 v10 v11 v12 v13 v14 v15 v16 v17 v18 v19 v20 v21 v22 v23 v24 v25 v26 v27 v28 v29 v30) R := by
  unfold ir_law_10
  exact s_orc (p := (tryX, tryPt)) rfl ⟨⟨(S : Int), rfl⟩, h⟩

theorem law_11 (h : pxs XW ir_law_12 (WL sc nm f s t v5 (.val (nI S)) v7 v8 v9 v10 v11 v12 v13 v14 v15 v16 v17 v18 v19 v20 v21 v22 v23 v24 v25 v26 v27 v28 v29 v30) R) :
    pxs XW ir_law_11 (WL sc nm f s t v5 (.val (nI S)) v7 v8 v9 v10 v11 v12 v13 v14 v15 v16 v17 v18 v19 v20 v21 v22 v23 v24 v25 v26 v27 v28 v29 v30) R := by
  unfold ir_law_11
  refine s_ite ?_
  simp only [nI, pt_cmp, pe_bin, pe_fn, pe_lst, pes_cons, pes_nil, pe_var, pe_cst, vis, List.map_cons, List.map_nil, V.vis, List.getElem?_cons_zero, List.getElem?_cons_succ, XW_fn1]
  refine ⟨[127, (S : Int)], 1, 1, [], rfl, (by intro r h; cases h), by decide, by simp, rfl, ?_⟩
  refine ⟨[], 1, 1, [], rfl, (by intro r h; cases h), by decide, by simp, rfl, ?_⟩
  refine ⟨by simp, ?_⟩
  refine cmp_ne_ints (xs := []) ?_
  rw [ptruth_bool, if_neg (by decide)]
  refine s_nil ?_
  rw [nxt_go]
  exact h

theorem law_12 (h : pxs XW ir_law_13 (WL sc nm f s t v5 (.val (nI S)) v7 v8 v9 v10 v11 v12 v13 (.val (.list ((tails S).map D.of))) v15 v16 v17 v18 v19 v20 v21 v22 v23 v24 v25 v26 v27 v28 v29 v30) R) :
    pxs XW ir_law_12 (WL sc nm f s t v5 (.val (nI S)) v7 v8 v9 v10 v11 v12 v13 v14 v15 v16 v17 v18 v19 v20 v21 v22 v23 v24 v25 v26 v27 v28 v29 v30) R := by
  unfold ir_law_12
  refine s_asn ?_
  simp only [nI, pe_lst, pes_cons, pes_nil, pe_var, pe_cst, hid, List.map_cons, List.map_nil, V.hid, List.getElem?_cons_zero, List.getElem?_cons_succ, List.set_cons_zero, List.set_cons_succ]
  exact h

theorem irange0 (n : Nat) : irange 0 (n : Int) = (List.range n).map nI := by
  have := irange_nat 0 n
  rw [Nat.sub_zero, ← List.range_eq_range'] at this
  exact this

theorem law_13 (hS1 : 1 ≤ S) (hS : S < L) (hL : L ≤ 16) (hn : S ≤ n) (hnL : n ≤ L) (hm : fact1 L S n = true)
    (h : pxs XW ir_law_14 (WL sc nm f s t v5 (.val (nI S)) v7 (.val (nI n)) v9 v10 v11 v12 v13 v14 (.own ((List.range S).map fun p => D.of (size1 L S n p))) v16 v17 v18 v19 v20 v21 v22 v23 v24 v25 v26 v27 v28 v29 v30) R) :
    pxs XW ir_law_13 (WL sc nm f s t v5 (.val (nI S)) v7 (.val (nI n)) v9 v10 v11 v12 v13 v14 v15 v16 v17 v18 v19 v20 v21 v22 v23 v24 v25 v26 v27 v28 v29 v30) R := by
  unfold ir_law_13
  refine s_asnc ?_
  simp only [nI, pit_rng, pes_cons, pes_nil, pe_var, hid, List.map_cons, List.map_nil, V.hid, List.getElem?_cons_zero, List.getElem?_cons_succ]
  refine ⟨⟨smallN (by omega), by omega⟩, ?_⟩
  rw [irange0]
  refine pcomp_mapN (f := fun p => D.of (size1 L S n p)) (fun p hp Q' hq => ?_) ?_
  · have hpS := List.mem_range.mp hp
    have hf := List.all_eq_true.mp hm p hp
    simp only [Bool.and_eq_true, bne_iff_ne, ne_eq, beq_iff_eq] at hf
    obtain ⟨⟨hf1, hf2⟩, hf3⟩ := hf
    simp only [inner, nI, List.map_cons, List.map_nil, List.getD_cons_succ, List.getD_cons_zero, pe_fn, pe_bin, pe_slU, pe_lst, pes_cons, pes_nil, pe_var, pe_cst, List.getElem?_cons_zero, List.getElem?_cons_succ, XW_fn1, pbin_addI, pbin_subI, pbin_fdivI]
    refine ⟨⟨by omega, by simp⟩, ?_⟩
    refine ⟨by simp; omega, ?_⟩
    refine ⟨⟨by omega, smallN (by omega)⟩, ?_⟩
    have e2 : ((n : Int) - (p : Int) - 1).fdiv (S : Int) = (((n - p - 1) / S : Nat) : Int) := by
      rw [show (n : Int) - (p : Int) - 1 = ((n - p - 1 : Nat) : Int) by omega, fdivN]
    rw [e2]
    refine ⟨ruler1 L S n p, 2 + (((n - p - 1) / S : Nat) : Int), 60, size1 L S n p, ?_, ?_, by decide, ?_, hf3, hq⟩
    · unfold ruler1
      rw [List.map_append, List.map_take]
      rfl
    · rintro r hr
      rw [hr] at hf2
      exact hf2 rfl
    · unfold ruler1; simp; omega
  · rw [if_pos trivial]
    simp only [List.set_cons_zero, List.set_cons_succ]
    exact h

theorem law_14 (hS1 : 1 ≤ S) (hS : S < L) (hL : L ≤ 16) (hn : n ≤ L) (hm : fact2 L S n = true) {xs : List D} (hx : xs.length ≤ 100)
    (h : pxs XW ir_law_15 (WL sc nm f s t (.val (nI L)) (.val (nI S)) v7 (.val (nI n)) v9 v10 v11 v12 v13 (.val (.list ((tails S).map D.of))) (.own (xs ++ (List.range n).map fun p => D.of (size2 L S n p))) v16 v17 v18 v19 v20 v21 v22 v23 v24 v25 v26 v27 v28 v29 v30) R) :
    pxs XW ir_law_14 (WL sc nm f s t (.val (nI L)) (.val (nI S)) v7 (.val (nI n)) v9 v10 v11 v12 v13 (.val (.list ((tails S).map D.of))) (.own xs) v16 v17 v18 v19 v20 v21 v22 v23 v24 v25 v26 v27 v28 v29 v30) R := by
  unfold ir_law_14
  refine s_extd (xs := xs) rfl ?_
  simp only [nI, pe_comp, pit_rng, pes_cons, pes_nil, pe_var, hid, List.map_cons, List.map_nil, V.hid, List.getElem?_cons_zero, List.getElem?_cons_succ]
  refine ⟨⟨smallN (by omega), by omega⟩, ?_⟩
  rw [irange0]
  refine pcomp_mapN (f := fun p => D.of (size2 L S n p)) (fun p hp Q' hq => ?_) ?_
  · have hpS := List.mem_range.mp hp
    have hf := List.all_eq_true.mp hm p hp
    simp only [beq_iff_eq] at hf
    simp only [inner, nI, List.map_cons, List.map_nil, List.getD_cons_succ, List.getD_cons_zero, pe_fn, pe_bin, pe_item, pe_lst, pes_cons, pes_nil, pe_var, pe_cst, List.getElem?_cons_zero, List.getElem?_cons_succ, XW_fn1, pbin_addI, pbin_subI, pbin_modI]
    refine ⟨by decide, ?_⟩
    have e1 : (p : Int).fmod 4 = ((p % 4 : Nat) : Int) := fmodN p 4
    rw [e1]
    have h4 : p % 4 < 4 := Nat.mod_lt _ (by decide)
    have hg : ((tails S).map D.of)[p % 4]? = some (D.of ((tails S).getD (p % 4) [])) := by
      rw [List.getElem?_map, List.getD_eq_getElem?_getD, List.getElem?_eq_getElem (by simpa [tails] using h4)]; rfl
    refine item_list (by simp [tails]) hg ?_
    refine ⟨?_, ?_⟩
    · generalize p % 4 = k at h4
      match k, h4 with
      | 0, _ => simp [tails]
      | 1, _ => simp [tails]
      | 2, _ => simp [tails]
      | 3, _ => simp [tails]
    refine ⟨ruler2 L S n p, 6, 60, size2 L S n p, ?_, ?_, by decide, ?_, hf, hq⟩
    · unfold ruler2
      rw [List.map_append]
      rfl
    · rintro r hr
      have : ((p : Int) + 1) = 0 := (List.cons.inj (show ((p : Int) + 1) :: _ = 0 :: r from hr)).1
      omega
    · unfold ruler2
      generalize p % 4 = k at h4
      match k, h4 with
      | 0, _ => simp [tails]
      | 1, _ => simp [tails]
      | 2, _ => simp [tails]
      | 3, _ => simp [tails]
  · refine ⟨by simp; omega, ?_⟩
    simp only [List.set_cons_zero, List.set_cons_succ]
    exact h

theorem law_15 (hS1 : 1 ≤ S) (hS : S < L) (hL : L ≤ 16) (hn : S ≤ n) (hnL : n ≤ L)
    (h : pxs XW ir_law_16 (WL sc nm f s t v5 (.val (nI S)) v7 (.val (nI n)) v9 v10 v11 v12 v13 v14 v15 (.own ((List.range S).map fun p => D.of (size1 L S n p))) v17 v18 v19 v20 v21 v22 v23 v24 v25 v26 v27 v28 v29 v30) R) :
    pxs XW ir_law_15 (WL sc nm f s t v5 (.val (nI S)) v7 (.val (nI n)) v9 v10 v11 v12 v13 v14 v15 v16 v17 v18 v19 v20 v21 v22 v23 v24 v25 v26 v27 v28 v29 v30) R := by
  unfold ir_law_15
  refine s_asnc ?_
  simp only [nI, pit_rng, pes_cons, pes_nil, pe_var, hid, List.map_cons, List.map_nil, V.hid, List.getElem?_cons_zero, List.getElem?_cons_succ]
  refine ⟨⟨smallN (by omega), by omega⟩, ?_⟩
  rw [irange0]
  refine pcomp_mapN (f := fun p => D.of (size1 L S n p)) (fun p hp Q' hq => ?_) ?_
  · have hpS := List.mem_range.mp hp
    simp only [inner, nI, List.map_cons, List.map_nil, List.getD_cons_succ, List.getD_cons_zero, pe_bin, pe_lst, pes_cons, pes_nil, pe_var, pe_cst, List.getElem?_cons_zero, List.getElem?_cons_succ, pbin_addI, pbin_subI, pbin_fdivI]
    refine ⟨⟨by omega, smallN (by omega)⟩, ?_⟩
    have e2 : ((n : Int) - (p : Int) - 1).fdiv (S : Int) = (((n - p - 1) / S : Nat) : Int) := by
      rw [show (n : Int) - (p : Int) - 1 = ((n - p - 1 : Nat) : Int) by omega, fdivN]
    rw [e2]
    have hq' : (n - p - 1) / S ≤ n - p - 1 := Nat.div_le_self _ _
    generalize hqq : (n - p - 1) / S = q at hq' ⊢
    refine ⟨⟨by omega, by omega, rfl⟩, ?_⟩
    have e3 : (1 + (q : Int)).toNat = 1 + q := by omega
    rw [e3]
    have e4 : ∀ k, (List.replicate k [D.int (S : Int)]).flatten = List.replicate k (D.int (S : Int)) := by
      intro k
      induction k with
      | zero => rfl
      | succ k ih => rw [List.replicate_succ, List.flatten_cons, ih]; rfl
    rw [e4]
    refine ⟨by simp; omega, ?_⟩
    have e5 : [D.int ((p : Int) + 1)] ++ List.replicate (1 + q) (D.int (S : Int)) = (size1 L S n p).map D.int := by
      unfold size1
      rw [hqq, List.map_cons, List.map_replicate]; rfl
    rw [e5]
    exact hq
  · rw [if_pos trivial]
    simp only [List.set_cons_zero, List.set_cons_succ]
    exact h

theorem law_16 (hS1 : 1 ≤ S) (hS : S < L) (hL : L ≤ 16) (hn : n ≤ L) {xs : List D} (hx : xs.length ≤ 100)
    (h : pxs XW ir_law_17 (WL sc nm f s t (.val (nI L)) (.val (nI S)) v7 (.val (nI n)) v9 v10 v11 v12 v13 v14 v15 (.own (xs ++ (List.range n).map fun p => D.of (size2 L S n p))) v17 v18 v19 v20 v21 v22 v23 v24 v25 v26 v27 v28 v29 v30) R) :
    pxs XW ir_law_16 (WL sc nm f s t (.val (nI L)) (.val (nI S)) v7 (.val (nI n)) v9 v10 v11 v12 v13 v14 v15 (.own xs) v17 v18 v19 v20 v21 v22 v23 v24 v25 v26 v27 v28 v29 v30) R := by
  unfold ir_law_16
  refine s_extd (xs := xs) rfl ?_
  simp only [nI, pe_comp, pit_rng, pes_cons, pes_nil, pe_var, hid, List.map_cons, List.map_nil, V.hid, List.getElem?_cons_zero, List.getElem?_cons_succ]
  refine ⟨⟨smallN (by omega), by omega⟩, ?_⟩
  rw [irange0]
  refine pcomp_mapN (f := fun p => D.of (size2 L S n p)) (fun p hp Q' hq => ?_) ?_
  · have hpS := List.mem_range.mp hp
    simp only [inner, nI, List.map_cons, List.map_nil, List.getD_cons_succ, List.getD_cons_zero, pe_bin, pe_item, pe_lst, pes_cons, pes_nil, pe_var, pe_cst, List.getElem?_cons_zero, List.getElem?_cons_succ, pbin_addI, pbin_subI, pbin_modI]
    refine ⟨by decide, ?_⟩
    have e1 : (p : Int).fmod 4 = ((p % 4 : Nat) : Int) := fmodN p 4
    rw [e1]
    have h4 : p % 4 < 4 := Nat.mod_lt _ (by decide)
    have hg : (tails'.map D.of)[p % 4]? = some (D.of (tails'.getD (p % 4) [])) := by
      rw [List.getElem?_map, List.getD_eq_getElem?_getD, List.getElem?_eq_getElem (by simpa [tails'] using h4)]; rfl
    refine item_list (ds := tails'.map D.of) (by simp [tails']) hg ?_
    refine ⟨?_, ?_⟩
    · generalize p % 4 = k at h4
      match k, h4 with
      | 0, _ => simp [tails']
      | 1, _ => simp [tails']
      | 2, _ => simp [tails']
      | 3, _ => simp [tails']
    have e5 : [D.int ((p : Int) + 1), D.int ((L : Int) - (S : Int))] ++ (tails'.getD (p % 4) []).map D.int = (size2 L S n p).map D.int := by
      unfold size2
      rw [List.map_append]; rfl
    rw [e5]
    exact hq
  · refine ⟨by simp; omega, ?_⟩
    simp only [List.set_cons_zero, List.set_cons_succ]
    exact h

theorem law_17 {rs : List (List Int)} (h : pxs XW ir_law_20 (WL sc nm f s t v5 v6 v7 v8 v9 v10 v11 v12 v13 v14 (.val (.list (rs.map D.of))) (.val (.list (rs.map D.of))) v17 v18 v19 v20 v21 v22 v23 v24 v25 v26 v27 v28 v29 v30) R) :
    pxs XW ir_law_17 (WL sc nm f s t v5 v6 v7 v8 v9 v10 v11 v12 v13 v14 (.own (rs.map D.of)) (.own (rs.map D.of)) v17 v18 v19 v20 v21 v22 v23 v24 v25 v26 v27 v28 v29 v30) R := by
  unfold ir_law_17
  refine s_rel (xs := rs.map D.of) rfl ?_
  simp only [List.set_cons_zero, List.set_cons_succ]
  unfold ir_law_18
  refine s_rel (xs := rs.map D.of) rfl ?_
  simp only [List.set_cons_zero, List.set_cons_succ]
  unfold ir_law_19
  refine s_ite ?_
  simp only [pt_cmp, pe_var, vis, List.map_cons, List.map_nil, V.vis, List.getElem?_cons_zero, List.getElem?_cons_succ]
  refine cmp_ne_intss ?_
  rw [ptruth_bool, if_neg (by decide)]
  refine s_nil ?_
  rw [nxt_go]
  exact h
end
end Mp
end

section
open PySem PySem.W PyProof.Rows PySem.Calls
set_option maxRecDepth 100000
set_option linter.unusedSimpArgs false
set_option linter.unusedVariables false
set_option linter.unusedSectionVars false
namespace Mp
open PySem.Builtin PySem.Builtin.Str PySem.StrLaws

theorem frm_tail {x : Option D} {r : Vs} {t : Tok} (h : frm (x :: r) t) : frm r t := by
  cases x with
  | none => exact h
  | some d => cases d <;> first | exact h | exact h.2
theorem frm_get : ∀ {m : Vs} {k : Nat} {x : Str} {u t : Tok}, m[k]? = some (some (.strt x u)) → frm m t → u ≠ t
  | [], k, x, u, t, h, _ => by simp at h
  | y :: r, 0, x, u, t, h, hf => by
    simp at h; subst h; exact hf.1
  | y :: r, k + 1, x, u, t, h, hf => frm_get (m := r) (k := k) (by simpa using h) (frm_tail hf)

theorem abc_index : ∀ k, k < 16 → occurrences abc (ofL [97 + k]) 0 abc.length 1 = [k] := by decide +kernel
theorem item_tied {fr : Tok → Prop} {tt : List Nat} {p : Nat} {Q : D → Prop} (hl : tt.length ≤ 100) (hp : p < tt.length) (h : ∀ t, t ≠ 0 → fr t → Q (.strt (ofL [97 + tt.getD p 0]) t)) : pitem fr (.str (ofL (tt.map (97 + ·)))) (.int (p : Int)) Q := by
  refine ⟨by omega, by omega, ?_⟩
  rw [Int.toNat_natCast]
  have : (ofL (tt.map (97 + ·))).cps[p]? = some (97 + tt.getD p 0) := by
    rw [← Array.getElem?_toList, ofL_cps, List.getElem?_map, List.getElem?_eq_getElem hp, List.getD_eq_getElem?_getD, List.getElem?_eq_getElem hp]; rfl
  rw [this]
  exact h
theorem swapc_map (a b : Nat) (tt : List Nat) : swapc (97 + a) (97 + b) (tt.map (97 + ·)) = (tt.map fun k => if k = a then b else k).map (97 + ·) := by
  unfold swapc
  rw [List.map_map, List.map_map]
  apply List.map_congr_left
  intro k _
  simp only [Function.comp]
  by_cases h : k = a
  · rw [if_pos h, if_pos (by omega)]
  · rw [if_neg h, if_neg (by omega)]
theorem lt_letters (a b : Nat) : decide ((ofL [97 + a]).cps.toList < (ofL [97 + b]).cps.toList) = decide (a < b) := by
  rw [ofL_cps, ofL_cps, lt_cons_cons, lt_nil_nil, Bool.and_false, Bool.or_false]
  by_cases h : a < b <;> simp [h]
theorem eq_letters (a b : Nat) : decide (ofL [97 + a] = ofL [97 + b]) = decide (a = b) := by
  by_cases h : a = b
  · subst h; simp
  · simp [h]
theorem mergeT_len (tt : List Nat) (p q : Nat) : (mergeT tt p q).length = tt.length := by unfold mergeT; split <;> rw [List.length_map]
theorem mergeT_lt {tt : List Nat} {p q : Nat} (hp : p < tt.length) (hq : q < tt.length) (h : ∀ x ∈ tt, x < 16) : ∀ x ∈ mergeT tt p q, x < 16 := by
  have h1 := h _ (getD_mem hp)
  have h2 := h _ (getD_mem hq)
  intro x hx
  unfold mergeT at hx
  split at hx
  · obtain ⟨y, hy, rfl⟩ := List.mem_map.mp hx
    have := h y hy
    split <;> omega
  · obtain ⟨y, hy, rfl⟩ := List.mem_map.mp hx
    have := h y hy
    split <;> omega

theorem pmeth_replace {x y z : Str} {t u : Tok} {Q : D → Prop} (h1 : t ≠ u) (h2 : x.length ≤ 1048576) (h3 : z.length ≤ 14) (h : Q (.str (Txt.replace x y z))) : pmeth .replace (.str x) [.strt y t, .strt z u] Q := ⟨⟨h1, h2, h3⟩, h⟩
theorem pmeth_index {k : Nat} {t : Tok} {Q : D → Prop} (hk : k < 16) (h : Q (.int (k : Int))) : pmeth .index (.str abc) [.strt (ofL [97 + k]) t] Q := by
  show occurrences abc (ofL [97 + k]) 0 abc.length 1 ≠ [] ∧ Q (.int (occ1 (occurrences abc (ofL [97 + k]) 0 abc.length 1)))
  rw [abc_index k hk]
  exact ⟨List.cons_ne_nil _ _, h⟩

section
variable {R : Out → Prop} {sc nm : D} {f se th L S g n : Nat} {v5 v6 v7 v8 v9 v10 v11 v12 v13 v14 v15 v16 v17 v18 v19 v20 v21 v22 v23 v24 v25 v26 v27 v28 v29 v30 : V} {tt : List Nat}

/-- two places are tied -/
theorem tie_step (hl : tt.length ≤ 100) (ht : ∀ x ∈ tt, x < 16) {p q : Nat} {m s : Int} (hp : p < tt.length) (hq : q < tt.length) (hm : m - s - 1 = (p : Int)) (hm' : m - 1 = (q : Int))
    (h : ∀ v20 v21 v22, R (.go (WL sc nm f se th v5 v6 v7 v8 (.val (.str abc)) v10 v11 (.val (.str (ofL ((mergeT tt p q).map (97 + ·))))) v13 v14 v15 v16 v17 (.val (.int m)) (.val (.int s)) v20 v21 v22 v23 v24 v25 v26 v27 v28 v29 v30))) :
    pxs XW law_b6 (WL sc nm f se th v5 v6 v7 v8 (.val (.str abc)) v10 v11 (.val (.str (ofL (tt.map (97 + ·))))) v13 v14 v15 v16 v17 (.val (.int m)) (.val (.int s)) v20 v21 v22 v23 v24 v25 v26 v27 v28 v29 v30) R := by
  have ha := ht _ (getD_mem hp)
  have hb := ht _ (getD_mem hq)
  have hmt : mergeT tt p q = if tt.getD p 0 < tt.getD q 0 then tt.map (fun k => if k = tt.getD p 0 then tt.getD q 0 else k) else tt.map fun k => if k = tt.getD q 0 then tt.getD p 0 else k := rfl
  unfold law_b6
  refine s_asn ?_
  simp only [pe_item, pe_bin, pe_var, pe_cst, hid, List.map_cons, List.map_nil, V.hid, List.getElem?_cons_zero, List.getElem?_cons_succ, pbin_subI]
  rw [hm]
  refine item_tied hl hp fun t1 ht1 _ => ?_
  simp only [List.set_cons_zero, List.set_cons_succ]
  unfold law_b6_1
  refine s_asn ?_
  simp only [pe_item, pe_bin, pe_var, pe_cst, hid, List.map_cons, List.map_nil, V.hid, List.getElem?_cons_zero, List.getElem?_cons_succ, pbin_subI]
  rw [hm']
  refine item_tied hl hq fun t2 ht2 hfr => ?_
  have ht12 : t1 ≠ t2 := frm_get (k := 20) (x := ofL [97 + tt.getD p 0]) rfl hfr
  clear hfr
  simp only [List.set_cons_zero, List.set_cons_succ]
  generalize tt.getD p 0 = a at *
  generalize tt.getD q 0 = b at *
  unfold law_b6_2
  refine s_asn ?_
  simp only [pe_fn, pes_cons, pes_nil, pe_var, hid, List.map_cons, List.map_nil, V.hid, List.getElem?_cons_zero, List.getElem?_cons_succ, XW_fn2, XW_fn3]
  refine ⟨_, _, ofL [97 + a], ofL [97 + b], rfl, rfl, rfl, ?_⟩
  rw [lt_letters, lt_letters]
  refine ⟨_, rfl, ?_⟩
  simp only [List.set_cons_zero, List.set_cons_succ]
  unfold law_b6_3
  refine s_ite ?_
  simp only [pt_cmp, pe_ite, pe_meth, pe_neg, pes_cons, pes_nil, pe_var, pe_cst, vis, List.map_cons, List.map_nil, V.vis, List.getElem?_cons_zero, List.getElem?_cons_succ, pcmp_eq_strt, ptruth_bool, eq_letters]
  have go : ∀ (o : Int), (o = bint (decide (b < a)) - bint (decide (a < b))) → ∀ e : Int, e = o →
      (pcmp .NotEq (.int o) (.int e) fun d => ptruth d fun ok => if ok = true then
        pxs XW law_b5 (WL sc nm f se th v5 v6 v7 v8 (.val (.str abc)) v10 v11 (.val (.str (ofL (tt.map (97 + ·))))) v13 v14 v15 v16 v17 (.val (.int m)) (.val (.int s)) (.val (.strt (ofL [97 + a]) t1)) (.val (.strt (ofL [97 + b]) t2)) (.val (.int o)) v23 v24 v25 v26 v27 v28 v29 v30) (nxt XW law_b6_4 R)
      else pxs XW [] (WL sc nm f se th v5 v6 v7 v8 (.val (.str abc)) v10 v11 (.val (.str (ofL (tt.map (97 + ·))))) v13 v14 v15 v16 v17 (.val (.int m)) (.val (.int s)) (.val (.strt (ofL [97 + a]) t1)) (.val (.strt (ofL [97 + b]) t2)) (.val (.int o)) v23 v24 v25 v26 v27 v28 v29 v30) (nxt XW law_b6_4 R)) := by
    intro o ho e he
    subst he
    rw [pcmp_neI', ptruth_bool, if_neg (by simp)]
    refine s_nil ?_
    rw [nxt_go]
    unfold law_b6_4
    refine s_asn ?_
    simp only [pe_ite, pt_cmp, pe_meth, pe_neg, pes_cons, pes_nil, pe_var, pe_cst, hid, List.map_cons, List.map_nil, V.hid, List.getElem?_cons_zero, List.getElem?_cons_succ, pcmp_eqI, ptruth_bool]
    by_cases hab : a < b
    · have ho' : e = -1 := by rw [ho]; simp [bint, hab]; omega
      rw [if_pos (by simpa using ho')]
      refine ⟨rfl, pmeth_replace ht12 (by rw [ofL_len, List.length_map]; omega) (by rw [ofL_len]; simp) ?_⟩
      have er : Txt.replace (ofL (tt.map (97 + ·))) (ofL [97 + a]) (ofL [97 + b]) = ofL ((mergeT tt p q).map (97 + ·)) := by
        rw [hmt, if_pos hab, ← swapc_map]
        exact replace_swap _ _ _
      rw [er]
      simp only [List.set_cons_zero, List.set_cons_succ]
      refine s_nil ?_
      exact h _ _ _
    · have ho' : ¬ e = -1 := by rw [ho]; unfold bint; simp [hab]; split <;> omega
      rw [if_neg (by simpa using ho')]
      refine ⟨rfl, pmeth_replace (Ne.symm ht12) (by rw [ofL_len, List.length_map]; omega) (by rw [ofL_len]; simp) ?_⟩
      have er : Txt.replace (ofL (tt.map (97 + ·))) (ofL [97 + b]) (ofL [97 + a]) = ofL ((mergeT tt p q).map (97 + ·)) := by
        rw [hmt, if_neg hab, ← swapc_map]
        exact replace_swap _ _ _
      rw [er]
      simp only [List.set_cons_zero, List.set_cons_succ]
      refine s_nil ?_
      exact h _ _ _
  by_cases hab : a = b
  · rw [if_pos (by simpa using hab)]
    exact go _ rfl 0 (by simp [bint, hab])
  · rw [if_neg (by simpa using hab)]
    refine ⟨rfl, pmeth_index ha ⟨rfl, pmeth_index hb ?_⟩⟩
    rw [pcmp_gtI', ptruth_bool]
    by_cases hba : b < a
    · rw [if_pos (by simpa using hba)]
      exact go _ rfl 1 (by simp [bint, hba]; omega)
    · rw [if_neg (by simpa using hba)]
      exact go _ rfl (-1) (by unfold bint; simp [hba]; omega)

theorem rulT_ok : ∀ (sz : List Int) (m : Int) (tt : List Nat), 1 ≤ m → (∀ s ∈ sz, 1 ≤ s) → (∀ x ∈ tt, x < 16) → (rulT tt.length m sz tt).length = tt.length ∧ ∀ x ∈ rulT tt.length m sz tt, x < 16
  | [], m, tt, _, _, h => by unfold rulT; exact ⟨rfl, h⟩
  | s :: r, m, tt, hm, hs, h => by
    have h1 := hs s (List.mem_cons_self ..)
    have hr := fun x hx => hs x (List.mem_cons_of_mem _ hx)
    unfold rulT
    split
    · have hlen := mergeT_len tt (m - 1).toNat (m + s - 1).toNat
      have := rulT_ok r (m + s) (mergeT tt (m - 1).toNat (m + s - 1).toNat) (by omega) hr (mergeT_lt (by omega) (by omega) h)
      rw [hlen] at this
      exact this
    · exact rulT_ok r (m + s) tt (by omega) hr h

/-- the sizes of one ruler -/
theorem sizes_loop (hn : n ≤ 100) : ∀ (sz : List Int) (m : Int) (tt : List Nat) (v19 v20 v21 v22 : V), tt.length = n → 1 ≤ m → (∀ s ∈ sz, 1 ≤ s) → (∀ x ∈ tt, x < 16) →
    (∀ v18 v19 v20 v21 v22, R (.go (WL sc nm f se th v5 v6 v7 (.val (nI n)) (.val (.str abc)) v10 v11 (.val (.str (ofL ((rulT n m sz tt).map (97 + ·))))) v13 v14 v15 v16 v17 v18 v19 v20 v21 v22 v23 v24 v25 v26 v27 v28 v29 v30))) →
    pfor (fun W R => pxs XW law_b7 W R) 19 (sz.map D.int) (WL sc nm f se th v5 v6 v7 (.val (nI n)) (.val (.str abc)) v10 v11 (.val (.str (ofL (tt.map (97 + ·))))) v13 v14 v15 v16 v17 (.val (.int m)) v19 v20 v21 v22 v23 v24 v25 v26 v27 v28 v29 v30) R
  | [], m, tt, v19, v20, v21, v22, hl, hm, hs, ht, h => by
    rw [List.map_nil]
    unfold pfor
    unfold rulT at h
    exact h _ _ _ _ _
  | s :: r, m, tt, v19, v20, v21, v22, hl, hm, hs, ht, h => by
    have h1 := hs s (List.mem_cons_self ..)
    have hr := fun x hx => hs x (List.mem_cons_of_mem _ hx)
    rw [List.map_cons]
    unfold pfor
    show pxs XW law_b7 (WL sc nm f se th v5 v6 v7 (.val (nI n)) (.val (.str abc)) v10 v11 (.val (.str (ofL (tt.map (97 + ·))))) v13 v14 v15 v16 v17 (.val (.int m)) (.val (.int s)) v20 v21 v22 v23 v24 v25 v26 v27 v28 v29 v30) _
    unfold law_b7
    refine s_aug (o := .int m) rfl ?_
    simp only [pe_var, vis, List.map_cons, List.map_nil, V.vis, List.getElem?_cons_zero, List.getElem?_cons_succ, pinp_addI]
    refine ⟨trivial, ?_⟩
    simp only [List.set_cons_zero, List.set_cons_succ]
    unfold law_b7_1
    refine s_ite ?_
    simp only [nI, pt_cmp, pe_var, vis, List.map_cons, List.map_nil, V.vis, List.getElem?_cons_zero, List.getElem?_cons_succ, pcmp_leI, ptruth_bool]
    unfold rulT at h
    by_cases hc : m + s ≤ (n : Int)
    · rw [if_pos (by simpa using hc)]
      have hp : (m - 1).toNat < tt.length := by omega
      have hq : (m + s - 1).toNat < tt.length := by omega
      refine tie_step (p := (m - 1).toNat) (q := (m + s - 1).toNat) (by omega) ht hp hq (by omega) (by omega) fun a b c => ?_
      rw [nxt_go]
      refine s_nil ?_
      refine sizes_loop hn r (m + s) (mergeT tt (m - 1).toNat (m + s - 1).toNat) _ _ _ _ (by rw [mergeT_len]; exact hl) (by omega) hr (mergeT_lt hp hq ht) fun v18 v19 v20 v21 v22 => ?_
      have := h v18 v19 v20 v21 v22
      rw [if_pos hc] at this
      exact this
    · rw [if_neg (by simpa using hc)]
      refine s_nil ?_
      rw [nxt_go]
      refine s_nil ?_
      refine sizes_loop hn r (m + s) tt _ _ _ _ hl (by omega) hr ht fun v18 v19 v20 v21 v22 => ?_
      have := h v18 v19 v20 v21 v22
      rw [if_neg hc] at this
      exact this

/-- all rulers -/
theorem rulers_loop (hn : n ≤ 100) : ∀ (rs : List (List Int)) (tt : List Nat) (v17 v18 v19 v20 v21 v22 : V), tt.length = n → (∀ r ∈ rs, r ≠ [] ∧ r.length ≤ 1000 ∧ 1 ≤ r.headD 0 ∧ ∀ s ∈ r.tail, 1 ≤ s) → (∀ x ∈ tt, x < 16) →
    (∀ v17 v18 v19 v20 v21 v22, R (.go (WL sc nm f se th v5 v6 v7 (.val (nI n)) (.val (.str abc)) v10 v11 (.val (.str (ofL ((rs.foldl (fun t r => rulT n (r.headD 0) r.tail t) tt).map (97 + ·))))) v13 v14 v15 v16 v17 v18 v19 v20 v21 v22 v23 v24 v25 v26 v27 v28 v29 v30))) →
    pfor (fun W R => pxs XW law_b8 W R) 17 (rs.map D.of) (WL sc nm f se th v5 v6 v7 (.val (nI n)) (.val (.str abc)) v10 v11 (.val (.str (ofL (tt.map (97 + ·))))) v13 v14 v15 v16 v17 v18 v19 v20 v21 v22 v23 v24 v25 v26 v27 v28 v29 v30) R
  | [], tt, v17, v18, v19, v20, v21, v22, hl, hs, ht, h => by
    rw [List.map_nil]
    unfold pfor
    exact h _ _ _ _ _ _
  | r :: rs, tt, v17, v18, v19, v20, v21, v22, hl, hs, ht, h => by
    obtain ⟨h1, h2, h3, h4⟩ := hs r (List.mem_cons_self ..)
    have hr := fun x hx => hs x (List.mem_cons_of_mem _ hx)
    cases r with
    | nil => exact absurd rfl h1
    | cons m sz =>
      rw [List.map_cons]
      unfold pfor
      show pxs XW law_b8 (WL sc nm f se th v5 v6 v7 (.val (nI n)) (.val (.str abc)) v10 v11 (.val (.str (ofL (tt.map (97 + ·))))) v13 v14 v15 v16 (.val (.list (.int m :: sz.map D.int))) v18 v19 v20 v21 v22 v23 v24 v25 v26 v27 v28 v29 v30) _
      unfold law_b8
      refine s_asn ?_
      simp only [pe_item, pe_var, pe_cst, hid, List.map_cons, List.map_nil, V.hid, List.getElem?_cons_zero, List.getElem?_cons_succ]
      simp only [List.length_cons] at h2
      refine item_list (p := 0) (by rw [List.length_cons, List.length_map]; omega) rfl ?_
      simp only [List.set_cons_zero, List.set_cons_succ]
      unfold law_b8_1
      refine s_for ?_
      simp only [pit_slL, pe_var, pe_cst, hid, List.map_cons, List.map_nil, V.hid, List.getElem?_cons_zero, List.getElem?_cons_succ]
      refine ⟨⟨by decide, by rw [List.length_cons, List.length_map]; omega⟩, ?_⟩
      have e1 : (D.int m :: sz.map D.int).drop (1 : Int).toNat = sz.map D.int := rfl
      rw [e1]
      refine ⟨by rw [List.length_map]; omega, ?_⟩
      refine sizes_loop hn sz m tt _ _ _ _ hl h3 h4 ht fun v18 v19 v20 v21 v22 => ?_
      rw [nxt_go]
      refine s_nil ?_
      have hok := rulT_ok sz m tt h3 h4 ht
      rw [hl] at hok
      exact rulers_loop hn rs (rulT n m sz tt) _ _ _ _ _ _ hok.1 hr hok.2 h

theorem law_20 (hn : n ≤ 100) {rs : List (List Int)} (hl : tt.length = n) (hs : ∀ r ∈ rs, r ≠ [] ∧ r.length ≤ 1000 ∧ 1 ≤ r.headD 0 ∧ ∀ s ∈ r.tail, 1 ≤ s) (hrs : rs.length ≤ 1000) (ht : ∀ x ∈ tt, x < 16)
    (h : ∀ v17 v18 v19 v20 v21 v22, pxs XW ir_law_21 (WL sc nm f se th v5 v6 v7 (.val (nI n)) (.val (.str abc)) v10 v11 (.val (.str (ofL ((rs.foldl (fun t r => rulT n (r.headD 0) r.tail t) tt).map (97 + ·))))) v13 v14 (.val (.list (rs.map D.of))) v16 v17 v18 v19 v20 v21 v22 v23 v24 v25 v26 v27 v28 v29 v30) R) :
    pxs XW ir_law_20 (WL sc nm f se th v5 v6 v7 (.val (nI n)) (.val (.str abc)) v10 v11 (.val (.str (ofL (tt.map (97 + ·))))) v13 v14 (.val (.list (rs.map D.of))) v16 v17 v18 v19 v20 v21 v22 v23 v24 v25 v26 v27 v28 v29 v30) R := by
  unfold ir_law_20
  refine s_for ?_
  simp only [pit_var, hid, List.map_cons, List.map_nil, V.hid, List.getElem?_cons_zero, List.getElem?_cons_succ]
  refine ⟨by rw [List.length_map]; omega, ?_⟩
  refine rulers_loop hn rs tt _ _ _ _ _ _ hl hs ht fun v17 v18 v19 v20 v21 v22 => ?_
  rw [nxt_go]
  exact h _ _ _ _ _ _
end
end Mp
end

section
open PySem PySem.W PyProof.Rows PySem.Calls
set_option maxRecDepth 100000
set_option linter.unusedSimpArgs false
set_option linter.unusedVariables false
set_option linter.unusedSectionVars false
namespace Mp
open PySem.Builtin PySem.Builtin.Str PySem.StrLaws

theorem pcompif_filter {c : D → (Bool → Prop) → Prop} {elt : D → (D → Prop) → Prop} {p : Nat → Bool} {f h : Nat → D} : ∀ {ks : List Nat} {Q : List D → Prop},
    (∀ k ∈ ks, ∀ Qb : Bool → Prop, Qb (p k) → c (h k) Qb) → (∀ k ∈ ks, ∀ Q' : D → Prop, Q' (f k) → elt (h k) Q') → Q ((ks.filter p).map f) → pcompif c elt (ks.map h) Q
  | [], Q, _, _, hq => by unfold pcompif; exact hq
  | k :: ks, Q, hc, he, hq => by
    rw [List.map_cons]
    unfold pcompif
    refine hc k (List.mem_cons_self ..) _ ?_
    have hc' := fun x hx => hc x (List.mem_cons_of_mem _ hx)
    have he' := fun x hx => he x (List.mem_cons_of_mem _ hx)
    cases hp : p k with
    | true =>
      show if true = true then _ else _
      rw [if_pos rfl]
      refine he k (List.mem_cons_self ..) _ ?_
      refine pcompif_filter hc' he' ?_
      rw [List.filter_cons_of_pos hp, List.map_cons] at hq
      exact hq
    | false =>
      show if false = true then _ else _
      rw [if_neg (by decide)]
      refine pcompif_filter hc' he' ?_
      rw [List.filter_cons_of_neg (by rw [hp]; decide)] at hq
      exact hq

theorem ints_shaped (xs : List Int) : SeqAt.shaped (D.list (xs.map D.int)).py = true := by
  obtain ⟨h1, h2, h3, h4⟩ := ints_good xs
  simp [SeqAt.shaped, D.py, PyData.canLay0, PyData.depth, h2, h3]
theorem cmp_eq_nil {l : List Nat} {Q : D → Prop} (h : Q (.bool (decide (l = [])))) : pcmp .Eq (.list (l.map nI)) (.list []) Q := by
  have e : l.map nI = (l.map fun k : Nat => (k : Int)).map D.int := by rw [List.map_map]; rfl
  rw [e]
  obtain ⟨h1, h2, h3, h4⟩ := ints_good (l.map fun k : Nat => (k : Int))
  refine ⟨⟨h1, rfl, ints_shaped _, rfl⟩, ?_⟩
  have e2 : PyData.eqv (D.list ((l.map fun k : Nat => (k : Int)).map D.int)).py (D.list []).py = decide (l = []) := by
    cases l with
    | nil => rfl
    | cons x l => rfl
  rw [e2]
  exact h

section
variable {R : Out → Prop} {sc nm : D} {f se th L S g n : Nat} {v5 v6 v7 v8 v9 v10 v11 v12 v13 v14 v15 v16 v17 v18 v19 v20 v21 v22 v23 v24 v25 v26 v27 v28 v29 v30 : V} {tt : List Nat} {dr : List Nat}

theorem law_21 (hL : L = 8 ∨ L = 16) (hS1 : 1 ≤ S) (hS : S < L) (hn : dr.length ≤ L) (hdr : ∀ d ∈ dr, d < 16) (hg : ∀ st, dr.length ≤ st → st < L → (st + S) % L < dr.length)
    (hp : paint dr (strsF L S dr.length (starts L dr.length) []) (List.replicate dr.length []) = tt.map fun v => [97 + v])
    (h : pxs XW ir_law_23 (WL sc nm f se th (.val (nI L)) (.val (nI S)) v7 v8 v9 v10 (.val (.list (dr.map nI))) (.val (.str (ofL (tt.map (97 + ·))))) v13 v14 v15 v16 v17 v18 v19 v20 v21 v22 (.val (.str (ofL (tt.map (97 + ·))))) v24 v25 v26 v27 v28 v29 v30) R) :
    pxs XW ir_law_21 (WL sc nm f se th (.val (nI L)) (.val (nI S)) v7 v8 v9 v10 (.val (.list (dr.map nI))) (.val (.str (ofL (tt.map (97 + ·))))) v13 v14 v15 v16 v17 v18 v19 v20 v21 v22 v23 v24 v25 v26 v27 v28 v29 v30) R := by
  unfold ir_law_21
  refine s_asn ?_
  simp only [pe_fn, pes_cons, pes_nil, pe_var, hid, List.map_cons, List.map_nil, V.hid, List.getElem?_cons_zero, List.getElem?_cons_succ, XW_fn4]
  refine ⟨dr, L, S, tt, rfl, hL, hS1, hS, hn, hdr, hg, hp, ?_⟩
  simp only [List.set_cons_zero, List.set_cons_succ]
  unfold ir_law_22
  refine s_ite ?_
  simp only [pt_cmp, pe_var, vis, List.map_cons, List.map_nil, V.vis, List.getElem?_cons_zero, List.getElem?_cons_succ]
  have e : ∀ (x : Str) (Q : D → Prop), pcmp .NotEq (.str x) (.str x) Q = Q (.bool false) := fun x Q => by
    rw [cmp_ne_text (x := x) (y := x) rfl rfl]; simp
  rw [e, ptruth_bool, if_neg (by decide)]
  refine s_nil ?_
  rw [nxt_go]
  exact h

/-- the gcd -/
theorem gcd_loop : ∀ (b a : Nat), a ≤ 100000 → b ≤ 100000 → (R (.go (WL sc nm f se th v5 v6 v7 v8 v9 v10 v11 v12 v13 v14 v15 v16 v17 v18 v19 v20 v21 v22 v23 (.val (nI (Nat.gcd a b))) (.val (nI 0)) v26 v27 v28 v29 v30))) →
    ∃ k, pwhl (fun W R => pt XW.G (.cmp .Gt (.var 25) (.cst (.int 0))) (vis W) R) (fun W R => pxs XW law_b10 W R) k (WL sc nm f se th v5 v6 v7 v8 v9 v10 v11 v12 v13 v14 v15 v16 v17 v18 v19 v20 v21 v22 v23 (.val (nI a)) (.val (nI b)) v26 v27 v28 v29 v30) R := by
  intro b
  induction b using Nat.strongRecOn with
  | _ b ih =>
    intro a ha hb h
    by_cases h0 : b = 0
    · subst h0
      refine ⟨1, ?_⟩
      unfold pwhl
      simp only [nI, pt_cmp, pe_var, pe_cst, vis, List.map_cons, List.map_nil, V.vis, List.getElem?_cons_zero, List.getElem?_cons_succ, pcmp_gtI', ptruth_bool]
      rw [if_neg (by simp)]
      rw [Nat.gcd_zero_right] at h
      exact h
    · have hlt : a % b < b := Nat.mod_lt _ (by omega)
      obtain ⟨k, hk⟩ := ih (a % b) hlt b hb (by omega) (by
        have e : Nat.gcd a b = Nat.gcd b (a % b) := by rw [Nat.gcd_comm, Nat.gcd_rec, Nat.gcd_comm]
        rw [← e]; exact h)
      refine ⟨k + 1, ?_⟩
      unfold pwhl
      simp only [nI, pt_cmp, pe_var, pe_cst, vis, List.map_cons, List.map_nil, V.vis, List.getElem?_cons_zero, List.getElem?_cons_succ, pcmp_gtI', ptruth_bool]
      rw [if_pos (by simp; omega)]
      unfold law_b10
      refine s_swp ?_
      simp only [nI, pes_cons, pes_nil, pe_bin, pe_var, hid, List.map_cons, List.map_nil, V.hid, List.getElem?_cons_zero, List.getElem?_cons_succ, pbin_modI]
      refine ⟨by omega, ?_⟩
      rw [fmodN]
      refine s_nil ?_
      exact hk

theorem law_23 (hL : L ≤ 16) (hS : S < L) (h : pxs XW ir_law_25 (WL sc nm f se th (.val (nI L)) (.val (nI S)) v7 v8 v9 v10 v11 v12 v13 v14 v15 v16 v17 v18 v19 v20 v21 v22 v23 (.val (nI (Nat.gcd S L))) (.val (nI 0)) v26 v27 v28 v29 v30) R) :
    pxs XW ir_law_23 (WL sc nm f se th (.val (nI L)) (.val (nI S)) v7 v8 v9 v10 v11 v12 v13 v14 v15 v16 v17 v18 v19 v20 v21 v22 v23 v24 v25 v26 v27 v28 v29 v30) R := by
  unfold ir_law_23
  refine s_swp ?_
  simp only [nI, pes_cons, pes_nil, pe_var, hid, List.map_cons, List.map_nil, V.hid, List.getElem?_cons_zero, List.getElem?_cons_succ]
  show pxs XW ir_law_24 (WL sc nm f se th (.val (nI L)) (.val (nI S)) v7 v8 v9 v10 v11 v12 v13 v14 v15 v16 v17 v18 v19 v20 v21 v22 v23 (.val (nI S)) (.val (nI L)) v26 v27 v28 v29 v30) R
  unfold ir_law_24
  obtain ⟨k, hk⟩ := gcd_loop (R := nxt XW ir_law_25 R) (sc := sc) (nm := nm) (f := f) (se := se) (th := th) (v5 := .val (nI L)) (v6 := .val (nI S)) (v7 := v7) (v8 := v8) (v9 := v9) (v10 := v10) (v11 := v11) (v12 := v12) (v13 := v13) (v14 := v14) (v15 := v15) (v16 := v16) (v17 := v17) (v18 := v18) (v19 := v19) (v20 := v20) (v21 := v21) (v22 := v22) (v23 := v23) (v26 := v26) (v27 := v27) (v28 := v28) (v29 := v29) (v30 := v30) L S (by omega) (by omega) h
  exact s_whl k hk
end
end Mp
end

section
open PySem PySem.W PyProof.Rows PySem.Calls
set_option maxRecDepth 100000
set_option linter.unusedSimpArgs false
set_option linter.unusedVariables false
set_option linter.unusedSectionVars false
namespace Mp
open PySem.Builtin PySem.Builtin.Str PySem.StrLaws


theorem chars_ofL (l : List Nat) : chars (ofL l) = l.map fun c => .str (ofL [c]) := by
  unfold chars; rw [ofL_cps]
theorem stake_abc {L : Nat} (hL : L = 8 ∨ L = 16) : stake abc L = ofL ((List.range L).map (97 + ·)) := by
  rcases hL with rfl | rfl <;> decide +kernel
theorem abc_len : abc.length = 16 := by decide +kernel
noncomputable def foundF (L : Nat) (tt : List Nat) : List Nat := (List.range L).filter fun k => decide (97 + k ∈ tt.map (97 + ·))

theorem hits : ∀ (F : List Nat) (v : Nat), v ∈ F → (pys (F.map fun k => D.str (ofL [97 + k]))).any (datHitsStr (ofL [97 + v])) = true
  | k :: F, v, h => by
    rw [List.map_cons]
    unfold pys
    rw [List.any_cons, Bool.or_eq_true]
    rcases List.mem_cons.mp h with rfl | h
    · left
      show (ofL [97 + v] == ofL [97 + v]) = true
      exact beq_self_eq_true _
    · exact .inr (hits F v h)

section
variable {R : Out → Prop} {sc nm : D} {f se th L S g n : Nat} {v5 v6 v7 v8 v9 v10 v11 v12 v13 v14 v15 v16 v17 v18 v19 v20 v21 v22 v23 v24 v25 v26 v27 v28 v29 v30 : V} {tt : List Nat}

theorem law_25 (hL : L = 8 ∨ L = 16) (hl : tt.length ≤ 100)
    (h : pxs XW ir_law_26 (WL sc nm f se th (.val (nI L)) v6 v7 v8 (.val (.str abc)) v10 v11 (.val (.str (ofL (tt.map (97 + ·))))) v13 v14 v15 v16 v17 v18 v19 v20 v21 v22 v23 v24 v25 (.val (.list ((foundF L tt).map fun k => .str (ofL [97 + k])))) v27 v28 v29 v30) R) :
    pxs XW ir_law_25 (WL sc nm f se th (.val (nI L)) v6 v7 v8 (.val (.str abc)) v10 v11 (.val (.str (ofL (tt.map (97 + ·))))) v13 v14 v15 v16 v17 v18 v19 v20 v21 v22 v23 v24 v25 v26 v27 v28 v29 v30) R := by
  have hL16 : L ≤ 16 := by rcases hL with rfl | rfl <;> decide
  unfold ir_law_25
  refine s_asn ?_
  simp only [nI, pe_compif, pit_slU, pe_var, hid, List.map_cons, List.map_nil, V.hid, List.getElem?_cons_zero, List.getElem?_cons_succ]
  refine ⟨⟨by omega, by rw [abc_len]; omega, by rw [abc_len]; decide⟩, ?_⟩
  rw [Int.toNat_natCast, stake_abc hL]
  refine ⟨by rw [ofL_len]; simp; omega, ?_⟩
  rw [chars_ofL, List.map_map]
  refine pcompif_filter (p := fun k => decide (97 + k ∈ tt.map (97 + ·))) (f := fun k => .str (ofL [97 + k])) (h := (fun c => D.str (ofL [c])) ∘ fun x => 97 + x) (fun k hk Qb hq => ?_) (fun k hk Q' hq => ?_) ?_
  · have hk16 : k < 16 := by have := List.mem_range.mp hk; omega
    simp only [Function.comp, inner, List.map_cons, List.map_nil, List.getD_cons_succ, List.getD_cons_zero, pt_cmp, pe_fn, pe_bin, pes_cons, pes_nil, pe_var, pe_cst, List.getElem?_cons_zero, List.getElem?_cons_succ, XW_fn5, pbin_text, dots, ofL_add]
    refine ⟨by rw [ofL_len, ofL_len]; simp, ?_⟩
    refine ⟨by rw [ofL_len, ofL_len]; simp, ?_⟩
    refine ⟨[46, 46, 46] ++ [97 + k] ++ [46, 46, 46], tt.map (97 + ·), rfl, by simp; omega, by simp, .inr ⟨k, hk16, rfl, ?_⟩⟩
    show pcmp .Is (.bool (decide (97 + k ∈ tt.map (97 + ·)))) (.bool true) (fun d => ptruth d Qb)
    rw [pcmp_isB, ptruth_bool]
    have e : (decide (97 + k ∈ tt.map (97 + ·)) == true) = decide (97 + k ∈ tt.map (97 + ·)) := by simp
    rw [e]
    exact hq
  · simp only [Function.comp, inner, List.map_cons, List.map_nil, pe_var, List.getElem?_cons_zero]
    exact hq
  · simp only [List.set_cons_zero, List.set_cons_succ]
    exact h

theorem law_26 (hl : tt.length ≤ 100) (hF : ∀ v ∈ tt, v ∈ foundF L tt) (hFl : (foundF L tt).length ≤ 100) {p : Nat} (hmax : (foundF L tt).length = max g p)
    (h : pxs XW ir_law_27 (WL sc nm f se th v5 v6 (.val (nI g)) v8 v9 v10 v11 v12 v13 v14 v15 v16 v17 v18 v19 v20 v21 v22 (.val (.str (ofL (tt.map (97 + ·))))) (.val (nI p)) v25 (.val (.list ((foundF L tt).map fun k => .str (ofL [97 + k])))) v27 v28 v29 v30) R) :
    pxs XW ir_law_26 (WL sc nm f se th v5 v6 (.val (nI g)) v8 v9 v10 v11 v12 v13 v14 v15 v16 v17 v18 v19 v20 v21 v22 (.val (.str (ofL (tt.map (97 + ·))))) (.val (nI p)) v25 (.val (.list ((foundF L tt).map fun k => .str (ofL [97 + k])))) v27 v28 v29 v30) R := by
  unfold ir_law_26
  refine s_ite ?_
  simp only [nI, pt_or, pt_one, pt_cmp, pe_compif, pit_var, pe_lst, pes_nil, pe_var, vis, List.map_cons, List.map_nil, V.vis, List.getElem?_cons_zero, List.getElem?_cons_succ]
  refine ⟨by rw [ofL_len, List.length_map]; omega, ?_⟩
  rw [chars_ofL, List.map_map]
  refine pcompif_filter (p := fun _ => false) (f := fun v => .str (ofL [97 + v])) (h := (fun c => D.str (ofL [c])) ∘ fun x => 97 + x) (fun v hv Qb hq => ?_) (fun v hv Q' hq => ?_) ?_
  · simp only [Function.comp, inner, List.map_cons, List.map_nil, List.getD_cons_succ, List.getD_cons_zero, pe_var, List.getElem?_cons_zero, List.getElem?_cons_succ]
    refine ⟨?_, ?_⟩
    · rw [List.all_map]
      exact List.all_eq_true.mpr fun _ _ => rfl
    · rw [hits _ v (hF v hv)]
      exact hq
  · simp only [Function.comp, inner, List.map_cons, List.map_nil, pe_var, List.getElem?_cons_zero]
    exact hq
  · rw [show tt.filter (fun _ => false) = [] by simp, List.map_nil]
    refine cmp_ne_ints (xs := []) ?_
    rw [ptruth_bool, if_neg (by decide)]
    simp only [pe_bi, pes_cons, pes_nil, pe_var, List.getElem?_cons_zero, List.getElem?_cons_succ, XW_bi0, XW_bi2, pbi_len, pbi_max2, pcmp_neI', ptruth_bool]
    refine ⟨by rw [List.length_map]; omega, ?_⟩
    rw [List.length_map, hmax]
    have e : ((max g p : Nat) : Int) = (if (p : Int) > (g : Int) then (p : Int) else (g : Int)) := by split <;> omega
    rw [← e, if_neg (by simp)]
    refine s_nil ?_
    rw [nxt_go]
    exact h
end
end Mp
end

section
open PySem PySem.W PyProof.Rows PySem.Calls
set_option maxRecDepth 100000
set_option linter.unusedSimpArgs false
set_option linter.unusedVariables false
set_option linter.unusedSectionVars false
namespace Mp
open PySem.Builtin PySem.Builtin.Str PySem.StrLaws

theorem map97 {l l' : List Nat} : l.map (97 + ·) = l'.map (97 + ·) ↔ l = l' := by
  constructor
  · intro h
    have := congrArg (List.map fun x => x - 97) h
    rw [List.map_map, List.map_map] at this
    have e : ((fun x => x - 97) ∘ fun x => 97 + x) = fun x : Nat => x := by funext x; simp
    rw [e, List.map_id', List.map_id'] at this
    exact this
  · rintro rfl; rfl
theorem no_dot (l : List Nat) : 46 ∉ l.map (97 + ·) := by
  intro h
  obtain ⟨x, _, e⟩ := List.mem_map.mp h
  omega
noncomputable def alB (tt : List Nat) (a : Nat) : Bool := decide (tt.take (tt.length - a) = tt.drop a)

theorem beq97 (l l' : List Nat) : (l.map (97 + ·) == l'.map (97 + ·)) = decide (l = l') := by
  rw [Bool.eq_iff_iff, beq_iff_eq, decide_eq_true_eq, map97]

section
variable {tt : List Nat} {a : Nat}
theorem ell_a (ha : a ≤ tt.length) : ellF ((tt.drop a).map (97 + ·)) [] (tt.map (97 + ·)) = alB tt a := by
  unfold ellF alB
  simp only [List.length_map, List.length_drop, List.length_nil, Nat.sub_zero, Nat.add_zero]
  rw [← List.map_take, beq97, show decide (tt.length - a ≤ tt.length) = true by simp]
  simp
theorem ell_b (ha : a ≤ tt.length) : ellF [] ((tt.take (tt.length - a)).map (97 + ·)) (tt.map (97 + ·)) = alB tt a := by
  unfold ellF alB
  simp only [List.length_map, List.length_take, List.length_nil, Nat.zero_add]
  rw [show min (tt.length - a) tt.length = tt.length - a by omega, show tt.length - (tt.length - a) = a by omega, ← List.map_drop, beq97]
  simp only [List.take_zero]
  rw [show decide (tt.length - a ≤ tt.length) = true by simp]
  simp only [Nat.zero_le, decide_true, Bool.true_and, Bool.and_true]
  have : (([] : List Nat) == []) = true := rfl
  rw [this, Bool.true_and]
  by_cases h : tt.take (tt.length - a) = tt.drop a
  · rw [h]
  · rw [decide_eq_false h, decide_eq_false (fun e => h e.symm)]
theorem ell_c (ha : a ≤ tt.length) : ellF ((tt.drop a).map (97 + ·)) ((tt.drop a).map (97 + ·)) (tt.map (97 + ·)) = (alB tt a && decide (tt.length ≤ 2 * a)) := by
  unfold ellF alB
  simp only [List.length_map, List.length_drop]
  rw [← List.map_take, beq97, show tt.length - (tt.length - a) = a by omega, ← List.map_drop, beq97, show decide (tt.length - a ≤ tt.length) = true by simp]
  simp only [decide_true, Bool.and_true, Bool.true_and]
  rw [show decide (tt.length - a + (tt.length - a) ≤ tt.length) = decide (tt.length ≤ 2 * a) by
    by_cases h : tt.length ≤ 2 * a
    · rw [decide_eq_true h, decide_eq_true (by omega)]
    · rw [decide_eq_false h, decide_eq_false (by omega)]]
theorem al_iff (ha : a ≤ tt.length) : alB tt a = true ↔ ∀ p, a ≤ p → p < tt.length → tt.getD p 0 = tt.getD (p - a) 0 := by
  unfold alB
  rw [decide_eq_true_eq]
  constructor
  · intro h p h1 h2
    have e := congrArg (fun l : List Nat => l.getD (p - a) 0) h
    simp only [List.getD_eq_getElem?_getD, List.getElem?_drop] at e
    rw [List.getElem?_take_of_lt (by omega), show a + (p - a) = p by omega] at e
    rw [List.getD_eq_getElem?_getD, List.getD_eq_getElem?_getD, e]
  · intro h
    apply List.ext_getElem?
    intro i
    by_cases hi : i < tt.length - a
    · rw [List.getElem?_take_of_lt hi, List.getElem?_drop]
      have := h (a + i) (by omega) (by omega)
      rw [show a + i - a = i by omega, List.getD_eq_getElem?_getD, List.getD_eq_getElem?_getD, List.getElem?_eq_getElem (by omega), List.getElem?_eq_getElem (by omega)] at this
      rw [List.getElem?_eq_getElem (by omega : i < tt.length), List.getElem?_eq_getElem (by omega : a + i < tt.length)]
      simpa using this.symm
    · rw [List.getElem?_eq_none (by simp; omega), List.getElem?_eq_none (by simp; omega)]
theorem al_filter (ha : a ≤ tt.length) : decide ((List.range' a (tt.length - a)).filter (fun p => !decide (tt.getD p 0 = tt.getD (p - a) 0)) = []) = alB tt a := by
  rw [Bool.eq_iff_iff, decide_eq_true_eq, al_iff ha, List.filter_eq_nil_iff]
  constructor
  · intro h p h1 h2
    have := h p (by rw [List.mem_range'_1]; omega)
    simpa using this
  · intro h p hp
    rw [List.mem_range'_1] at hp
    have := h p (by omega) (by omega)
    simpa using this
end

theorem sdrop_ofL (l : List Nat) (k : Nat) : sdrop (ofL l) k = ofL (l.drop k) := by unfold sdrop; rw [ofL_cps]
theorem stake_ofL (l : List Nat) (k : Nat) : stake (ofL l) k = ofL (l.take k) := by unfold stake; rw [ofL_cps]

noncomputable def asked (w : List Nat) (b : Bool) : D := .list [.str (ofL w), .bool b]
/-- one of the questions -/
theorem ask_one {tt : List Nat} {m : Vs} {w : List Nat} {b : Bool} (hm : m[12]? = some (some (.str (ofL (tt.map (97 + ·)))))) (hl : tt.length ≤ 100) (hw : w.length ≤ 1000)
    (h : ∃ x y, w = x ++ [46, 46, 46] ++ y ∧ 46 ∉ x ∧ 46 ∉ y ∧ (x ≠ [] ∨ y ≠ []) ∧ ellF x y (tt.map (97 + ·)) = b) {Qb : Bool → Prop} (hq : Qb false) :
    pt XW.G (.cmp .IsNot (.fn 5 [.item (.var 0) (.cst (.int 0)), .var 1]) (.item (.var 0) (.cst (.int 1)))) (inner m [12] (asked w b)) Qb := by
  obtain ⟨x, y, hxy, hx, hy, hne, hb⟩ := h
  have hm' : m.getD 12 none = some (.str (ofL (tt.map (97 + ·)))) := by rw [List.getD_eq_getElem?_getD, hm]; rfl
  simp only [inner, List.map_cons, List.map_nil, pt_cmp, pe_fn, pe_item, pes_cons, pes_nil, pe_var, pe_cst, List.getElem?_cons_zero, List.getElem?_cons_succ, hm', XW_fn5]
  refine item_list (p := 0) (d := .str (ofL w)) (by simp) rfl ?_
  refine ⟨w, tt.map (97 + ·), rfl, by simp; omega, by omega, .inl ⟨x, y, hxy, hx, hy, hne, ?_⟩⟩
  refine item_list (p := 1) (d := .bool b) (by simp) rfl ?_
  rw [hb, pcmp_isnotB, ptruth_bool]
  simpa using hq

section
variable {R : Out → Prop} {sc nm : D} {f se th L S g n : Nat} {v5 v6 v7 v8 v9 v10 v11 v12 v13 v14 v15 v16 v17 v18 v19 v20 v21 v22 v23 v24 v25 v26 v27 v28 v29 v30 : V} {tt : List Nat}

theorem apart_turn {a p : Nat} (hl : tt.length = n) (hn : n ≤ 100) (ha : 1 ≤ a) (han : a < n) (hp0 : 1 ≤ p) (hp : p ≤ 1000) (hal : g ≤ p → decide (a % p = 0) = alB tt a)
    (h : ∀ v28 v29 v30, R (.go (WL sc nm f se th v5 v6 (.val (nI g)) (.val (nI n)) v9 v10 v11 (.val (.str (ofL (tt.map (97 + ·))))) v13 v14 v15 v16 v17 v18 v19 v20 v21 v22 (.val (.str (ofL (tt.map (97 + ·))))) (.val (nI p)) v25 v26 (.val (nI a)) v28 v29 v30))) :
    pxs XW law_b13 (WL sc nm f se th v5 v6 (.val (nI g)) (.val (nI n)) v9 v10 v11 (.val (.str (ofL (tt.map (97 + ·))))) v13 v14 v15 v16 v17 v18 v19 v20 v21 v22 (.val (.str (ofL (tt.map (97 + ·))))) (.val (nI p)) v25 v26 (.val (nI a)) v28 v29 v30) R := by
  have han' : a ≤ tt.length := by omega
  -- the rest, once alike is known
  have rest : pxs XW law_b13_1 (WL sc nm f se th v5 v6 (.val (nI g)) (.val (nI n)) v9 v10 v11 (.val (.str (ofL (tt.map (97 + ·))))) v13 v14 v15 v16 v17 v18 v19 v20 v21 v22 (.val (.str (ofL (tt.map (97 + ·))))) (.val (nI p)) v25 v26 (.val (nI a)) (.val (.bool (alB tt a))) v29 v30) R := by
    unfold law_b13_1
    refine s_asn ?_
    simp only [nI, pe_slL, pe_var, hid, List.map_cons, List.map_nil, V.hid, List.getElem?_cons_zero, List.getElem?_cons_succ]
    refine ⟨⟨by omega, by rw [ofL_len, List.length_map]; omega, by rw [ofL_len, List.length_map]; omega⟩, ?_⟩
    rw [Int.toNat_natCast, sdrop_ofL, ← List.map_drop]
    simp only [List.set_cons_zero, List.set_cons_succ]
    unfold law_b13_2
    refine s_asn ?_
    simp only [nI, pe_lst, pe_bin, pe_slU, pe_and, pe_one, pe_cmp, pes_cons, pes_nil, pe_var, pe_cst, hid, List.map_cons, List.map_nil, V.hid, List.getElem?_cons_zero, List.getElem?_cons_succ, pbin_text, pbin_subI, dots, ofL_add, pbin_mulI', pcmp_geI, ptruth_bool]
    refine ⟨by rw [ofL_len, ofL_len]; simp; omega, ?_⟩
    refine ⟨⟨by omega, by rw [ofL_len, List.length_map]; omega, by rw [ofL_len, List.length_map]; omega⟩, ?_⟩
    rw [show ((n : Int) - (a : Int)).toNat = tt.length - a by omega, stake_ofL, ← List.map_take]
    refine ⟨by rw [ofL_len, ofL_len]; simp; omega, ?_⟩
    rw [ofL_add]
    refine ⟨by rw [ofL_len, ofL_len]; simp; omega, ?_⟩
    refine ⟨by rw [ofL_len, ofL_len]; simp; omega, ?_⟩
    have fin : ∀ b3 : Bool, b3 = (alB tt a && decide (tt.length ≤ 2 * a)) →
        pxs XW law_b13_3 (WL sc nm f se th v5 v6 (.val (nI g)) (.val (nI n)) v9 v10 v11 (.val (.str (ofL (tt.map (97 + ·))))) v13 v14 v15 v16 v17 v18 v19 v20 v21 v22 (.val (.str (ofL (tt.map (97 + ·))))) (.val (nI p)) v25 v26 (.val (nI a)) (.val (.bool (alB tt a))) (.val (.str (ofL ((tt.drop a).map (97 + ·)))))
          (.val (.list [asked ((tt.drop a).map (97 + ·) ++ [46, 46, 46]) (alB tt a), asked ([46, 46, 46] ++ (tt.take (tt.length - a)).map (97 + ·)) (alB tt a), asked ((tt.drop a).map (97 + ·) ++ [46, 46, 46] ++ (tt.drop a).map (97 + ·)) b3]))) R := by
      intro b3 hb3
      have hd0 : (tt.drop a).map (97 + ·) ≠ [] := by
        intro e
        have := congrArg List.length e
        simp at this; omega
      have ht0 : (tt.take (tt.length - a)).map (97 + ·) ≠ [] := by
        intro e
        have := congrArg List.length e
        simp at this; omega
      unfold law_b13_3
      refine s_ite ?_
      simp only [pt_cmp, pe_compif, pit_var, pe_lst, pes_nil, vis, List.map_cons, List.map_nil, V.vis, List.getElem?_cons_zero, List.getElem?_cons_succ]
      refine ⟨by simp, ?_⟩
      unfold pcompif
      refine ask_one (tt := tt) rfl (by omega) (by simp; omega) ⟨(tt.drop a).map (97 + ·), [], by simp, no_dot _, by simp, .inl hd0, ell_a han'⟩ ?_
      rw [if_neg (by decide)]
      unfold pcompif
      refine ask_one (tt := tt) rfl (by omega) (by simp; omega) ⟨[], (tt.take (tt.length - a)).map (97 + ·), by simp, by simp, no_dot _, .inr ht0, ell_b han'⟩ ?_
      rw [if_neg (by decide)]
      unfold pcompif
      refine ask_one (tt := tt) rfl (by omega) (by simp; omega) ⟨(tt.drop a).map (97 + ·), (tt.drop a).map (97 + ·), rfl, no_dot _, no_dot _, .inl hd0, by rw [hb3]; exact ell_c han'⟩ ?_
      rw [if_neg (by decide)]
      unfold pcompif
      refine cmp_ne_ints (xs := []) ?_
      rw [ptruth_bool, if_neg (by decide)]
      refine s_nil ?_
      rw [nxt_go]
      refine s_nil ?_
      exact h _ _ _
    by_cases hb : alB tt a = true
    · rw [if_pos hb]
      refine ⟨by unfold small; decide, ?_⟩
      rw [show decide ((2 : Int) * (a : Int) ≥ (n : Int)) = (alB tt a && decide (tt.length ≤ 2 * a)) by
        rw [hb, Bool.true_and]
        by_cases h2 : tt.length ≤ 2 * a
        · rw [decide_eq_true h2, decide_eq_true (by omega)]
        · rw [decide_eq_false h2, decide_eq_false (by omega)]]
      simp only [List.set_cons_zero, List.set_cons_succ]
      exact fin _ rfl
    · rw [if_neg hb]
      have hb' : alB tt a = false := by simpa using hb
      simp only [List.set_cons_zero, List.set_cons_succ]
      have := fin false (by rw [hb', Bool.false_and])
      rw [hb'] at this ⊢
      exact this
  unfold law_b13
  refine s_asn ?_
  simp only [nI, pe_ite, pt_cmp, pe_cmp, pe_bin, pe_compif, pit_rng, pe_lst, pes_cons, pes_nil, pe_var, pe_cst, hid, List.map_cons, List.map_nil, V.hid, List.getElem?_cons_zero, List.getElem?_cons_succ, pcmp_leI, pbin_modI, pcmp_eqI, ptruth_bool]
  by_cases hgp : g ≤ p
  · rw [if_pos (by simpa using hgp)]
    refine ⟨by omega, ?_⟩
    rw [fmodN, show decide (((a % p : Nat) : Int) = 0) = alB tt a by
      rw [← hal hgp]
      by_cases h2 : a % p = 0
      · rw [decide_eq_true h2, decide_eq_true (by omega)]
      · rw [decide_eq_false h2, decide_eq_false (by omega)]]
    simp only [List.set_cons_zero, List.set_cons_succ]
    exact rest
  · rw [if_neg (by simpa using hgp)]
    refine ⟨⟨smallN (by omega), smallN (by omega), by omega⟩, ?_⟩
    rw [irange_nat]
    refine pcompif_filter (p := fun q => !decide (tt.getD q 0 = tt.getD (q - a) 0)) (f := nI) (h := nI) (fun q hq Qb hqb => ?_) (fun q hq Q' hqq => ?_) ?_
    · rw [List.mem_range'_1] at hq
      simp only [inner, nI, List.map_cons, List.map_nil, List.getD_cons_succ, List.getD_cons_zero, pe_item, pe_bin, pe_var, List.getElem?_cons_zero, List.getElem?_cons_succ, pbin_subI]
      refine item_tied (by omega) (by omega) fun t1 _ _ => ?_
      rw [show (q : Int) - (a : Int) = ((q - a : Nat) : Int) by omega]
      refine item_tied (by omega) (by omega) fun t2 _ _ => ?_
      rw [cmp_ne_text rfl rfl, ptruth_bool, eq_letters]
      exact hqb
    · simp only [inner, nI, List.map_cons, List.map_nil, pe_var, List.getElem?_cons_zero]
      exact hqq
    · refine cmp_eq_nil ?_
      rw [show n - a = tt.length - a by omega, al_filter han']
      simp only [List.set_cons_zero, List.set_cons_succ]
      exact rest
end
end Mp
end

section
open PySem PySem.W PyProof.Rows PySem.Calls
set_option maxRecDepth 100000
set_option linter.unusedSimpArgs false
set_option linter.unusedVariables false
set_option linter.unusedSectionVars false
namespace Mp

section
variable {R : Out → Prop} {sc nm : D} {f se th L S g n : Nat} {v5 v6 v7 v8 v9 v10 v11 v12 v13 v14 v15 v16 v17 v18 v19 v20 v21 v22 v23 v24 v25 v26 v27 v28 v29 v30 : V} {tt : List Nat}

theorem apart_loop {p : Nat} (hl : tt.length = n) (hn : n ≤ 100) (hp0 : 1 ≤ p) (hp : p ≤ 1000) (hal : ∀ a, 1 ≤ a → a < n → g ≤ p → decide (a % p = 0) = alB tt a) : ∀ (k a : Nat) (v27 v28 v29 v30 : V), 1 ≤ a → a + k = n →
    (∀ v27 v28 v29 v30, R (.go (WL sc nm f se th v5 v6 (.val (nI g)) (.val (nI n)) v9 v10 v11 (.val (.str (ofL (tt.map (97 + ·))))) v13 v14 v15 v16 v17 v18 v19 v20 v21 v22 (.val (.str (ofL (tt.map (97 + ·))))) (.val (nI p)) v25 v26 v27 v28 v29 v30))) →
    pfor (fun W R => pxs XW law_b13 W R) 27 ((List.range' a k).map nI) (WL sc nm f se th v5 v6 (.val (nI g)) (.val (nI n)) v9 v10 v11 (.val (.str (ofL (tt.map (97 + ·))))) v13 v14 v15 v16 v17 v18 v19 v20 v21 v22 (.val (.str (ofL (tt.map (97 + ·))))) (.val (nI p)) v25 v26 v27 v28 v29 v30) R
  | 0, a, v27, v28, v29, v30, _, _, h => by
    simp only [List.range'_zero, List.map_nil]
    unfold pfor
    exact h _ _ _ _
  | k + 1, a, v27, v28, v29, v30, h1, h2, h => by
    rw [List.range'_succ, List.map_cons]
    unfold pfor
    show pxs XW law_b13 (WL sc nm f se th v5 v6 (.val (nI g)) (.val (nI n)) v9 v10 v11 (.val (.str (ofL (tt.map (97 + ·))))) v13 v14 v15 v16 v17 v18 v19 v20 v21 v22 (.val (.str (ofL (tt.map (97 + ·))))) (.val (nI p)) v25 v26 (.val (nI a)) v28 v29 v30) _
    refine apart_turn hl hn h1 (by omega) hp0 hp (hal a h1 (by omega)) fun a' b c => ?_
    exact apart_loop hl hn hp0 hp hal k (a + 1) _ _ _ _ (by omega) (by omega) h

theorem law_27 {p : Nat} (hl : tt.length = n) (hn0 : 1 ≤ n) (hn : n ≤ 100) (hp0 : 1 ≤ p) (hp : p ≤ 1000) (hal : ∀ a, 1 ≤ a → a < n → g ≤ p → decide (a % p = 0) = alB tt a) {Q : D → Prop} (h : Q (.bool true)) :
    pxs XW ir_law_27 (WL sc nm f se th v5 v6 (.val (nI g)) (.val (nI n)) v9 v10 v11 (.val (.str (ofL (tt.map (97 + ·))))) v13 v14 v15 v16 v17 v18 v19 v20 v21 v22 (.val (.str (ofL (tt.map (97 + ·))))) (.val (nI p)) v25 v26 v27 v28 v29 v30) (retP Q) := by
  unfold ir_law_27
  refine s_for ?_
  simp only [nI, pit_rng, pes_cons, pes_nil, pe_var, pe_cst, hid, List.map_cons, List.map_nil, V.hid, List.getElem?_cons_zero, List.getElem?_cons_succ]
  refine ⟨⟨by unfold small; decide, smallN (by omega), by omega⟩, ?_⟩
  have e0 : irange 1 (n : Int) = (List.range' 1 (n - 1)).map nI := irange_nat 1 n
  rw [e0]
  refine apart_loop hl hn hp0 hp hal (n - 1) 1 _ _ _ _ (by omega) (by omega) fun a b c d => ?_
  rw [nxt_go]
  unfold ir_law_28
  refine s_ret ?_
  simp only [pe_cst]
  exact h
end

/-! ## the plain facts -/
theorem distinct_mem : ∀ (l : List Nat) (x : Nat), x ∈ distinct l ↔ x ∈ l
  | [], x => Iff.rfl
  | y :: r, x => by
    unfold distinct
    split
    · rename_i h
      rw [distinct_mem r x, List.mem_cons]
      exact ⟨.inr, fun h' => h'.elim (fun e => e ▸ h) fun h' => h'⟩
    · rw [List.mem_cons, List.mem_cons, distinct_mem r x]
theorem distinct_nodup : ∀ l : List Nat, (distinct l).Nodup
  | [] => List.nodup_nil
  | y :: r => by
    unfold distinct
    split
    · exact distinct_nodup r
    · rename_i h
      exact List.nodup_cons.mpr ⟨fun h' => h ((distinct_mem r y).mp h'), distinct_nodup r⟩
theorem distinct_par : ∀ (l m : List Nat), l.length = m.length → (∀ i j, i < l.length → j < l.length → (l.getD i 0 = l.getD j 0 ↔ m.getD i 0 = m.getD j 0)) → (distinct l).length = (distinct m).length
  | [], [], _, _ => rfl
  | [], _ :: _, h, _ => by cases h
  | _ :: _, [], h, _ => by cases h
  | x :: r, y :: s, hl, h => by
    have hl' : r.length = s.length := by simpa using hl
    have ih := distinct_par r s hl' fun i j hi hj => by
      have := h (i + 1) (j + 1) (by simpa using hi) (by simpa using hj)
      simpa using this
    have hx : x ∈ r ↔ y ∈ s := by
      constructor
      · intro hm
        obtain ⟨j, hj, e⟩ := List.mem_iff_getElem.mp hm
        have := (h 0 (j + 1) (by simp) (by simpa using hj)).mp (by simp [List.getElem?_eq_getElem hj, e])
        have hj' : j < s.length := by omega
        simp [List.getElem?_eq_getElem hj'] at this
        rw [this]; exact List.getElem_mem hj'
      · intro hm
        obtain ⟨j, hj, e⟩ := List.mem_iff_getElem.mp hm
        have hj' : j < r.length := by omega
        have := (h 0 (j + 1) (by simp) (by simpa using hj')).mpr (by simp [List.getElem?_eq_getElem hj, e])
        simp [List.getElem?_eq_getElem hj'] at this
        rw [this]; exact List.getElem_mem hj'
    unfold distinct
    by_cases hc : x ∈ r
    · rw [if_pos hc, if_pos (hx.mp hc)]; exact ih
    · rw [if_neg hc, if_neg (fun c => hc (hx.mpr c)), List.length_cons, List.length_cons, ih]

theorem odd8 : ∀ e, e < 16 → ∀ k, k < 8 → (k * (2 * e + 3)) % 8 = 0 → k = 0 := by decide +kernel
theorem odd16 : ∀ e, e < 16 → ∀ k, k < 16 → (k * (2 * e + 3)) % 16 = 0 → k = 0 := by decide +kernel
theorem odd_no {L e k : Nat} (hL : L = 8 ∨ L = 16) (he : e < 16) (hk : k < L) (h : (k * (2 * e + 3)) % L = 0) : k = 0 := by
  rcases hL with rfl | rfl
  · exact odd8 e he k hk h
  · exact odd16 e he k hk h
theorem draw_get {t L n i : Nat} (hi : i < n) : (drawF t L n).getD i 0 = (t / 16 + i * (2 * (t % 16) + 3)) % L := by
  unfold drawF
  rw [List.getD_eq_getElem?_getD, List.getElem?_map, List.getElem?_range hi]; rfl
theorem draw_len {t L n : Nat} : (drawF t L n).length = n := by simp [drawF]
theorem draw_inj {t L n : Nat} (hL : L = 8 ∨ L = 16) (hn : n ≤ L) : Inj (drawF t L n) := by
  have key : ∀ i j, i ≤ j → j < n → (t / 16 + i * (2 * (t % 16) + 3)) % L = (t / 16 + j * (2 * (t % 16) + 3)) % L → i = j := by
    intro i j hij hj h
    have h1 := Nat.sub_mod_eq_zero_of_mod_eq h.symm
    have e : t / 16 + j * (2 * (t % 16) + 3) - (t / 16 + i * (2 * (t % 16) + 3)) = (j - i) * (2 * (t % 16) + 3) := by
      rw [Nat.sub_mul]; omega
    rw [e] at h1
    have := odd_no hL (Nat.mod_lt t (by decide)) (by omega) h1
    omega
  intro p q hp hq h
  rw [draw_len] at hp hq
  rw [draw_get hp, draw_get hq] at h
  rcases Nat.le_total p q with hle | hle
  · exact key p q hle hq h
  · exact (key q p hle hp h.symm).symm
theorem draw_lt {t L n : Nat} (hL : 1 ≤ L) : ∀ d ∈ drawF t L n, d < L := by
  intro d hd
  unfold drawF at hd
  obtain ⟨i, _, rfl⟩ := List.mem_map.mp hd
  exact Nat.mod_lt _ (by omega)

section
variable {L S n : Nat} {dr t : List Nat}
theorem t_lt (h : Inv dr (clsF L S n) t) (hdr : ∀ d ∈ dr, d < L) : ∀ v ∈ t, v < L := by
  intro v hv
  obtain ⟨p, hp, e⟩ := List.mem_iff_getElem.mp hv
  obtain ⟨⟨q, q1, _, q3⟩, _⟩ := h.mx p (by rw [← h.lt]; exact hp)
  rw [List.getD_eq_getElem?_getD, List.getElem?_eq_getElem hp] at q3
  have : v = dr.getD q 0 := by rw [← e]; exact q3
  rw [this]
  exact hdr _ (getD_mem q1)
theorem found_mem : ∀ v, v ∈ foundF L t ↔ v < L ∧ v ∈ t := by
  intro v
  unfold foundF
  rw [List.mem_filter, List.mem_range, decide_eq_true_eq, List.mem_map]
  constructor
  · rintro ⟨h1, x, hx, e⟩
    have : x = v := by omega
    subst this; exact ⟨h1, hx⟩
  · rintro ⟨h1, h2⟩
    exact ⟨h1, v, h2, rfl⟩
theorem found_len (h : Inv dr (clsF L S n) t) (hi : Inj dr) (hdr : ∀ d ∈ dr, d < L) : (foundF L t).length = (distinct (clsF L S n)).length := by
  have h1 : (foundF L t).Perm (distinct t) := by
    refine (List.perm_ext_iff_of_nodup ?_ (distinct_nodup t)).mpr fun a => ?_
    · exact List.Nodup.sublist List.filter_sublist List.nodup_range
    · rw [found_mem, distinct_mem]
      exact ⟨fun x => x.2, fun x => ⟨t_lt h hdr a x, x⟩⟩
  rw [h1.length_eq]
  refine distinct_par _ _ (by rw [h.lt, h.lc]) fun i j hi' hj' => ?_
  rw [h.lt] at hi' hj'
  exact h.same hi hi' hj'
theorem alike_of (h : Inv dr (clsF L S n) t) (hi : Inj dr) (hn : dr.length = n) (hf : fact6 L S n = true) {a : Nat} (h1 : 1 ≤ a) (h2 : a < n) (hg : L - n ≤ Nat.gcd S L) : decide (a % Nat.gcd S L = 0) = alB t a := by
  unfold fact6 at hf
  rw [decide_eq_true hg, Bool.not_true, Bool.false_or] at hf
  have := List.all_eq_true.mp hf a (List.mem_range.mpr h2)
  rw [show (a == 0) = false by simp; omega, Bool.false_or, beq_iff_eq] at this
  rw [← this, Bool.eq_iff_iff, List.all_eq_true, al_iff (by rw [h.lt]; omega)]
  constructor
  · intro hh p hp1 hp2
    rw [h.lt] at hp2
    have := hh p (List.mem_range.mpr (by omega))
    rw [Bool.or_eq_true, decide_eq_true_eq, beq_iff_eq] at this
    exact (h.same hi hp2 (by omega)).mpr (this.resolve_left (by omega))
  · intro hh p hp
    have hp := List.mem_range.mp hp
    rw [Bool.or_eq_true, decide_eq_true_eq, beq_iff_eq]
    by_cases hpa : p < a
    · exact .inl hpa
    · right
      exact (h.same hi (by omega) (by omega)).mp (hh p (by omega) (by rw [h.lt]; omega))
theorem paint_of (h : Inv dr (clsF L S n) t) (hn : dr.length = n) (hL : 1 ≤ L) (hf3 : fact3 L S n = true) (hf4 : fact4 L S n = true) :
    paint dr (strsF L S dr.length (starts L dr.length) []) (List.replicate dr.length []) = t.map fun v => [97 + v] := by
  rw [hn] 
  have key : ∀ (sts w : List Nat), ∀ s ∈ strsF L S n sts w, ∀ p ∈ s, p < n := by
    intro sts
    induction sts with
    | nil => intro w s hs; cases hs
    | cons st sts ih =>
      intro w s hs
      unfold strsF at hs
      split at hs
      · exact ih w s hs
      · rcases List.mem_cons.mp hs with rfl | hs
        · exact str_lt
        · exact ih _ s hs
  have := paint_all h (ss := strsF L S n (starts L n) []) (fun s hs p hp => ?_) (fun p hp => ?_)
  · rw [hn] at this; exact this
  · refine ⟨by rw [hn]; exact key _ _ s hs p hp, fun q hq => ?_⟩
    have h1 := List.all_eq_true.mp (List.all_eq_true.mp (List.all_eq_true.mp hf3 s hs) p hp) q (List.mem_range.mpr (by omega))
    rw [beq_iff_eq] at h1
    constructor
    · intro e
      rw [decide_eq_true e] at h1
      exact of_decide_eq_true h1.symm
    · intro e
      rw [decide_eq_true e] at h1
      exact of_decide_eq_true h1
  · have h1 := List.all_eq_true.mp hf4 p (List.mem_range.mpr (by omega))
    obtain ⟨s, hs, hp'⟩ := List.any_eq_true.mp h1
    exact ⟨s, hs, of_decide_eq_true hp'⟩
end
end Mp
end

section
open PySem PySem.W PyProof.Rows PySem.Calls
set_option maxRecDepth 100000
set_option linter.unusedSimpArgs false
set_option linter.unusedVariables false
set_option linter.unusedSectionVars false
namespace Mp

theorem sizes_map (L S n : Nat) : ((List.range S).map fun p => D.of (size1 L S n p)) ++ ((List.range n).map fun p => D.of (size2 L S n p)) = (sizesF L S n).map D.of := by
  unfold sizesF
  rw [List.map_append, List.map_map, List.map_map]; rfl
theorem sizes_good {L S n : Nat} (h1 : 1 ≤ S) (h2 : S < L) (hL : L ≤ 16) (hn : n ≤ L) : (∀ r ∈ sizesF L S n, r ≠ [] ∧ r.length ≤ 1000 ∧ 1 ≤ r.headD 0 ∧ ∀ s ∈ r.tail, 1 ≤ s) ∧ (sizesF L S n).length ≤ 1000 := by
  refine ⟨fun r hr => ?_, by simp [sizesF]; omega⟩
  have hp := sizes_pos h1 h2 r hr
  refine ⟨?_, ?_, hp⟩
  · rintro rfl
    have := hp.1
    simp at this
  · unfold sizesF at hr
    rcases List.mem_append.mp hr with h | h
    · obtain ⟨p, hp', rfl⟩ := List.mem_map.mp h
      have : (n - p - 1) / S ≤ n - p - 1 := Nat.div_le_self _ _
      generalize hq : (n - p - 1) / S = q at this
      unfold size1
      rw [hq]
      simp; omega
    · obtain ⟨p, hp', rfl⟩ := List.mem_map.mp h
      unfold size2
      have h4 : p % 4 < 4 := Nat.mod_lt _ (by decide)
      generalize p % 4 = k at h4
      match k, h4 with
      | 0, _ => simp [tails']
      | 1, _ => simp [tails']
      | 2, _ => simp [tails']
      | 3, _ => simp [tails']

theorem ok_law {xs : List Int} (hx : xs.length ≤ 1000) {Q : D → Prop} (h : Q (.bool true)) : pxs XW ir_law (initW cLaw [.list (xs.map D.int)]) (retP Q) := by
  unfold cLaw
  simp only [initW, vars_law, List.length_cons, List.length_nil, Nat.reduceAdd, Nat.reduceSub, List.replicate, List.map_cons, List.map_nil, List.cons_append, List.nil_append]
  refine law_0 hx fun nm f se th hf hs ht => ?_
  refine law_2 ?_
  have hL : (8 + 8 * (f % 2)) = 8 ∨ (8 + 8 * (f % 2)) = 16 := by omega
  generalize 8 + 8 * (f % 2) = L at hL
  have hL16 : L ≤ 16 := by omega
  have hL8 : 8 ≤ L := by omega
  refine law_3 (by omega) ?_
  have hSm : (f / 2 + 4) % (L - 1) < L - 1 := Nat.mod_lt _ (by omega)
  generalize hS : 1 + (f / 2 + 4) % (L - 1) = S
  have hS1 : 1 ≤ S := by omega
  have hSL : S < L := by omega
  refine law_4 hS1 hSL ?_
  have hgm : (se + 1) % (min S (L - S)) < min S (L - S) := Nat.mod_lt _ (by omega)
  generalize hg : 1 + (se + 1) % (min S (L - S)) = g
  have hg1 : 1 ≤ g := by omega
  have hgmin : g ≤ min S (L - S) := by omega
  refine law_5 (by omega) ?_
  have hm := combo_mem hL hS1 hSL hg1 hgmin
  have hLg : L - (L - g) = g := by omega
  generalize hn : L - g = n at *
  have hn1 : 1 ≤ n := by omega
  have hnL : n ≤ L := by omega
  have hSn : S ≤ n := by omega
  refine law_7 (by omega) (by omega) ?_
  have hdl := @draw_len th L n
  have hdi := @draw_inj th L n hL hnL
  have hdlt := @draw_lt th L n (by omega)
  generalize drawF th L n = dr at *
  have hd16 : ∀ d ∈ dr, d < 16 := fun d hd => by have := hdlt d hd; omega
  refine law_9 hL hdlt hdl (by omega) fun v10 v13 => ?_
  refine law_10 (law_11 (law_12 ?_))
  refine law_13 hS1 hSL hL16 hSn hnL (fact_of facts1 hm) ?_
  refine law_14 hS1 hSL hL16 hnL (fact_of facts2 hm) (by simp; omega) ?_
  refine law_15 hS1 hSL hL16 hSn hnL ?_
  refine law_16 hS1 hSL hL16 hnL (by simp; omega) ?_
  rw [sizes_map]
  refine law_17 ?_
  obtain ⟨hsg, hsl⟩ := sizes_good (n := n) hS1 hSL hL16 hnL
  refine law_20 (by omega) hdl hsg hsl hd16 fun v17 v18 v19 v20 v21 v22 => ?_
  have hinv := inv_ruls hdi (sizesF L S n) (List.range dr.length) dr (sizes_pos hS1 hSL) (inv_start dr)
  rw [hdl] at hinv
  have hinv : Inv dr (clsF L S n) ((sizesF L S n).foldl (fun t r => rulT n (r.headD 0) r.tail t) dr) := hinv
  generalize (sizesF L S n).foldl (fun t r => rulT n (r.headD 0) r.tail t) dr = tt at *
  have htl : tt.length = n := by rw [hinv.lt, hdl]
  have hf7 := fact_of facts7 hm
  refine law_21 hL hS1 hSL (by omega) hd16 (fun st h1 h2 => ?_) (paint_of hinv hdl (by omega) (fact_of facts3 hm) (fact_of facts4 hm)) ?_
  · rw [hdl] at h1 ⊢
    have := List.all_eq_true.mp hf7 (st - n) (List.mem_range.mpr (by omega))
    rw [decide_eq_true_eq, show n + (st - n) = st by omega] at this
    exact this
  refine law_23 hL16 hSL ?_
  refine law_25 hL (by omega) ?_
  have hfl : (foundF L tt).length = max g (Nat.gcd S L) := by
    rw [found_len hinv hdi hdlt]
    have := fact_of facts5 hm
    unfold fact5 at this
    rw [beq_iff_eq, hLg] at this
    exact this
  have hgcd0 : 1 ≤ Nat.gcd S L := Nat.gcd_pos_of_pos_left _ (by omega)
  have hgcd1 : Nat.gcd S L ≤ S := Nat.gcd_le_left _ (by omega)
  refine law_26 (by omega) (fun v hv => (found_mem v).mpr ⟨t_lt hinv hdlt v hv, hv⟩) (by rw [hfl]; omega) hfl ?_
  refine law_27 htl hn1 (by omega) hgcd0 (by omega) (fun a h1 h2 h3 => ?_) h
  exact alike_of hinv hdi hdl (fact_of facts6 hm) h1 h2 (by rw [hLg]; exact h3)
end Mp
end

section
open PySem PySem.W PyProof.Rows PySem.Calls
set_option maxRecDepth 100000
set_option linter.unusedSimpArgs false
set_option linter.unusedVariables false
set_option linter.unusedSectionVars false
namespace Mp

theorem len1 {α : Type} {l : List α} (h : l.length = 1) : ∃ a, l = [a] := by
  cases l with
  | nil => cases h
  | cons a l => cases l with
    | nil => exact ⟨a, rfl⟩
    | cons => cases h
theorem len2 {α : Type} {l : List α} (h : l.length = 2) : ∃ a b, l = [a, b] := by
  cases l with
  | nil => cases h
  | cons a l => obtain ⟨b, rfl⟩ := len1 (Nat.succ.inj h); exact ⟨a, b, rfl⟩
theorem len3 {α : Type} {l : List α} (h : l.length = 3) : ∃ a b c, l = [a, b, c] := by
  cases l with
  | nil => cases h
  | cons a l => obtain ⟨b, c, rfl⟩ := len2 (Nat.succ.inj h); exact ⟨a, b, c, rfl⟩
theorem at_nil {α : Type} {P : α → Prop} (k : Nat) (p : α) (h : ([] : List α)[k]? = some p) : P p := nomatch h
theorem at_cons {α : Type} {P : α → Prop} {a : α} {l : List α} (h0 : P a) (hl : ∀ (k : Nat) p, l[k]? = some p → P p) (k : Nat) (p : α) (h : (a :: l)[k]? = some p) : P p := by
  cases k with
  | zero => exact Option.some.inj h ▸ h0
  | succ k => exact hl k p h

theorem par_strcoll : ∃ a0 a1, fnP "_strcoll" = { posonlyargs := [], args := [⟨"a", none, a0⟩, ⟨"b", none, a1⟩], vararg := none, kwonlyargs := [], kw_defaults := [], kwarg := none, defaults := [] } := ⟨_, _, rfl⟩
theorem bind_strcoll {x : Str} {b : List Stmt} {sc : Scope} {pm code doc : Value} (v0 v1 : Value) : bindArgs (docDef x (fnP "_strcoll") b sc pm code doc) ⟨[v0, v1], []⟩ = pure [(("a" : Str), v0), (("b" : Str), v1)] := by
  obtain ⟨a0, a1, h⟩ := par_strcoll
  rw [h]; rfl
theorem par_rgb : ∃ a0 a1 a2, fnP "rgb_to_hsv" = { posonlyargs := [], args := [⟨"r", none, a0⟩, ⟨"g", none, a1⟩, ⟨"b", none, a2⟩], vararg := none, kwonlyargs := [], kw_defaults := [], kwarg := none, defaults := [] } := ⟨_, _, _, rfl⟩
theorem bind_rgb {x : Str} {b : List Stmt} {sc : Scope} {pm code doc : Value} (v0 v1 v2 : Value) : bindArgs (docDef x (fnP "rgb_to_hsv") b sc pm code doc) ⟨[v0, v1, v2], []⟩ = pure [(("r" : Str), v0), (("g" : Str), v1), (("b" : Str), v2)] := by
  obtain ⟨a0, a1, a2, h⟩ := par_rgb
  rw [h]; rfl
theorem par_hsv : ∃ a0 a1 a2, fnP "hsv_to_rgb" = { posonlyargs := [], args := [⟨"h", none, a0⟩, ⟨"s", none, a1⟩, ⟨"v", none, a2⟩], vararg := none, kwonlyargs := [], kw_defaults := [], kwarg := none, defaults := [] } := ⟨_, _, _, rfl⟩
theorem bind_hsv {x : Str} {b : List Stmt} {sc : Scope} {pm code doc : Value} (v0 v1 v2 : Value) : bindArgs (docDef x (fnP "hsv_to_rgb") b sc pm code doc) ⟨[v0, v1, v2], []⟩ = pure [(("h" : Str), v0), (("s" : Str), v1), (("v" : Str), v2)] := by
  obtain ⟨a0, a1, a2, h⟩ := par_hsv
  rw [h]; rfl
theorem par_ell : ∃ a0 a1, fnP "_ellipsis_match" = { posonlyargs := [], args := [⟨"want", none, a0⟩, ⟨"got", none, a1⟩], vararg := none, kwonlyargs := [], kw_defaults := [], kwarg := none, defaults := [] } := ⟨_, _, rfl⟩
theorem bind_ell {x : Str} {b : List Stmt} {sc : Scope} {pm code doc : Value} (v0 v1 : Value) : bindArgs (docDef x (fnP "_ellipsis_match") b sc pm code doc) ⟨[v0, v1], []⟩ = pure [(("want" : Str), v0), (("got" : Str), v1)] := by
  obtain ⟨a0, a1, h⟩ := par_ell
  rw [h]; rfl
theorem par_lamp : ∃ a0 a1 a2, fnP "_law_lamp" = { posonlyargs := [], args := [⟨"place", none, a0⟩, ⟨"lamps", none, a1⟩, ⟨"lit", none, a2⟩], vararg := none, kwonlyargs := [], kw_defaults := [], kwarg := none, defaults := [] } := ⟨_, _, _, rfl⟩
theorem bind_lamp {x : Str} {b : List Stmt} {sc : Scope} {pm code doc : Value} (v0 v1 v2 : Value) : bindArgs (docDef x (fnP "_law_lamp") b sc pm code doc) ⟨[v0, v1, v2], []⟩ = pure [(("place" : Str), v0), (("lamps" : Str), v1), (("lit" : Str), v2)] := by
  obtain ⟨a0, a1, a2, h⟩ := par_lamp
  rw [h]; rfl
theorem par_whole : ∃ a0, fnP "_law_whole" = { posonlyargs := [], args := [⟨"told", none, a0⟩], vararg := none, kwonlyargs := [], kw_defaults := [], kwarg := none, defaults := [] } := ⟨_, rfl⟩
theorem bind_whole {x : Str} {b : List Stmt} {sc : Scope} {pm code doc : Value} (v0 : Value) : bindArgs (docDef x (fnP "_law_whole") b sc pm code doc) ⟨[v0], []⟩ = pure [(("told" : Str), v0)] := by
  obtain ⟨a0, h⟩ := par_whole
  rw [h]; rfl
theorem par_sizes : ∃ a0 a1, fnP "_law_sizes" = { posonlyargs := [], args := [⟨"ruler", none, a0⟩, ⟨"enough", none, a1⟩], vararg := none, kwonlyargs := [], kw_defaults := [], kwarg := none, defaults := [] } := ⟨_, _, rfl⟩
theorem bind_sizes {x : Str} {b : List Stmt} {sc : Scope} {pm code doc : Value} (v0 v1 : Value) : bindArgs (docDef x (fnP "_law_sizes") b sc pm code doc) ⟨[v0, v1], []⟩ = pure [(("ruler" : Str), v0), (("enough" : Str), v1)] := by
  obtain ⟨a0, a1, h⟩ := par_sizes
  rw [h]; rfl
theorem par_strung : ∃ a0 a1 a2, fnP "_law_strung" = { posonlyargs := [], args := [⟨"drawn", none, a0⟩, ⟨"lamps", none, a1⟩, ⟨"step", none, a2⟩], vararg := none, kwonlyargs := [], kw_defaults := [], kwarg := none, defaults := [] } := ⟨_, _, _, rfl⟩
theorem bind_strung {x : Str} {b : List Stmt} {sc : Scope} {pm code doc : Value} (v0 v1 v2 : Value) : bindArgs (docDef x (fnP "_law_strung") b sc pm code doc) ⟨[v0, v1, v2], []⟩ = pure [(("drawn" : Str), v0), (("lamps" : Str), v1), (("step" : Str), v2)] := by
  obtain ⟨a0, a1, a2, h⟩ := par_strung
  rw [h]; rfl
theorem par_law : ∃ a0, fnP "law" = { posonlyargs := [], args := [⟨"script", none, a0⟩], vararg := none, kwonlyargs := [], kw_defaults := [], kwarg := none, defaults := [] } := ⟨_, rfl⟩
theorem bind_law {x : Str} {b : List Stmt} {sc : Scope} {pm code doc : Value} (v0 : Value) : bindArgs (docDef x (fnP "law") b sc pm code doc) ⟨[v0], []⟩ = pure [(("script" : Str), v0)] := by
  obtain ⟨a0, h⟩ := par_law
  rw [h]; rfl
theorem par_gen : ∃ a0, fnP "_grouping_intervals" = { posonlyargs := [], args := [⟨"grouping", none, a0⟩], vararg := none, kwonlyargs := [], kw_defaults := [], kwarg := none, defaults := [] } := ⟨_, rfl⟩
theorem bind_gen {x : Str} {b : List Stmt} {sc : Scope} {pm code doc : Value} (v0 : Value) : bindArgs (docDef x (fnP "_grouping_intervals") b sc pm code doc) ⟨[v0], []⟩ = pure [(("grouping" : Str), v0)] := by
  obtain ⟨a0, h⟩ := par_gen
  rw [h]; rfl

theorem sdef_bind {x : Str} {b : List Stmt} {sc : Scope} {pm code doc : Value} : ∀ vs : List Value, vs.length = (["ruler", "enough"] : List Str).length → bindArgs (docDef x (fnP "_law_sizes") b sc pm code doc) ⟨vs, []⟩ = pure ((["ruler", "enough"] : List Str).zip vs) := by
  intro vs hv
  obtain ⟨v, u, rfl⟩ := len2 hv
  exact bind_sizes v u

/-- what the head lays -/
structure Hd (s : Shared) (mg mb : Str → Option Value) : Prop where
  g : s.heap.Ns mainGlobals mg
  b : s.heap.Ns builtinsNs mb
  nb : NoneBooked s.heap
  lim : s.heap.NoLimit
  em : ∃ t, mg "ELLIPSIS_MARKER" = some (.str "..." t)
  cm : ∃ t, mg "CHAR_MAX" = some (.int 127 t)
  len : mg "len" = none ∧ mb "len" = some (.builtin "len")
  min : mg "min" = none ∧ mb "min" = some (.builtin "min")
  max : mg "max" = none ∧ mb "max" = some (.builtin "max")
  int : mg "int" = none ∧ mb "int" = some (.type "int")
  isi : mg "isinstance" = none ∧ mb "isinstance" = some (.builtin "isinstance")
  range : mg "range" = none ∧ mb "range" = some (.type "range")
  verr : mg "ValueError" = none ∧ mb "ValueError" = some (.type "ValueError")
  fn : ∀ x ∈ (["_strcoll", "_grouping_intervals", "rgb_to_hsv", "hsv_to_rgb", "_ellipsis_match", "_law_lamp", "_law_whole", "_law_sizes", "_law_strung", "law"] : List Str),
    ∃ a o pm code doc, mg x = some (.ref a) ∧ s.heap.get? a = some o ∧ o.data = .func (docDef x (fnP x) (fnB x) (fnS x) pm code doc) ∧ s.heap.CodeRec code x

theorem Con.up {prog : Program} {w : World} {sB : Shared} {L L' : Nat} {a : Addr} {f : Ctr} (h : Con prog w sB L a f) (hl : L ≤ L') : Con prog w sB L' a f := by
  intro A s F vs ds Q E hA
  exact h A s F vs ds Q E ⟨hA.1, by have := hA.2.1; omega, by have := hA.2.2; omega⟩

section
variable {w : World} {s : Shared} {mg mb : Str → Option Value} (H : Hd s mg mb)
include H
theorem Hd.gok {L : Nat} {fns : List (Str × Ctr)} (hf : ∀ (k : Nat) p, fns[k]? = some p → ∃ a o fd, mg p.1 = some (.ref a) ∧ s.heap.get? a = some o ∧ o.data = .func fd ∧ Con pw w s L a p.2) : GOk pw w s mg mb L ⟨vals0, bis0, fns⟩ where
  g := H.g
  b := H.b
  nb := H.nb
  vals := at_cons H.em at_nil
  bis := at_cons H.len (at_cons H.min (at_cons H.max (at_cons H.int at_nil)))
  isi := H.isi
  int := H.int
  range := H.range
  fns := hf

/-- the address of a def, and its contract -/
noncomputable def HasCon (w : World) (s : Shared) (mg : Str → Option Value) (L : Nat) (x : Str) (f : Ctr) : Prop := ∃ a o fd, mg x = some (.ref a) ∧ s.heap.get? a = some o ∧ o.data = .func fd ∧ Con pw w s L a f
omit H in
theorem HasCon.up {L L' : Nat} {x : Str} {f : Ctr} (h : HasCon w s mg L x f) (hl : L ≤ L') : HasCon w s mg L' x f :=
  let ⟨a, o, fd, h1, h2, h3, h4⟩ := h; ⟨a, o, fd, h1, h2, h3, h4.up hl⟩

theorem Hd.g0 : GOk pw w s mg mb 0 ⟨vals0, bis0, []⟩ := H.gok at_nil
omit H in
theorem x0_orc {s0 : Shared} {L : Nat} {c : Cx} {env : Env} {Fc : Addr → Prop} {A : Around} {G : Gt} : OrcOk pw w s0 L ⟨G, []⟩ c env Fc A := fun n p hp => nomatch hp

theorem Hd.strcoll : HasCon w s mg 1 "_strcoll" cStrcoll := by
  obtain ⟨a, o, pm, code, doc, h1, h2, h3, h4⟩ := H.fn "_strcoll" (by simp)
  exact ⟨a, o, _, h1, h2, h3, con_of (xs := ["a", "b"]) h2 h3 rfl rfl rfl rfl h4 H.lim (fun vs hv => by
    obtain ⟨v, u, rfl⟩ := len2 hv
    exact bind_strcoll v u) good_strcoll H.g0 (fun _ _ _ _ _ => x0_orc) chk_strcoll ok_strcoll⟩
theorem Hd.rgb : HasCon w s mg 1 "rgb_to_hsv" cRgb := by
  obtain ⟨a, o, pm, code, doc, h1, h2, h3, h4⟩ := H.fn "rgb_to_hsv" (by simp)
  exact ⟨a, o, _, h1, h2, h3, con_of (xs := ["r", "g", "b"]) h2 h3 rfl rfl rfl rfl h4 H.lim (fun vs hv => by
    obtain ⟨v, u, z, rfl⟩ := len3 hv
    exact bind_rgb v u z) good_rgb H.g0 (fun _ _ _ _ _ => x0_orc) chk_rgb ok_rgb⟩
theorem Hd.hsv : HasCon w s mg 1 "hsv_to_rgb" cHsv := by
  obtain ⟨a, o, pm, code, doc, h1, h2, h3, h4⟩ := H.fn "hsv_to_rgb" (by simp)
  exact ⟨a, o, _, h1, h2, h3, con_of (xs := ["h", "s", "v"]) h2 h3 rfl rfl rfl rfl h4 H.lim (fun vs hv => by
    obtain ⟨v, u, z, rfl⟩ := len3 hv
    exact bind_hsv v u z) good_hsv H.g0 (fun _ _ _ _ _ => x0_orc) chk_hsv ok_hsv⟩
theorem Hd.ell : HasCon w s mg 1 "_ellipsis_match" cEll := by
  obtain ⟨a, o, pm, code, doc, h1, h2, h3, h4⟩ := H.fn "_ellipsis_match" (by simp)
  exact ⟨a, o, _, h1, h2, h3, con_of (xs := ["want", "got"]) h2 h3 rfl rfl rfl rfl h4 H.lim (fun vs hv => by
    obtain ⟨v, u, rfl⟩ := len2 hv
    exact bind_ell v u) good_ell H.g0 (fun _ _ _ _ _ => x0_orc) chk_ell ok_ell⟩
theorem Hd.whole : HasCon w s mg 1 "_law_whole" cWhole := by
  obtain ⟨a, o, pm, code, doc, h1, h2, h3, h4⟩ := H.fn "_law_whole" (by simp)
  exact ⟨a, o, _, h1, h2, h3, con_of (xs := ["told"]) h2 h3 rfl rfl rfl rfl h4 H.lim (fun vs hv => by
    obtain ⟨v, rfl⟩ := len1 hv
    exact bind_whole v) good_whole H.g0 (fun _ _ _ _ _ => x0_orc) chk_whole ok_whole⟩
theorem Hd.lamp : HasCon w s mg 2 "_law_lamp" cLamp := by
  obtain ⟨a, o, pm, code, doc, h1, h2, h3, h4⟩ := H.fn "_law_lamp" (by simp)
  have hG : GOk pw w s mg mb 1 ⟨vals0, bis0, [("hsv_to_rgb", cHsv), ("rgb_to_hsv", cRgb)]⟩ := H.gok (at_cons H.hsv (at_cons H.rgb at_nil))
  exact ⟨a, o, _, h1, h2, h3, con_of (xs := ["place", "lamps", "lit"]) h2 h3 rfl rfl rfl rfl h4 H.lim (fun vs hv => by
    obtain ⟨v, u, z, rfl⟩ := len3 hv
    exact bind_lamp v u z) good_lamp hG (fun _ _ _ _ _ => x0_orc) (chk_lamp _ _) ok_lamp'⟩
theorem Hd.strung : HasCon w s mg 3 "_law_strung" cStrung := by
  obtain ⟨a, o, pm, code, doc, h1, h2, h3, h4⟩ := H.fn "_law_strung" (by simp)
  have hG : GOk pw w s mg mb 2 ⟨vals0, bis0, [("_law_lamp", cLamp)]⟩ := H.gok (at_cons H.lamp at_nil)
  exact ⟨a, o, _, h1, h2, h3, con_of (xs := ["drawn", "lamps", "step"]) h2 h3 rfl rfl rfl rfl h4 H.lim (fun vs hv => by
    obtain ⟨v, u, z, rfl⟩ := len3 hv
    exact bind_strung v u z) good_strung hG (fun _ _ _ _ _ => x0_orc) (chk_strung _) ok_strung⟩
theorem Hd.gB {L : Nat} (hL : 1 ≤ L) : GOk pw w s mg mb L XB.G := H.gok (at_cons (H.whole.up hL) at_nil)
theorem Hd.gen : ∃ a o fd, GDef s mg a o fd := by
  obtain ⟨a, o, pm, code, doc, h1, h2, h3, h4⟩ := H.fn "_grouping_intervals" (by simp)
  exact ⟨a, o, _, { hm := h1, ho := h2, hd := h3, body := rfl, scope := rfl, gl := rfl, bl := rfl, cl := rfl, cd := h4, bind := fun v => bind_gen v, cm := H.cm }⟩
theorem Hd.sdef : ∃ a o fd, SDef s mg a o fd := by
  obtain ⟨a, o, pm, code, doc, h1, h2, h3, h4⟩ := H.fn "_law_sizes" (by simp)
  exact ⟨a, o, _, { hm := h1, ho := h2, hd := h3, body := rfl, scope := rfl, gl := rfl, bl := rfl, cl := rfl, cd := h4, bind := sdef_bind }⟩
theorem Hd.sizes : HasCon w s mg 2 "_law_sizes" cSizes := by
  obtain ⟨a, o, fd, S⟩ := H.sdef
  obtain ⟨ga, og, fg, D⟩ := H.gen
  refine ⟨a, o, fd, S.hm, S.ho, S.hd, con_of (X := XS) (xs := ["ruler", "enough"]) (sts := ir_sizes) S.ho S.hd S.body S.gl S.bl S.cl S.cd H.lim S.bind (by rw [S.scope]; exact good_sizes) (H.gB (Nat.le_refl 1)) (fun A s0 env Fc hf => ?_) (by rw [S.scope]; exact chk_sizes) (by rw [S.scope]; exact ok_sizes)⟩
  rw [S.scope] at hf ⊢
  exact sz_orc (H.gB (Nat.le_refl 1)) D H.lim hf
end
end Mp
end

section
open PySem PySem.W PyProof.Rows PySem.Calls
set_option maxRecDepth 100000
set_option linter.unusedSimpArgs false
set_option linter.unusedVariables false
set_option linter.unusedSectionVars false
namespace Mp
theorem caller_ok : AOk 4 callerA := ⟨rfl, by decide +kernel, by decide +kernel⟩

theorem Hd.law {w : World} {s : Shared} {mg mb : Str → Option Value} (H : Hd s mg mb) {a la : Addr} {n : Nat} {vs : List Value} {xs : List Int} {E : Value → Shared → Prop} (hmg : mg "law" = some (.ref a)) (hl : s.heap.get? la = some (lob vs n)) (hvs : VRs s (fun _ => False) vs (xs.map D.int)) (hx : xs.length ≤ 1000) (htok : s.toks ≠ 0) :
    wpAny (model pw w) callerA (call (.ref a) [.ref la]) (Post s (fun _ => False) (fun d => d = .bool true)) E s := by
  obtain ⟨a', o, pm, code, doc, h1, h2, h3, h4⟩ := H.fn "law" (by simp)
  have ha : a' = a := by
    have := h1.symm.trans hmg
    simpa using this
  subst ha
  obtain ⟨sa, os', fs, S⟩ := H.sdef
  obtain ⟨ga, og, fg, GD⟩ := H.gen
  have hG : GOk pw w s mg mb 3 XW.G := H.gok (at_cons (H.lamp.up (by decide)) (at_cons (H.sizes.up (by decide)) (at_cons (H.whole.up (by decide)) (at_cons (H.strcoll.up (by decide)) (at_cons (H.strung.up (by decide)) (at_cons (H.ell.up (by decide)) at_nil))))))
  refine con_core (L := 3) (xs := ["script"]) (ds := [.list (xs.map D.int)]) (F := fun _ => False) h2 h3 rfl rfl rfl rfl h4 H.lim (fun vs hv => by
    obtain ⟨v, rfl⟩ := len1 hv
    exact bind_law v) good_law caller_ok (Kp.refl s) htok (fun _ h => h.elim) (.cons (.list la n vs _ hl (fun h => h) hvs) .nil) rfl fun env s' hFR hfrm hkp hA' hSR => ?_
  have hw := fun E' => wpss (L := 3) (X := XW) (R := retP fun d => d = .bool true) (E := E') hG (law_orc (L := 2) rfl (H.gB (by decide)) GD S H.verr.1 H.verr.2 H.lim hFR (Around.frames_deeper rfl) hfrm) hFR ir_law (chk_law' cLamp cSizes cWhole cStrcoll cStrung cEll tryPt).1 hA' hSR (ok_law hx rfl)
  rw [show emitSs XW cLaw ir_law (fnB "law") = fnB "law" from (chk_law' cLamp cSizes cWhole cStrcoll cStrung cEll tryPt).2] at hw
  refine wpAny_mono (hw _) (fun fl s₂ p₂ => ?_) fun _ _ e => e
  obtain ⟨o', hR, hkt, hok⟩ := p₂
  cases hok with
  | ret v d h1 h2 => exact ⟨_, hR, h1, h2⟩
  | _ => exact hR.elim
end Mp
end

section
open PySem PySem.W PyProof.Rows PySem.Calls
set_option maxRecDepth 100000
set_option linter.unusedVariables false
set_option linter.unusedSimpArgs false
set_option linter.unusedSectionVars false
namespace Mp
noncomputable def defNames : List Str := ["_strcoll", "_grouping_intervals", "rgb_to_hsv", "hsv_to_rgb", "_ellipsis_match", "_law_lamp", "_law_whole", "_law_sizes", "_law_strung", "law"]
noncomputable def biNames : List Str := ["len", "min", "max", "int", "isinstance", "range", "ValueError"]

noncomputable def bookKey (o : Obj) : Bool := match o.data with | .dict es _ => (nsFind es sharingNotToldKey).isNone | _ => false
theorem booked {h : Heap} {o : Obj} (hn : ∃ mc, h.Ns cStatics mc ∧ mc "sys.int_max_str_digits" = none) (ho : h.get? cStatics = some o) (hk : bookKey o = true) : NoneBooked h := by
  obtain ⟨mc, hns, _⟩ := hn
  refine ⟨mc, hns, ?_⟩
  obtain ⟨o', es', ep', e1, e2, _, e3⟩ := hns
  rw [ho] at e1; cases e1
  unfold bookKey at hk
  rw [e2] at hk
  rw [← e3]
  simpa using hk

theorem reads_str {h : Heap} {v : Value} {x : Str} {as : List Addr} (r : Reads h v (.str x) as) : ∃ t, v = .str x t := by
  cases r; exact ⟨_, rfl⟩
theorem reads_int {h : Heap} {v : Value} {x : Int} {as : List Addr} (r : Reads h v (.int x) as) : ∃ t, v = .int x t := by
  cases r; exact ⟨_, rfl⟩

theorem hd_of {view : Program} {loose : List Str} {mean : ExcName → Option Value} {mg mb : Str → Option Value} {s : Shared} (T : Top view loose mean mg mb s.heap) (nb : NoneBooked s.heap)
    (hdef : (recsOf view).map (fun d => (d.name, d.params, d.body, d.scope)) = defNames.map fun x => (x, fnP x, fnB x, fnS x))
    (hc1 : valOf view "ELLIPSIS_MARKER" = some (.str "...")) (hc2 : valOf view "CHAR_MAX" = some (.int 127))
    (hfree : ∀ x ∈ biNames, x ∉ startupNames ∧ x ∉ loose ∧ x ∉ (recsOf view).map (·.name) ∧ x ∉ (litsOf view).map (·.1) ∧ x ∉ (clssOf view loose).map (·.name)) : Hd s mg mb := by
  have bi : ∀ x ∈ biNames, ∀ v, bootBuiltins x = some v → x ≠ "__name__" → mg x = none ∧ mb x = some v := by
    intro x hx v hv hn
    obtain ⟨a, b, c, d, e⟩ := hfree x hx
    exact ⟨T.free x a b c d e, (T.builtins x hn).trans hv⟩
  exact {
    g := T.g
    b := T.b
    nb := nb
    lim := T.nolimit
    em := by
      obtain ⟨v, h1, h2⟩ := T.const _ _ hc1
      obtain ⟨t, rfl⟩ := reads_str (h2 s.heap)
      exact ⟨t, h1⟩
    cm := by
      obtain ⟨v, h1, h2⟩ := T.const _ _ hc2
      obtain ⟨t, rfl⟩ := reads_int (h2 s.heap)
      exact ⟨t, h1⟩
    len := bi _ (by simp [biNames]) _ PyProof.Rows.Boot.«len» (by decide)
    min := bi _ (by simp [biNames]) _ PyProof.Rows.Boot.«min» (by decide)
    max := bi _ (by simp [biNames]) _ PyProof.Rows.Boot.«max» (by decide)
    int := bi _ (by simp [biNames]) _ PyProof.Rows.Boot.«int» (by decide)
    isi := bi _ (by simp [biNames]) _ PyProof.Rows.Boot.«isinstance» (by decide)
    range := bi _ (by simp [biNames]) _ PyProof.Rows.Boot.«range» (by decide)
    verr := bi _ (by simp [biNames]) _ PyProof.Rows.Boot.«ValueError» (by decide)
    fn := by
      intro x hx
      have hm : (x, fnP x, fnB x, fnS x) ∈ (recsOf view).map (fun d => (d.name, d.params, d.body, d.scope)) := by
        rw [hdef]
        exact List.mem_map.mpr ⟨x, hx, rfl⟩
      obtain ⟨d, hd, he⟩ := List.mem_map.mp hm
      obtain ⟨a, o, pm, code, doc, h1, h2, h3, h4⟩ := T.fn d hd
      obtain ⟨e1, e2⟩ := Prod.mk.inj he
      obtain ⟨e2, e3⟩ := Prod.mk.inj e2
      obtain ⟨e3, e4⟩ := Prod.mk.inj e3
      rw [e1, e2, e3, e4] at h3
      rw [e1] at h1 h4
      exact ⟨a, o, pm, code, doc, h1, h2, h3, h4⟩ }
end Mp
end

section
open PySem PySem.W PyProof.Rows PySem.Calls
set_option maxRecDepth 100000
set_option linter.unusedVariables false
set_option linter.unusedSimpArgs false
set_option linter.unusedSectionVars false
namespace Mp
theorem ints_vr {s : Shared} {F : Addr → Prop} : ∀ {vs : List Value} {xs : List Int}, IntsAre vs xs → VRs s F vs (xs.map D.int)
  | _, _, .nil => .nil
  | _, _, .cons n t h => .cons (.int n t) (ints_vr h)
theorem good_true {c : ClaimW} {cl : Str → Option Addr} {mean : ExcName → Option Value} {args : List WData} {s₁ s' : Shared} {v : Value} {F : Addr → Prop} (h : Post s₁ F (fun d => d = .bool true) v s') (hr : ∀ cls, c.raises args cls = false) (hp : c.post args (.bool true) args = true) (hg : s₁.gens = #[]) :
    GoodWG c cl mean args s₁ (.ok (.ret v)) s' := by
  obtain ⟨d, rfl, hv, k⟩ := h
  cases hv
  refine ⟨.inl ⟨_, .bool true, [], rfl, hr, .bool true, hp, fun _ => ⟨List.nodup_nil, fun a ha => by cases ha⟩⟩, .of_keep k.hp, k.os, ?_⟩
  obtain ⟨t, h1, h2⟩ := k.gn
  intro y hy
  rw [hg] at h1
  exact h2 y (by rw [← Array.mem_toList_iff] at hy; rw [h1] at hy; simpa using hy)
theorem post_true (args : List WData) : PySem.Challenge.rw_ti0004_01.row.claim.post args (.bool true) args = true := by kernel_rfl
theorem raises_none (args : List WData) : ∀ cls, PySem.Challenge.rw_ti0004_01.row.claim.raises args cls = false := fun _ => rfl
theorem tok_ne {s : Shared} (h : 306 ≤ s.toks) : s.toks ≠ 0 := by
  intro e
  rw [e] at h
  exact absurd h (by decide)
end Mp
end

section
open PySem PySem.W PyProof.Rows PySem.Calls PySem.W.X
set_option maxRecDepth 100000
namespace Mp
/-- the statements of the text that are read, as a term: the text itself is not laid out again -/
def vw : Program := PySem.W.view PySem.Challenge.pw_ti0004_01 [1, 2, 3, 5, 6, 8, 9, 11, 12, 13, 14, 15]
noncomputable def obs (s : Shared) : Option Bool × Nat × Nat := ((s.heap.get? cStatics).map bookKey, s.heap.objs.size, s.toks)
theorem law_some : (defOf vw "law").isSome = true := by decide +kernel
noncomputable def lawD : DefRec := ((defOf vw "law").get law_some).1
theorem head_left : LeftO PySem.Challenge.rw_ti0004_01.row.prog vw [] (fun s => xlAt vw [] s && recOk PySem.Challenge.rw_ti0004_01.row.records s) obs (fun _ => (some true, 81, 306)) 880 := by
  intro w
  kernel_rfl
theorem head_def : defOf vw PySem.Challenge.rw_ti0004_01.row.name = some (lawD, []) := by kernel_rfl
theorem head_the : PySem.Challenge.rw_ti0004_01.row.prog.theDef PySem.Challenge.rw_ti0004_01.row.name = some (lawD.params, lawD.body, lawD.scope) := by kernel_rfl
theorem head_kw : kwWritten? (lawD.params).kwonlyargs (lawD.params).kw_defaults = some [] := by kernel_rfl
theorem head_ok : (chainsOk vw && opensWell PySem.Challenge.rw_ti0004_01.row.prog && (frees PySem.Challenge.rw_ti0004_01.row.toRowW && PySem.Challenge.rw_ti0004_01.row.within.isEmpty)) = true := by decide +kernel
theorem head_bare : PySem.Challenge.rw_ti0004_01.row.prog.bare := ⟨rfl, rfl, rfl, rfl, rfl, by decide +kernel⟩
theorem head_defs : (recsOf vw).map (fun d => (d.name, d.params, d.body, d.scope)) = defNames.map fun x => (x, fnP x, fnB x, fnS x) := by kernel_rfl
theorem head_c1 : valOf vw "ELLIPSIS_MARKER" = some (.str "...") := by kernel_rfl
theorem head_c2 : valOf vw "CHAR_MAX" = some (.int 127) := by kernel_rfl
theorem head_free : ∀ x ∈ biNames, x ∉ startupNames ∧ x ∉ looseW vw [] ∧ x ∉ (recsOf vw).map (·.name) ∧ x ∉ (litsOf vw).map (·.1) ∧ x ∉ (clssOf vw (looseW vw [])).map (·.name) := by decide +kernel
theorem head_booked {s₀ : Shared} {h : Heap} (y : obs s₀ = (some true, 81, 306)) (k : ∀ b o, s₀.heap.get? b = some o → h.get? b = some o) (hn : ∃ mc, h.Ns cStatics mc ∧ mc "sys.int_max_str_digits" = none) : NoneBooked h :=
  (Option.map_eq_some_iff.mp (congrArg Prod.fst y)).elim fun o e => booked hn (k _ o e.1) e.2
end Mp
end

open PySem PySem.W PyProof.Rows PySem.Calls PySem.W.X
set_option maxRecDepth 100000 in
set_option maxHeartbeats 8000000 in
theorem PySem.Challenge.cw_ti0004_01_holds : PySem.Challenge.rw_ti0004_01.Holds := by
  w_on
  o_law
  refine holds_openX (q := Mp.vw) (loose := []) (Xt := fun s => xlAt Mp.vw [] s && recOk PySem.Challenge.rw_ti0004_01.row.records s) (XP := XL Mp.vw []) (Yf := Mp.obs) (Ya := fun _ => (some true, 81, 306)) (N := 880) (d := Mp.lawD) (kwd := []) Mp.head_left (fun s e => xl_of s (Bool.and_eq_true_iff.mp e).1) XL.keeps Mp.head_def Mp.head_the Mp.head_kw (fun s e => recFacts_of (Bool.and_eq_true_iff.mp e).2) rfl (by assumption) Mp.head_ok Mp.head_bare ?hw ?hc
  case hw => w_witness2
  intro w s₀ s₁ mg mb G y fa o pm cd doc dV kV ho hd hcd hD hmg hg args vals as L hpre hlay hrd hwl hlo
  refine Ground.open G ?_
  intro T B D TE TW
  wrow_args hpre hlay hrd hwl hlo
  obtain ⟨hat, hsz⟩ := script_at L
  have ZN : s₀.heap.objs.size = 81 := congrArg (fun x => x.2.1) y
  have ZT : s₀.toks = 306 := congrArg (fun x => x.2.2) y
  have htk := script_toks L ZT
  rw [ZN] at hat hsz
  subst hat
  all_lens
  have H := Mp.hd_of T (Mp.head_booked y L.keeps T.nodigits) Mp.head_defs Mp.head_c1 Mp.head_c2 Mp.head_free
  refine wpAny_mono (Mp.Hd.law H (la := 81) hmg (script_obj L (by assumption)) (Mp.ints_vr (by assumption)) (by omega) (Mp.tok_ne htk)) (fun v s' h => Mp.good_true h (Mp.raises_none _) (Mp.post_true _) hg) (fun _ _ e => e)
