import PyProof.Rows.All
import Wide.All
import OpenK.AllK
import Wide.FinOn
import PySem.Challenge.RW_wf0096_01
set_option Elab.async false
section
set_option linter.unusedVariables false
namespace FS
open PySem PySem.Calls PySem.W PyProof.Rows

/-- what is known of a heap and never changes any more -/
noncomputable abbrev View := Addr → Option Obj
noncomputable def On (V : View) (h : Heap) : Prop := ∀ b o, V b = some o → h.get? b = some o
noncomputable def View.put (V : View) (a : Addr) (o : Obj) : View := fun b => if b = a then some o else V b

structure GrowK (k : View) (V V' : View) (h' : Heap) : Prop where
  keep : ∀ b o, k b = some o → h'.get? b = some o
  sub : ∀ b o, V b = some o → V' b = some o
  on : On V' h'
  new : ∀ b o, V' b = some o → V b = some o ∨ k b = none
noncomputable abbrev Grow (h : Heap) (V V' : View) (h' : Heap) : Prop := GrowK h.get? V V' h'

theorem Grow.refl {h : Heap} {V : View} (on : On V h) : Grow h V V h := ⟨fun _ _ e => e, fun _ _ e => e, on, fun _ _ e => .inl e⟩
theorem GrowK.trans {h : View} {h1 h2 : Heap} {V V1 V2 : View} (a : GrowK h V V1 h1) (b : Grow h1 V1 V2 h2) : GrowK h V V2 h2 :=
  ⟨fun x o e => b.keep x o (a.keep x o e), fun x o e => b.sub x o (a.sub x o e), b.on, fun x o e => by
    rcases b.new x o e with q | q
    · exact a.new x o q
    · refine .inr ?_
      cases z : h x with
      | none => rfl
      | some o' => rw [a.keep x o' z] at q; cases q⟩
theorem Grow.trans {h h1 h2 : Heap} {V V1 V2 : View} (a : Grow h V V1 h1) (b : Grow h1 V1 V2 h2) : Grow h V V2 h2 := GrowK.trans a b
/-- one run behind another, where the first run's ground is kept -/
theorem GrowK.behind {k k' : View} {h1 h2 : Heap} {V V1 V2 : View} (a : GrowK k V V1 h1) (b : GrowK k' V1 V2 h2) (hk : ∀ b o, k b = some o → k' b = some o) : GrowK k V V2 h2 :=
  ⟨fun x o e => b.keep x o (hk x o e), fun x o e => b.sub x o (a.sub x o e), b.on, fun x o e => by
    rcases b.new x o e with q | q
    · exact a.new x o q
    · refine .inr ?_
      cases z : k x with
      | none => rfl
      | some o' => rw [hk x o' z] at q; cases q⟩
/-- a fresh object is known from now on -/
theorem GrowK.freeze {k V V' : View} {h : Heap} {a : Addr} {o : Obj} (g : GrowK k V V' h) (e : h.get? a = some o) (hn : k a = none) (hV : V' a = none) : GrowK k V (V'.put a o) h :=
  ⟨g.keep, fun b o' q => by
    unfold View.put
    by_cases hb : b = a
    · subst hb; rw [g.sub b o' q] at hV; cases hV
    · rw [if_neg hb]; exact g.sub b o' q, fun b o' q => by
    unfold View.put at q
    by_cases hb : b = a
    · rw [if_pos hb] at q; cases q; subst hb; exact e
    · rw [if_neg hb] at q; exact g.on b o' q, fun b o' q => by
    unfold View.put at q
    by_cases hb : b = a
    · subst hb; exact .inr hn
    · rw [if_neg hb] at q; exact g.new b o' q⟩
theorem On.mono {V : View} {h h' : Heap} (on : On V h) (k : ∀ b o, h.get? b = some o → h'.get? b = some o) : On V h' := fun b o e => k b o (on b o e)
theorem Grow.skip {h h' : Heap} {V : View} (on : On V h) (k : ∀ b o, h.get? b = some o → h'.get? b = some o) : Grow h V V h' :=
  ⟨k, fun _ _ e => e, on.mono k, fun _ _ e => .inl e⟩
theorem On.lt {V : View} {h : Heap} (on : On V h) {b : Addr} {o : Obj} (e : V b = some o) : b < h.objs.size := Heap.lt_size (on b o e)
theorem none_ge {h : Heap} : ∀ b, h.objs.size ≤ b → h.get? b = none := fun b hb => by
  cases q : h.get? b with
  | none => rfl
  | some o => exact absurd (Heap.lt_size q) (Nat.not_lt.mpr hb)
theorem On.none {V : View} {h : Heap} (on : On V h) {b : Addr} (e : h.get? b = none) : V b = none := by
  cases q : V b with
  | none => rfl
  | some o => rw [on b o q] at e; cases e
theorem Grow.push {h : Heap} {V : View} (on : On V h) (o : Obj) (hf : o.isFreed = false := by rfl) : Grow h V (V.put h.objs.size o) (h.push o) where
  keep := fun b o' e => Heap.get?_push_of_some _ e
  sub := fun b o' e => by
    unfold View.put
    rw [if_neg (Nat.ne_of_lt (on.lt e))]; exact e
  on := fun b o' e => by
    unfold View.put at e
    by_cases hb : b = h.objs.size
    · rw [if_pos hb] at e; cases e; subst hb; exact Heap.get?_push_size _ hf
    · rw [if_neg hb] at e; exact Heap.get?_push_of_some _ (on b o' e)
  new := fun b o' e => by
    unfold View.put at e
    by_cases hb : b = h.objs.size
    · exact .inr (none_ge _ (Nat.le_of_eq hb.symm))
    · rw [if_neg hb] at e; exact .inl e
theorem Grow.pushSkip {h : Heap} {V : View} (on : On V h) (o : Obj) : Grow h V V (h.push o) := .skip on (fun _ _ e => Heap.get?_push_of_some _ e)
/-- what is none of the view's and stood stays none of it -/
theorem Grow.out {h h' : Heap} {V V' : View} (g : Grow h V V' h') {b : Addr} {o : Obj} (hb : h.get? b = some o) (hV : V b = none) : V' b = none := by
  cases q : V' b with
  | none => rfl
  | some o' =>
    rcases g.new b o' q with e | e
    · rw [hV] at e; cases e
    · rw [hb] at e; cases e
theorem View.put_self (V : View) (a : Addr) (o : Obj) : V.put a o a = some o := by unfold View.put; rw [if_pos rfl]

noncomputable abbrev heldDict (l : Addr) (hs : Int) (t : Tok) (n : Nat) : Obj := { cls := .type "dict", data := .dict #[⟨hs, .str (Str.ofString "_headers") t, .ref l⟩] n }
noncomputable abbrev heldObj (dx : Addr) : Obj := { cls := .ref 249, dict := some dx, data := .plain }
/-- deep data -/
inductive D where
  | none
  | bool (b : Bool)
  | int (i : Int)
  | str (s : Str)
  | list (ds : List D)
  | tup (ds : List D)
  | rng (a b : Int)
  | val (v : Value)
  | held (l : Addr)

mutual
inductive Rd (V : View) : Value → D → Prop
  | none : Rd V .none .none
  | bool (b : Bool) : Rd V (.bool b) (.bool b)
  | int (i : Int) (t : Tok) : Rd V (.int i t) (.int i)
  | str (s : Str) (t : Tok) : Rd V (.str s t) (.str s)
  | val (v : Value) : Rd V v (.val v)
  | held {x dx l : Addr} {hs : Int} {t : Tok} {n : Nat} : V x = some (heldObj dx) → V dx = some (heldDict l hs t n) → Rd V (.ref x) (.held l)
  | rng {r : Addr} {a b : Int} {t u v : Tok} : V r = some { cls := .type "range", dict := none, data := .fields #[.int a t, .int b u, .int 1 v], slots := #[] } → Rd V (.ref r) (.rng a b)
  | list {a : Addr} {items : List Value} {n : Nat} {ds : List D} : V a = some { cls := .type "list", data := .seq items.toArray n } → RdL V items ds → Rd V (.ref a) (.list ds)
  | tup {a : Addr} {items : List Value} {n : Nat} {ds : List D} : V a = some { cls := .type "tuple", data := .seq items.toArray n } → RdL V items ds → Rd V (.ref a) (.tup ds)
inductive RdL (V : View) : List Value → List D → Prop
  | nil : RdL V [] []
  | cons {v : Value} {vs : List Value} {d : D} {ds : List D} : Rd V v d → RdL V vs ds → RdL V (v :: vs) (d :: ds)
end

mutual
theorem Rd.mono {V V' : View} (h : ∀ b o, V b = some o → V' b = some o) : ∀ {v : Value} {d : D}, Rd V v d → Rd V' v d
  | _, _, .none => .none
  | _, _, .bool b => .bool b
  | _, _, .int i t => .int i t
  | _, _, .str s t => .str s t
  | _, _, .val v => .val v
  | _, _, .held e e' => .held (h _ _ e) (h _ _ e')
  | _, _, .rng e => .rng (h _ _ e)
  | _, _, .list e r => .list (h _ _ e) (RdL.mono h r)
  | _, _, .tup e r => .tup (h _ _ e) (RdL.mono h r)
theorem RdL.mono {V V' : View} (h : ∀ b o, V b = some o → V' b = some o) : ∀ {vs : List Value} {ds : List D}, RdL V vs ds → RdL V' vs ds
  | _, _, .nil => .nil
  | _, _, .cons a r => .cons (Rd.mono h a) (RdL.mono h r)
end
theorem RdL.length {V : View} : ∀ {vs : List Value} {ds : List D}, RdL V vs ds → vs.length = ds.length
  | _, _, .nil => rfl
  | _, _, .cons _ r => congrArg (· + 1) r.length
theorem RdL.get {V : View} : ∀ {vs : List Value} {ds : List D}, RdL V vs ds → ∀ {i : Nat} {d : D}, ds[i]? = some d → ∃ v, vs[i]? = some v ∧ Rd V v d
  | _, _, .nil, _, _, h => by simp at h
  | _, _, .cons a r, 0, d, h => by simp at h; subst h; exact ⟨_, rfl, a⟩
  | _, _, .cons a r, i + 1, d, h => by simp at h; simpa using r.get h
theorem RdL.append {V : View} : ∀ {vs ws : List Value} {ds es : List D}, RdL V vs ds → RdL V ws es → RdL V (vs ++ ws) (ds ++ es)
  | _, _, _, _, .nil, r => r
  | _, _, _, _, .cons a q, r => .cons a (q.append r)
theorem RdL.one {V : View} {vs : List Value} {a : D} (r : RdL V vs [a]) : ∃ v, vs = [v] ∧ Rd V v a := by
  cases r with | cons r1 r => cases r; exact ⟨_, rfl, r1⟩
theorem RdL.two {V : View} {vs : List Value} {a b : D} (r : RdL V vs [a, b]) : ∃ v u, vs = [v, u] ∧ Rd V v a ∧ Rd V u b := by
  cases r with | cons r1 r => obtain ⟨u, rfl, r2⟩ := r.one; exact ⟨_, _, rfl, r1, r2⟩
theorem RdL.three {V : View} {vs : List Value} {a b c : D} (r : RdL V vs [a, b, c]) : ∃ v u x, vs = [v, u, x] ∧ Rd V v a ∧ Rd V u b ∧ Rd V x c := by
  cases r with | cons r1 r => obtain ⟨u, x, rfl, r2, r3⟩ := r.two; exact ⟨_, _, _, rfl, r1, r2, r3⟩
theorem RdL.four {V : View} {vs : List Value} {a b c e : D} (r : RdL V vs [a, b, c, e]) : ∃ v u x y, vs = [v, u, x, y] ∧ Rd V v a ∧ Rd V u b ∧ Rd V x c ∧ Rd V y e := by
  cases r with | cons r1 r => obtain ⟨u, x, y, rfl, r2, r3, r4⟩ := r.three; exact ⟨_, _, _, _, rfl, r1, r2, r3, r4⟩
theorem Rd.isList {V : View} {h : Heap} (on : On V h) {v : Value} {ds : List D} (r : Rd V v (.list ds)) : ∃ a items, v = .ref a ∧ h.IsList a items.toArray ∧ RdL V items ds := by
  cases r with
  | list e q => exact ⟨_, _, rfl, ⟨_, on _ _ e, rfl, _, rfl⟩, q⟩
theorem Rd.isTup {V : View} {h : Heap} (on : On V h) {v : Value} {ds : List D} (r : Rd V v (.tup ds)) : ∃ a items, v = .ref a ∧ IsTup h a items.toArray ∧ RdL V items ds := by
  cases r with
  | tup e q => exact ⟨_, _, rfl, ⟨_, on _ _ e, rfl, _, rfl⟩, q⟩

theorem Rd.isL {V : View} {h : Heap} (on : On V h) {v : Value} {ds : List D} (r : Rd V v (.list ds)) : ∃ a items n, v = .ref a ∧ h.get? a = some { cls := .type "list", data := .seq (items : List Value).toArray n } ∧ RdL V items ds := by
  cases r with
  | list e q => exact ⟨_, _, _, rfl, on _ _ e, q⟩
theorem Rd.isT {V : View} {h : Heap} (on : On V h) {v : Value} {ds : List D} (r : Rd V v (.tup ds)) : ∃ a items n, v = .ref a ∧ h.get? a = some { cls := .type "tuple", data := .seq (items : List Value).toArray n } ∧ RdL V items ds := by
  cases r with
  | tup e q => exact ⟨_, _, _, rfl, on _ _ e, q⟩

/-- the tree ends, without a raise, in a grown heap, with a value that reads as d -/
noncomputable def Ev (M : Model) (A : Around) (t : Sem Value) (V : View) (s : Shared) (d : D) : Prop :=
  ∀ (Q : Value → Shared → Prop) (E : Value → Shared → Prop), (∀ v V' h' tk, Grow s.heap V V' h' → Rd V' v d → Q v { s with heap := h', toks := tk }) → wpAny M A t Q E s
noncomputable def EvL (M : Model) (A : Around) (t : Sem (List Value)) (V : View) (s : Shared) (ds : List D) : Prop :=
  ∀ (Q : List Value → Shared → Prop) (E : Value → Shared → Prop), (∀ vs V' h' tk, Grow s.heap V V' h' → RdL V' vs ds → Q vs { s with heap := h', toks := tk }) → wpAny M A t Q E s
noncomputable def EvB (M : Model) (A : Around) (t : Sem Bool) (V : View) (s : Shared) (b : Bool) : Prop :=
  ∀ (Q : Bool → Shared → Prop) (E : Value → Shared → Prop), (∀ V' h' tk, Grow s.heap V V' h' → Q b { s with heap := h', toks := tk }) → wpAny M A t Q E s

/-- what holds on and on as the heap grows -/
noncomputable def Stable (I : View → Heap → Prop) : Prop := ∀ V V' h h', I V h → Grow h V V' h' → I V' h'
noncomputable def PE (M : Model) (A : Around) (I : View → Heap → Prop) (t : Sem Value) (d : D) : Prop := ∀ V s, On V s.heap → I V s.heap → Ev M A t V s d
noncomputable def PL (M : Model) (A : Around) (I : View → Heap → Prop) (t : Sem (List Value)) (ds : List D) : Prop := ∀ V s, On V s.heap → I V s.heap → EvL M A t V s ds
noncomputable def PB (M : Model) (A : Around) (I : View → Heap → Prop) (t : Sem Bool) (b : Bool) : Prop := ∀ V s, On V s.heap → I V s.heap → EvB M A t V s b

section
variable {M : Model} {A : Around} {I : View → Heap → Prop} {env : Env} {d d1 d2 : D}

theorem PE.cInt {i : Int} {k : Nat} {pos : Pos} : PE M A I (eval (.Constant (.int i) k pos) env) (.int i) :=
  fun V s on _ Q E h => wpAny_Constant_int (h _ V s.heap _ (.refl on) (.int _ _))
theorem PE.cStr {x : Str} {k : Nat} {pos : Pos} : PE M A I (eval (.Constant (.str x) k pos) env) (.str x) :=
  fun V s on _ Q E h => wpAny_Constant_str (h _ V s.heap _ (.refl on) (.str _ _))
theorem PE.cNone {k : Nat} {pos : Pos} : PE M A I (eval (.Constant .none k pos) env) .none :=
  fun V s on _ Q E h => wpAny_Constant_none (h _ V s.heap s.toks (.refl on) .none)
theorem PE.cBool {b : Bool} {k : Nat} {pos : Pos} : PE M A I (eval (.Constant (.bool b) k pos) env) (.bool b) :=
  fun V s on _ Q E h => wpAny_Constant_bool (h _ V s.heap s.toks (.refl on) (.bool b))

/-- an operation on two values -/
noncomputable def Op2 (M : Model) (A : Around) (I : View → Heap → Prop) (f : Value → Value → Sem Value) (d1 d2 d : D) : Prop :=
  ∀ V s, On V s.heap → I V s.heap → ∀ v1 v2, Rd V v1 d1 → Rd V v2 d2 → Ev M A (f v1 v2) V s d
noncomputable def Op1 (M : Model) (A : Around) (I : View → Heap → Prop) (f : Value → Sem Value) (d1 d : D) : Prop :=
  ∀ V s, On V s.heap → I V s.heap → ∀ v1, Rd V v1 d1 → Ev M A (f v1) V s d

theorem PE.binop {l r : Expr} {op : Operator} {pos : Pos} (st : Stable I) (h1 : PE M A I (eval l env) d1) (h2 : PE M A I (eval r env) d2) (h : Op2 M A I (binaryOp op) d1 d2 d) : PE M A I (eval (.BinOp l op r pos) env) d :=
  fun V s on i Q E k => wpAny_BinOp (h1 V s on i _ E fun v1 V1 s1 t1 g1 r1 => h2 V1 _ g1.on (st _ _ _ _ i g1) _ E fun v2 V2 s2 t2 g2 r2 =>
    h V2 _ g2.on (st _ _ _ _ (st _ _ _ _ i g1) g2) v1 v2 (r1.mono g2.sub) r2 _ E fun v V3 s3 t3 g3 r3 => k v V3 s3 t3 ((g1.trans g2).trans g3) r3)
theorem PE.compare {l r : Expr} {op : CmpOp} {pos : Pos} (st : Stable I) (h1 : PE M A I (eval l env) d1) (h2 : PE M A I (eval r env) d2) (h : Op2 M A I (compareOp op) d1 d2 d) (hm : behindInMarks op r = false := by with_unfolding_all rfl) :
    PE M A I (eval (.Compare l [op] [r] pos) env) d :=
  fun V s on i Q E k => wpAny_Compare1 (h1 V s on i _ E fun v1 V1 s1 t1 g1 r1 => h2 V1 _ g1.on (st _ _ _ _ i g1) _ E fun v2 V2 s2 t2 g2 r2 =>
    h V2 _ g2.on (st _ _ _ _ (st _ _ _ _ i g1) g2) v1 v2 (r1.mono g2.sub) r2 _ E fun v V3 s3 t3 g3 r3 => k v V3 s3 t3 ((g1.trans g2).trans g3) r3) hm
theorem PB.compare {l r : Expr} {op : CmpOp} {pos : Pos} {whole : Sem Value} {b : Bool} (st : Stable I) (h1 : PE M A I (eval l env) d1) (h2 : PE M A I (eval r env) d2) (h : Op2 M A I (compareOp op) d1 d2 (.bool b)) (hm : behindInMarks op r = false := by with_unfolding_all rfl) :
    PB M A I (isTrue (.Compare l [op] [r] pos) env whole) b :=
  fun V s on i Q E k => wpAny_isTrue_Compare1 (h1 V s on i _ E fun v1 V1 s1 t1 g1 r1 => h2 V1 _ g1.on (st _ _ _ _ i g1) _ E fun v2 V2 s2 t2 g2 r2 =>
    h V2 _ g2.on (st _ _ _ _ (st _ _ _ _ i g1) g2) v1 v2 (r1.mono g2.sub) r2 _ E fun v V3 s3 t3 g3 r3 => by
      cases r3; exact wpAny_truthy_bool (k V3 s3 t3 ((g1.trans g2).trans g3))) hm
theorem PE.ifExp {t a b : Expr} {pos : Pos} {c : Bool} (st : Stable I) (h1 : PB M A I (isTrue t env (eval t env)) c) (h2 : c = true → PE M A I (eval a env) d) (h3 : c = false → PE M A I (eval b env) d) : PE M A I (eval (.IfExp t a b pos) env) d :=
  fun V s on i Q E k => wpAny_IfExp (h1 V s on i _ E fun V1 s1 t1 g1 => by
    cases c with
    | true => exact h2 rfl V1 _ g1.on (st _ _ _ _ i g1) Q E fun v V2 s2 t2 g2 r2 => k v V2 s2 t2 (g1.trans g2) r2
    | false => exact h3 rfl V1 _ g1.on (st _ _ _ _ i g1) Q E fun v V2 s2 t2 g2 r2 => k v V2 s2 t2 (g1.trans g2) r2)

-- lists of arguments
theorem PL.nil {pos : Pos} : PL M A I (spliced (backTo pos (starEach [] env))) [] :=
  fun V s on _ Q E h => spliced_none (h [] V s.heap s.toks (.refl on) .nil)
theorem PL.cons {pos : Pos} {e : Expr} {rest : List Expr} {ds : List D} (st : Stable I) (h1 : PE M A I (eval e env) d) (h2 : PL M A I (spliced (backTo pos (starEach rest env))) ds)
    (he : starEach (e :: rest) env = (false, eval e env) :: starEach rest env := by rfl) : PL M A I (spliced (backTo pos (starEach (e :: rest) env))) (d :: ds) := fun V s on i Q E k => by
  refine spliced_more ?_ he
  exact h1 V s on i _ E fun v V1 s1 t1 g1 r1 => h2 V1 _ g1.on (st _ _ _ _ i g1) _ E fun vs V2 s2 t2 g2 r2 => k (v :: vs) V2 s2 t2 (g1.trans g2) (.cons (r1.mono g2.sub) r2)

theorem PE.dList {elts : List Expr} {pos : Pos} {ds : List D} (h : PL M A I (spliced (backTo pos (starEach elts env))) ds) (hs : ds.length ≤ 1000 := by decide) : PE M A I (eval (.List elts pos) env) (.list ds) :=
  fun V s on i Q E k => wpAny_List (h V s on i _ E fun vs V1 s1 t1 g1 r1 => ⟨by rw [r1.length, sizeLine_eq]; omega,
    k _ _ _ _ (g1.trans (.push g1.on _)) (.list (View.put_self ..) (r1.mono (Grow.push g1.on _).sub))⟩)
theorem PE.dTup {elts : List Expr} {k : Nat} {pos : Pos} {ds : List D} (h : PL M A I (spliced (backTo pos (starEach elts env))) ds) (hs : ds.length ≤ 1000 := by decide) : PE M A I (eval (.Tuple elts k pos) env) (.tup ds) :=
  fun V s on i Q E k => wpAny_Tuple (h V s on i _ E fun vs V1 s1 t1 g1 r1 => ⟨by rw [r1.length, sizeLine_eq]; omega,
    k _ _ _ _ (g1.trans (.push g1.on _)) (.tup (View.put_self ..) (r1.mono (Grow.push g1.on _).sub))⟩)
end
end FS
end
section
set_option linter.unusedVariables false
namespace FS
open PySem PySem.Calls PySem.W PyProof.Rows

/-- where a name's value lies -/
noncomputable def AtN (env : Env) (h : Heap) (x : Str) (v : Value) : Prop :=
  (env.kindOf x = some .local ∧ ∃ m, h.Ns env.locals m ∧ m x = some v) ∨
  ((env.kindOf x = some .cell ∨ env.kindOf x = some .free) ∧ ∃ c, env.cells.lookup x = some c ∧ h.IsCell c (some v))
theorem AtN.keeps {env : Env} {h h' : Heap} {x : Str} {v : Value} (a : AtN env h x v) (k : ∀ b o, h.get? b = some o → h'.get? b = some o) : AtN env h' x v := by
  rcases a with ⟨e, m, n, q⟩ | ⟨e, c, l, q⟩
  · exact .inl ⟨e, m, n.keeps k, q⟩
  · exact .inr ⟨e, c, l, q.keeps k⟩
noncomputable abbrev Vars := List (Str × D)
noncomputable def Fm (env : Env) (ρ : Vars) (V : View) (h : Heap) : Prop := ∀ p ∈ ρ, ∃ v, AtN env h p.1 v ∧ Rd V v p.2
theorem Fm.grow {env : Env} {ρ : Vars} {V V' : View} {h h' : Heap} (f : Fm env ρ V h) (g : Grow h V V' h') : Fm env ρ V' h' := fun p hp =>
  let ⟨v, a, r⟩ := f p hp; ⟨v, a.keeps g.keep, r.mono g.sub⟩

/-- the text's own ground: the heap when the law is called, its namespaces -/
structure Gd where
  h₁ : Heap
  mg : Str → Option Value
  mb : Str → Option Value
  g : h₁.Ns mainGlobals mg
  b : h₁.Ns builtinsNs mb
  nolim : h₁.NoLimit

/-- a list that is still being changed -/
noncomputable def MutL (V : View) (h : Heap) (l : Addr) (ds : List D) : Prop := ∃ items : List Value, h.PlainList l items.toArray ∧ RdL V items ds ∧ V l = none
theorem MutL.grow {V V' : View} {h h' : Heap} {l : Addr} {ds : List D} (m : MutL V h l ds) (g : Grow h V V' h') : MutL V' h' l ds := by
  obtain ⟨items, a, r, n⟩ := m
  refine ⟨items, a.at fun o e => g.keep _ _ e, r.mono g.sub, ?_⟩
  obtain ⟨o, ho⟩ := a
  exact g.out ho n

/-- what a statement's expressions may lean on -/
structure Cx (G : Gd) (env : Env) (ρ : Vars) (μ : List (Addr × List D)) (V : View) (h : Heap) : Prop where
  base : ∀ b o, G.h₁.get? b = some o → V b = some o
  fm : Fm env ρ V h
  mu : ∀ p ∈ μ, MutL V h p.1 p.2
theorem Cx.stable {G : Gd} {env : Env} {ρ : Vars} {μ : List (Addr × List D)} : Stable (Cx G env ρ μ) := fun _ _ _ _ c g =>
  ⟨fun b o e => g.sub _ _ (c.base b o e), c.fm.grow g, fun p hp => (c.mu p hp).grow g⟩
theorem Cx.old {G : Gd} {env : Env} {ρ : Vars} {μ : List (Addr × List D)} {V : View} {h : Heap} (c : Cx G env ρ μ V h) (on : On V h) : ∀ b o, G.h₁.get? b = some o → h.get? b = some o := fun b o e => on b o (c.base b o e)

section
variable {prog : Program} {w : World} {A : Around} {G : Gd} {env : Env} {ρ : Vars} {μ : List (Addr × List D)} {d : D}

theorem loadAt {x : Str} {v : Value} {s : Shared} {Q : Value → Shared → Prop} {E : Value → Shared → Prop} {M : Model} (hk : env.scope.kind = .function) (a : AtN env s.heap x v) (h : Q v s) (hc : (x == ("__classdict__" : Str)) = false) : wpAny M A (loadName env x) Q E s := by
  rcases a with ⟨e, m, n, q⟩ | ⟨e | e, c, l, q⟩
  · exact wpAny_loadName_local hk e n q h
  · exact wpAny_loadName_cell hk e l q h
  · exact wpAny_loadName_free hk e l q h hc

theorem PE.name {x : Str} {pos : Pos} {M : Model} (hk : env.scope.kind = .function) (hm : (x, d) ∈ ρ) (hd : (x == ("__debug__" : Str)) = false := by decide) (hc : (x == ("__classdict__" : Str)) = false := by decide) :
    PE M A (Cx G env ρ μ) (eval (.Name x pos) env) d := fun V s on c Q E k => by
  obtain ⟨v, a, r⟩ := c.fm _ hm
  exact wpAny_Name (loadAt hk a (k v V s.heap s.toks (.refl on) r) hc) hd

theorem PE.glob {x : Str} {pos : Pos} {M : Model} {v : Value} (hk : env.scope.kind = .function) (hx : env.kindOf x = some .globalImplicit) (hg : env.globals = mainGlobals) (hv : G.mg x = some v) (hd : (x == ("__debug__" : Str)) = false := by decide) :
    PE M A (Cx G env ρ μ) (eval (.Name x pos) env) (.val v) := fun V s on c Q E k =>
  Name_function_global hk hx (loadGlobal_global (by rw [hg]; exact G.g.keeps (c.old on)) hv (k v V s.heap s.toks (.refl on) (.val v))) hd
theorem PE.blt {x : Str} {pos : Pos} {M : Model} {v : Value} (hk : env.scope.kind = .function) (hx : env.kindOf x = some .globalImplicit) (hg : env.globals = mainGlobals) (hb : env.builtins = builtinsNs) (hn : G.mg x = none) (hv : G.mb x = some v) (hd : (x == ("__debug__" : Str)) = false := by decide) :
    PE M A (Cx G env ρ μ) (eval (.Name x pos) env) (.val v) := fun V s on c Q E k =>
  Name_function_global hk hx (loadGlobal_builtin (by rw [hg]; exact G.g.keeps (c.old on)) hn (by rw [hb]; exact G.b.keeps (c.old on)) hv (k v V s.heap s.toks (.refl on) (.val v))) hd

/-- a call: the function's value, the arguments, the call itself -/
noncomputable def OpN (M : Model) (A : Around) (I : View → Heap → Prop) (f : Value) (first : List Value) (ds : List D) (d : D) : Prop :=
  ∀ V s, On V s.heap → I V s.heap → ∀ vs, RdL V vs ds → Ev M A (call f (first ++ vs)) V s d
/-- the call's road -/
noncomputable def Keeps1 (M : Model) (f : Value) (h : Heap) : Prop := ∃ k, (k = Keeper.frame ∨ k = Keeper.machine ∨ k = Keeper.boundFrame) ∧ Looks M h (keeperOf f) k
theorem keeps_builtin {M : Model} {id : String} {h : Heap} : Keeps1 M (.builtin id) h := ⟨.machine, .inr (.inl rfl), Looks.of_pure rfl⟩
theorem keeps_type {M : Model} {id : String} {h : Heap} : Keeps1 M (.type id) h := ⟨.machine, .inr (.inl rfl), Looks.of_pure rfl⟩
theorem keeps_fn {M : Model} {a : Addr} {h : Heap} {o : Obj} {fd : FuncData} (e : h.get? a = some o) (hd : o.data = .func fd) : Keeps1 M (.ref a) h := by
  obtain ⟨c, dd, dt, sl⟩ := o
  dsimp only at hd
  subst hd
  exact ⟨.frame, .inl rfl, (Looks.ld (part := none) e).andThen .now⟩
theorem callWith_go {M : Model} {I : View → Heap → Prop} {f : Value} {first : List Value} {e : Expr} {rest : List Expr} {pos : Pos} {ds : List D} (st : Stable I) (hk : ∀ V h, On V h → I V h → Keeps1 M f h) (h2 : PL M A I (spliced (backTo pos (starEach (e :: rest) env))) ds)
    (h : OpN M A I f first ds d) (hpl : ((backTo pos (starEach (e :: rest) env)).any (·.1)) = false := by rfl) (he : starEach (e :: rest) env = (false, eval e env) :: starEach rest env := by rfl) :
    ∀ V s, On V s.heap → I V s.heap → Ev M A (callWith pos f first (backTo pos (starEach (e :: rest) env)) []) V s d := fun V s on i Q E k => by
  refine callWith_of (P := fun h => Keeps1 M f h) (by rw [hpl]; rfl) (fun h x => x) ?_
  have go : wpAny M A (spliced (backTo pos (starEach (e :: rest) env))) (fun vs s₁ => Keeps1 M f s₁.heap ∧ wpAny M A (call f (first ++ vs)) Q E s₁) E s :=
    h2 V s on i _ E fun vs V1 s1 t1 g1 r1 => ⟨hk V1 _ g1.on (st _ _ _ _ i g1), h V1 _ g1.on (st _ _ _ _ i g1) vs r1 Q E fun v V2 s2 t2 g2 r2 => k v V2 s2 t2 (g1.trans g2) r2⟩
  rw [he] at go ⊢
  exact evalArgs_plain go
theorem callWith_go0 {M : Model} {I : View → Heap → Prop} {f : Value} {first : List Value} {pos : Pos} (hk : ∀ V h, On V h → I V h → Keeps1 M f h)
    (h : OpN M A I f first [] d) : ∀ V s, On V s.heap → I V s.heap → Ev M A (callWith pos f first (backTo pos (starEach [] env)) []) V s d := fun V s on i Q E k =>
  callWith_of (P := fun h => Keeps1 M f h) rfl (fun h x => x) (evalArgs_nil3 ⟨hk V _ on i, h V s on i [] .nil Q E k⟩)
theorem PE.call {M : Model} {I : View → Heap → Prop} {x : Str} {np pos : Pos} {f : Value} {e : Expr} {rest : List Expr} {ds : List D} (st : Stable I) (hf : PE M A I (eval (.Name x np) env) (.val f)) (hk : ∀ V h, On V h → I V h → Keeps1 M f h)
    (h2 : PL M A I (spliced (backTo pos (starEach (e :: rest) env))) ds) (h : OpN M A I f [] ds d) (hpl : ((backTo pos (starEach (e :: rest) env)).any (·.1)) = false := by rfl) (he : starEach (e :: rest) env = (false, eval e env) :: starEach rest env := by rfl) :
    PE M A I (eval (.Call (.Name x np) (e :: rest) [] pos) env) d := fun V s on i Q E k =>
  wpAny_Call_NameR (hf V s on i _ E fun v V1 s1 t1 g1 r1 => by
    have : v = f := by cases r1; rfl
    subst this
    exact callWith_go st hk h2 h hpl he V1 _ g1.on (st _ _ _ _ i g1) Q E fun v V2 s2 t2 g2 r2 => k v V2 s2 t2 (g1.trans g2) r2)
theorem PE.call0 {M : Model} {I : View → Heap → Prop} {x : Str} {np pos : Pos} {f : Value} (st : Stable I) (hf : PE M A I (eval (.Name x np) env) (.val f)) (hk : ∀ V h, On V h → I V h → Keeps1 M f h)
    (h : OpN M A I f [] [] d) : PE M A I (eval (.Call (.Name x np) [] [] pos) env) d := fun V s on i Q E k =>
  wpAny_Call_NameR (hf V s on i _ E fun v V1 s1 t1 g1 r1 => by
    have : v = f := by cases r1; rfl
    subst this
    exact callWith_go0 hk h V1 _ g1.on (st _ _ _ _ i g1) Q E fun v V2 s2 t2 g2 r2 => k v V2 s2 t2 (g1.trans g2) r2)
end
end FS
end
section
set_option linter.unusedVariables false
namespace FS
open PySem PySem.Calls PySem.W PyProof.Rows

noncomputable abbrev Asn := View → Shared → Prop
/-- a run of statements: from P it goes on with N or hands back by R -/
noncomputable def Tr (M : Model) (A : Around) (P : Asn) (t : Sem Flow) (N : Asn) (R : Value → Asn) : Prop :=
  ∀ V s, P V s → ∀ (Q : Flow → Shared → Prop) (E : Value → Shared → Prop), (∀ V' s', N V' s' → Q .next s') → (∀ v V' s', R v V' s' → Q (.ret v) s') → wpAny M A t Q E s
section
variable {M : Model} {A : Around} {env : Env} {P N N' : Asn} {R : Value → Asn}
theorem Tr.nil (h : ∀ V s, P V s → N V s) : Tr M A P (execs [] env) N R := fun V s p Q E n r => wpAny_execs_nil (n V s (h V s p))
theorem Tr.cons {st : Stmt} {rest : List Stmt} (h1 : Tr M A P (exec st env) N R) (h2 : Tr M A N (execs rest env) N' R) : Tr M A P (execs (st :: rest) env) N' R :=
  fun V s p Q E n r => wpAny_execs_cons (h1 V s p _ E (fun V' s' n' => h2 V' s' n' Q E n r) fun v V' s' r' => r v V' s' r')
theorem Tr.last {st : Stmt} (h1 : Tr M A P (exec st env) N R) : Tr M A P (execs [st] env) N R := .cons h1 (.nil fun _ _ n => n)
theorem Tr.pre {P' : Asn} {t : Sem Flow} (h : Tr M A P t N R) (i : ∀ V s, P' V s → P V s) : Tr M A P' t N R := fun V s p => h V s (i V s p)
theorem Tr.post {t : Sem Flow} (h : Tr M A P t N R) (i : ∀ V s, N V s → N' V s) : Tr M A P t N' R := fun V s p Q E n r => h V s p Q E (fun V' s' x => n V' s' (i V' s' x)) r
theorem Tr.if_ {I : View → Heap → Prop} {c : Bool} {test : Expr} {a b : List Stmt} {pos : Pos} (hp : ∀ V s, P V s → On V s.heap ∧ I V s.heap) (gp : ∀ V s V' h' tk, P V s → Grow s.heap V V' h' → P V' { s with heap := h', toks := tk })
    (h : PB M A I (isTrue test env (eval test env)) c) (h1 : c = true → Tr M A P (execs a env) N R) (h2 : c = false → Tr M A P (execs b env) N R) : Tr M A P (exec (.If test a b pos) env) N R := fun V s p Q E n r =>
  wpAny_If (h V s (hp V s p).1 (hp V s p).2 _ E fun V' h' tk g => by
    cases c with
    | true => exact h1 rfl V' _ (gp _ _ _ _ _ p g) Q E n r
    | false => exact h2 rfl V' _ (gp _ _ _ _ _ p g) Q E n r)
theorem Tr.ret {I : View → Heap → Prop} {e : Expr} {pos : Pos} {d : D} (hp : ∀ V s, P V s → On V s.heap ∧ I V s.heap) (gp : ∀ V s V' h' tk, P V s → Grow s.heap V V' h' → P V' { s with heap := h', toks := tk })
    (h : PE M A I (eval e env) d) (hr : ∀ V s v, P V s → Rd V v d → R v V s) : Tr M A P (exec (.Return (some e) pos) env) N R := fun V s p Q E n r =>
  wpAny_Return_some (h V s (hp V s p).1 (hp V s p).2 _ E fun v V' h' tk g rd => r v V' _ (hr _ _ _ (gp _ _ _ _ _ p g) rd))
end

/-- the ground of a function's statements. he, V0, s0: what stood when it was entered -/
structure Sa (G : Gd) (env : Env) (he : View) (V0 : View) (s0 : Shared) (ρ : Vars) (μ : List (Addr × List D)) (V : View) (s : Shared) : Prop where
  on : On V s.heap
  cx : Cx G env ρ μ V s.heap
  gr : GrowK he V0 V s.heap
  rest : s = { s0 with heap := s.heap, toks := s.toks }
  loc : V env.locals = none ∧ he env.locals = none
  locNs : ∃ m, s.heap.Ns env.locals m
  cel : ∀ x c, env.cells.lookup x = some c → V c = none ∧ he c = none ∧ ∃ v, s.heap.IsCell c v
  apart : env.cells.Pairwise fun x y => x.2 ≠ y.2
  muOwn : ∀ p ∈ μ, he p.1 = none
  muApart : μ.Pairwise fun x y => x.1 ≠ y.1
theorem Sa.grow {G : Gd} {env : Env} {he : View} {V0 : View} {s0 : Shared} {ρ : Vars} {μ : List (Addr × List D)} {V V' : View} {s : Shared} {h' : Heap} {tk : Nat} (p : Sa G env he V0 s0 ρ μ V s) (g : Grow s.heap V V' h') :
    Sa G env he V0 s0 ρ μ V' { s with heap := h', toks := tk } where
  on := g.on
  cx := p.cx.stable _ _ _ _ g
  gr := p.gr.trans g
  rest := by rw [p.rest]
  loc := by
    refine ⟨?_, p.loc.2⟩
    obtain ⟨m, o, es, ep, ho, _⟩ := p.locNs
    exact g.out ho p.loc.1
  locNs := let ⟨m, n⟩ := p.locNs; ⟨m, n.keeps g.keep⟩
  cel := fun x q hq => by
    obtain ⟨a, b, v, c⟩ := p.cel x q hq
    refine ⟨?_, b, v, c.keeps g.keep⟩
    obtain ⟨o, ho, _⟩ := c
    exact g.out ho a
  apart := p.apart
  muOwn := p.muOwn
  muApart := p.muApart
theorem Sa.parts {G : Gd} {env : Env} {he : View} {V0 : View} {s0 : Shared} {ρ : Vars} {μ : List (Addr × List D)} (V : View) (s : Shared) (p : Sa G env he V0 s0 ρ μ V s) : On V s.heap ∧ Cx G env ρ μ V s.heap := ⟨p.on, p.cx⟩
/-- the names but x -/
inductive Sub (x : Str) : Vars → Vars → Prop
  | nil : Sub x [] []
  | same {e : D} {ρ ρ' : Vars} : Sub x ρ ρ' → Sub x ((x, e) :: ρ) ρ'
  | cons {p : Str × D} {ρ ρ' : Vars} : p.1 ≠ x → Sub x ρ ρ' → Sub x (p :: ρ) (p :: ρ')
theorem Sub.mem {x : Str} {ρ ρ' : Vars} (h : Sub x ρ ρ') : ∀ p ∈ ρ', p.1 ≠ x ∧ p ∈ ρ := by
  induction h with
  | nil => intro p hp; cases hp
  | same _ ih => exact fun p hp => ⟨(ih p hp).1, .tail _ (ih p hp).2⟩
  | cons hn _ ih =>
    intro p hp
    cases hp with
    | head => exact ⟨hn, .head _⟩
    | tail _ hp => exact ⟨(ih p hp).1, .tail _ (ih p hp).2⟩
/-- one object that is none of the view's is changed -/
theorem GrowK.change {he : View} {h h' : Heap} {V0 V : View} {a : Addr} (g : GrowK he V0 V h) (hs : Heap.ExtBut a h h') (hn : he a = none) (hV : V a = none) : GrowK he V0 V h' where
  keep := fun b o e => hs b o (fun q => by subst q; rw [hn] at e; cases e) (g.keep b o e)
  sub := g.sub
  on := fun b o e => hs b o (fun q => by subst q; rw [hV] at e; cases e) (g.on b o e)
  new := g.new
theorem MutL.change {V : View} {h h' : Heap} {l a : Addr} {ds : List D} (m : MutL V h l ds) (hs : Heap.ExtBut a h h') (hn : l ≠ a) : MutL V h' l ds := by
  obtain ⟨items, ⟨o, ho⟩, q⟩ := m
  exact ⟨items, ⟨o, hs l _ hn ho⟩, q⟩
theorem cell_extBut {h h' : Heap} {c a : Addr} {v : Option Value} (x : h.IsCell c v) (hs : Heap.ExtBut a h h') (hn : c ≠ a) : h'.IsCell c v := let ⟨o, ho, hd⟩ := x; ⟨o, hs c o hn ho, hd⟩
theorem MutL.ne_ns {V : View} {h : Heap} {l a : Addr} {ds : List D} {m : Str → Option Value} (x : MutL V h l ds) (n : h.Ns a m) : l ≠ a := by
  rintro rfl
  obtain ⟨items, ⟨k, ho⟩, _⟩ := x
  obtain ⟨o', es, ep, ho', hd', _⟩ := n
  rw [ho] at ho'; cases ho'
  cases hd'
theorem MutL.ne_cell {V : View} {h : Heap} {l a : Addr} {ds : List D} {v : Option Value} (x : MutL V h l ds) (n : h.IsCell a v) : l ≠ a := by
  rintro rfl
  obtain ⟨items, ⟨k, ho⟩, _⟩ := x
  obtain ⟨o', ho', hd'⟩ := n
  rw [ho] at ho'; cases ho'
  cases hd'
theorem cell_ne_ns {h : Heap} {c a : Addr} {v : Option Value} {m : Str → Option Value} (x : h.IsCell c v) (n : h.Ns a m) : c ≠ a := by
  rintro rfl
  obtain ⟨o, ho, hd⟩ := x
  obtain ⟨o', es, ep, ho', hd', _⟩ := n
  rw [ho] at ho'; cases ho'
  rw [hd] at hd'; cases hd'

section
variable {M : Model} {A : Around} {G : Gd} {env : Env} {he : View} {V0 : View} {s0 : Shared} {ρ ρ' : Vars} {μ : List (Addr × List D)} {d : D}

/-- a name is stored -/
theorem Sa.store {V : View} {s : Shared} {x : Str} {v : Value} (p : Sa G env he V0 s0 ρ μ V s) (hk : env.scope.kind = .function) (hx : env.kindOf x = some .local ∨ (env.kindOf x = some .cell ∧ (env.cells.lookup x).isSome = true)) (hv : Rd V v d) (hs : Sub x ρ ρ')
    {Q : Unit → Shared → Prop} {E : Value → Shared → Prop} (h : ∀ h' tk, Sa G env he V0 s0 ((x, d) :: ρ') μ V { s with heap := h', toks := tk } → (∀ b o, b ≠ env.locals → (∀ y c, env.cells.lookup y = some c → b ≠ c) → s.heap.get? b = some o → h'.get? b = some o) → Q () { s with heap := h', toks := tk }) : wpAny M A (storeName env x v) Q E s := by
  obtain ⟨m, n⟩ := p.locNs
  rcases hx with hx | ⟨hx, hc⟩
  · refine wpAny_storeName_local hx n (fun h' n' sb => h h' _ ?_ fun b o hb _ e => sb.extBut b o hb e) (by rw [hk]; rfl)
    have g' := p.gr.change sb.extBut p.loc.2 p.loc.1
    exact
      { on := g'.on
        cx := ⟨p.cx.base, fun q hq => by
            cases hq with
            | head => exact ⟨v, .inl ⟨hx, _, n', by simp⟩, hv⟩
            | tail _ hq =>
              obtain ⟨hne, hq⟩ := hs.mem q hq
              obtain ⟨u, a, r⟩ := p.cx.fm q hq
              refine ⟨u, ?_, r⟩
              rcases a with ⟨e, m1, n1, q1⟩ | ⟨e, c, l, q1⟩
              · exact .inl ⟨e, _, n', by simp only [if_neg hne]; rw [n.agree n1]; exact q1⟩
              · exact .inr ⟨e, c, l, q1.sameBut sb (cell_ne_ns q1 n)⟩,
          fun q hq => (p.cx.mu q hq).change sb.extBut ((p.cx.mu q hq).ne_ns n)⟩
        gr := g'
        rest := by rw [p.rest]
        loc := p.loc
        locNs := ⟨_, n'⟩
        cel := fun y q hq => by
          obtain ⟨a, b, u, c⟩ := p.cel y q hq
          exact ⟨a, b, u, c.sameBut sb (cell_ne_ns c n)⟩
        apart := p.apart
        muOwn := p.muOwn
        muApart := p.muApart }
  · obtain ⟨c, hc⟩ := Option.isSome_iff_exists.mp hc
    have hm := mem_of_lookup hc
    obtain ⟨a, b, u, ic⟩ := p.cel _ _ hc
    refine wpAny_storeName_cell hk hx hc ic fun h' ic' sb => h h' s.toks ?_ fun b o _ hb e => sb.extBut b o (hb _ _ hc) e
    have g' := p.gr.change sb.extBut b a
    exact
      { on := g'.on
        cx := ⟨p.cx.base, fun q hq => by
            cases hq with
            | head => exact ⟨v, .inr ⟨.inl hx, c, hc, ic'⟩, hv⟩
            | tail _ hq =>
              obtain ⟨hne, hq⟩ := hs.mem q hq
              obtain ⟨u1, a1, r⟩ := p.cx.fm q hq
              refine ⟨u1, ?_, r⟩
              rcases a1 with ⟨e, m1, n1, q1⟩ | ⟨e, c1, l, q1⟩
              · exact .inl ⟨e, m1, n1.sameBut sb (fun z => cell_ne_ns ic n1 z.symm), q1⟩
              · refine .inr ⟨e, c1, l, q1.sameBut sb fun z => ?_⟩
                subst z
                exact hne (name_of_addr p.apart (mem_of_lookup l) hm),
          fun q hq => (p.cx.mu q hq).change sb.extBut ((p.cx.mu q hq).ne_cell ic)⟩
        gr := g'
        rest := by rw [p.rest]
        loc := p.loc
        locNs := ⟨m, n.sameBut sb fun z => cell_ne_ns ic n z.symm⟩
        cel := fun y q hq => by
          obtain ⟨a1, b1, u1, c1⟩ := p.cel y q hq
          by_cases z : q = c
          · exact ⟨a1, b1, _, z ▸ ic'⟩
          · exact ⟨a1, b1, u1, c1.sameBut sb z⟩
        apart := p.apart
        muOwn := p.muOwn
        muApart := p.muApart }

noncomputable abbrev SaT (M : Model) (A : Around) (G : Gd) (env : Env) (he : View) (V0 : View) (s0 : Shared) (ρ : Vars) (μ : List (Addr × List D)) (t : Sem Flow) (ρ' : Vars) (μ' : List (Addr × List D)) (R : Value → Asn) : Prop :=
  Tr M A (Sa G env he V0 s0 ρ μ) t (Sa G env he V0 s0 ρ' μ') R
variable {R : Value → Asn}
theorem SaT.assign {x : Str} {e : Expr} {p' pos : Pos} (hk : env.scope.kind = .function) (hx : env.kindOf x = some .local ∨ (env.kindOf x = some .cell ∧ (env.cells.lookup x).isSome = true)) (h : PE M A (Cx G env ρ μ) (eval e env) d) (hs : Sub x ρ ρ')
    (hw : swapsWith e (some (.Name x p')) pos.line env = pure false := by rfl) : SaT M A G env he V0 s0 ρ μ (exec (.Assign [.Name x p'] e pos) env) ((x, d) :: ρ') μ R := fun V s p Q E n r =>
  wpAny_Assign_Name (h V s p.on p.cx _ E fun v V' h' tk g rd => (p.grow g).store hk hx rd hs fun h'' tk' q _ => n V' _ q) hw
theorem SaT.aug {x : Str} {e : Expr} {op : Operator} {p' pos : Pos} {d0 d1 : D} (hk : env.scope.kind = .function) (hx : env.kindOf x = some .local ∨ (env.kindOf x = some .cell ∧ (env.cells.lookup x).isSome = true)) (h0 : (x, d0) ∈ ρ) (h1 : PE M A (Cx G env ρ μ) (eval e env) d1)
    (h : Op2 M A (Cx G env ρ μ) (inplaceOp op) d0 d1 d) (hs : Sub x ρ ρ') (hc : (x == ("__classdict__" : Str)) = false := by decide) : SaT M A G env he V0 s0 ρ μ (exec (.AugAssign (.Name x p') op e pos) env) ((x, d) :: ρ') μ R := fun V s p Q E n r => by
  obtain ⟨v0, a0, r0⟩ := p.cx.fm _ h0
  exact wpAny_AugAssign_Name (loadAt hk a0 (h1 V s p.on p.cx _ E fun v1 V1 h1 t1 g1 r1 => h V1 _ g1.on ((p.grow (tk := t1) g1).cx) v0 v1 (r0.mono g1.sub) r1 _ E fun v V2 h2 t2 g2 r2 =>
    ((p.grow (tk := t1) g1).grow (tk := t2) g2).store hk hx r2 hs fun h'' tk' q _ => n V2 _ q) hc)
theorem SaT.if_ {test : Expr} {a b : List Stmt} {pos : Pos} {c : Bool} {N : Asn} (h : PB M A (Cx G env ρ μ) (isTrue test env (eval test env)) c) (h1 : c = true → Tr M A (Sa G env he V0 s0 ρ μ) (execs a env) N R) (h2 : c = false → Tr M A (Sa G env he V0 s0 ρ μ) (execs b env) N R) :
    Tr M A (Sa G env he V0 s0 ρ μ) (exec (.If test a b pos) env) N R := Tr.if_ (fun V s p => ⟨p.on, p.cx⟩) (fun _ _ _ _ _ p g => p.grow g) h h1 h2
theorem SaT.ret {e : Expr} {pos : Pos} {N : Asn} (h : PE M A (Cx G env ρ μ) (eval e env) d) (hr : ∀ V s v, Sa G env he V0 s0 ρ μ V s → Rd V v d → R v V s) : Tr M A (Sa G env he V0 s0 ρ μ) (exec (.Return (some e) pos) env) N R :=
  Tr.ret (fun V s p => ⟨p.on, p.cx⟩) (fun _ _ _ _ _ p g => p.grow g) h hr
end
end FS
end
section
set_option linter.unusedVariables false
namespace FS
open PySem PySem.Calls PySem.W PyProof.Rows

/-- a function has come back -/
noncomputable def Done (he : View) (V0 : View) (s0 : Shared) (d : D) (v : Value) : Asn := fun V s => GrowK he V0 V s.heap ∧ s = { s0 with heap := s.heap, toks := s.toks } ∧ Rd V v d
theorem Sa.done {G : Gd} {env : Env} {he : View} {V0 : View} {s0 : Shared} {ρ : Vars} {μ : List (Addr × List D)} {d : D} {V : View} {s : Shared} {v : Value} (p : Sa G env he V0 s0 ρ μ V s) (r : Rd V v d) : Done he V0 s0 d v V s := ⟨p.gr, p.rest, r⟩

noncomputable def fBody : Stmt → List Stmt
  | .FunctionDef _ _ b _ _ _ _ _ _ _ => b
  | .ClassDef _ _ _ b _ _ _ _ _ _ _ => b
  | _ => []
noncomputable def fScope : Stmt → Scope
  | .FunctionDef _ _ _ _ _ _ sc _ _ _ => sc
  | _ => default
noncomputable def fPars : Stmt → Arguments
  | .FunctionDef _ ps _ _ _ _ _ _ _ _ => ps
  | _ => default
noncomputable def fName : Stmt → Str
  | .FunctionDef n _ _ _ _ _ _ _ _ _ => n
  | _ => Str.empty
noncomputable def fdOf (st : Stmt) (qual : Str) (dV kV doc pm code ct : Value) (an : Option Addr) : FuncData :=
  { name := fName st, qualname := qual, params := fPars st, body := .stmts (fBody st), scope := fScope st, globals := mainGlobals, closure := [], defaults := dV, kwdefaults := kV, doc, pyModule := pm, annotations := an, code, closureTuple := ct, builtins := builtinsNs }

/-- a def of the text's, as an object -/
noncomputable def FnAt (h : Heap) (f : Addr) (st : Stmt) (qual : Str) (dV kV : Value) : Prop :=
  ∃ doc pm code ct an o, h.get? f = some o ∧ o.data = .func (fdOf st qual dV kV doc pm code ct an) ∧ h.CodeRec code qual

noncomputable def envOf (st : Stmt) (qual : Str) (f L : Addr) (code : Value) : Env := newEnv (fScope st) L mainGlobals (cellsFrom (L + 1) (fScope st).names []) (qual ++ ".<locals>.") (some f) code none builtinsNs

/-- the arguments, as the frame holds them -/
noncomputable def Bound (env : Env) (binds : List (Str × Value)) (V : View) (ρ : Vars) : Prop :=
  ∀ p ∈ ρ, ∃ v, Rd V v p.2 ∧ ((env.kindOf p.1 = some .local ∧ bindL env.kindOf binds (fun _ => none) p.1 = some v) ∨ (env.kindOf p.1 = some .cell ∧ ∃ c, env.cells.lookup p.1 = some c ∧ bindC env.kindOf binds (fun _ => none) p.1 = some v))

theorem cellsFrom_ge : ∀ (l : List (Str × NameKind)) (n : Nat) (acc : List (Str × Addr)) (m : Nat), m ≤ n → (∀ p ∈ acc, m ≤ p.2) → ∀ p ∈ cellsFrom n l acc, m ≤ p.2
  | [], n, acc, m, _, h => h
  | (x, k) :: r, n, acc, m, hn, h => by
    unfold cellsFrom
    split
    · exact cellsFrom_ge r (n + 1) _ m (Nat.le_succ_of_le hn) fun p hp => by
        cases hp with
        | head => exact hn
        | tail _ hp => exact h p hp
    · exact cellsFrom_ge r n acc m hn h

section
variable {prog : Program} {w : World} {A : Around} {G : Gd} {f : Addr} {st : Stmt} {qual : Str} {dV kV : Value} {d : D}

theorem fn_callM {args : List Value} {kw : List (Str × Value)} {binds : List (Str × Value)} {V : View} {s : Shared} {ρ : Vars} {μ : List (Addr × List D)} (F : FnAt G.h₁ f st qual dV kV) (hroom : A.depth < recursionLimit) (on : On V s.heap) (base : ∀ b o, G.h₁.get? b = some o → V b = some o)
    (hbind : ∀ doc pm code ct an, Looks (model prog w) s.heap (bindArgs (fdOf st qual dV kV doc pm code ct an) ⟨args, kw⟩) binds) (hloc : ∀ L, ∀ x ∈ binds, (fScope st).names.lookup x.1 = some .local ∨ ((fScope st).names.lookup x.1 = some .cell ∧ ((cellsFrom (L + 1) (fScope st).names []).lookup x.1).isSome = true))
    (hρ : ∀ L code, Bound (envOf st qual f L code) binds V ρ)
    (hmu : ∀ p ∈ μ, MutL V s.heap p.1 p.2) (hma : μ.Pairwise fun x y => x.1 ≠ y.1)
    {Q : Value → Shared → Prop} {E : Value → Shared → Prop} {he : View} (gr : GrowK he V V s.heap) (hge : ∀ b, s.heap.objs.size ≤ b → he b = none) (hmo : ∀ p ∈ μ, he p.1 = none)
    (hbody : ∀ L code, Tr (model prog w) (A.deeper (envOf st qual f L code)) (Sa G (envOf st qual f L code) he V s ρ μ) (execs (fBody st) (envOf st qual f L code)) (fun V' s' => Q .none s') (fun v V' s' => Q v s'))
    (hco : (fScope st).isCoroutine = false := by rfl) (hgen : (fScope st).isGenerator = false := by rfl) (hkind : (fScope st).kind = .function := by rfl) :
    wpAny (model prog w) A (call (.ref f) args kw) Q E s := by
  have old : ∀ b o, G.h₁.get? b = some o → s.heap.get? b = some o := fun b o e => on b o (base b o e)
  obtain ⟨doc, pm, code, ct, an, o, ho, hd, hcr⟩ := F
  refine wpAny_call ?_
  refine codeAny_call_function hroom (old _ _ ho) hd hco hgen rfl (hcr.keeps old) ?_
  refine (hbind _ _ _ _ _).here (wpAny_newFunctionEnv_cells hkind (hloc _) fun env henv s' hin => ⟨?_, ?_⟩)
  · obtain ⟨h', tk, e, k⟩ := hin.done
    rw [e]; exact G.nolim.keeps fun b o e => k _ _ (old b o e)
  · obtain ⟨h', tk, e, k⟩ := hin.done
    have henv' : env = FS.envOf st qual f s.heap.objs.size code := henv
    subst henv'
    have keep : ∀ b o, s.heap.get? b = some o → s'.heap.get? b = some o := hin.toInCall.keep
    have noneV : ∀ b, s.heap.objs.size ≤ b → V b = none := fun b hb => by
      cases q : V b with
      | none => rfl
      | some o' => exact absurd (on.lt q) (Nat.not_lt.mpr hb)
    have P : Sa G (FS.envOf st qual f s.heap.objs.size code) he V s ρ μ V s' :=
      { on := on.mono keep
        cx := ⟨base, fun p hp => by
            obtain ⟨v, r, q⟩ := hρ s.heap.objs.size code p hp
            refine ⟨v, ?_, r⟩
            rcases q with ⟨q1, q2⟩ | ⟨q1, c, q2, q3⟩
            · exact .inl ⟨q1, _, hin.toInCall.ns, q2⟩
            · exact .inr ⟨.inl q1, c, q2, q3 ▸ hin.cell _ c q2⟩, fun p hp => (hmu p hp).grow (.skip on keep)⟩
        gr := gr.trans (.skip on keep)
        rest := by rw [e]
        loc := ⟨noneV _ (Nat.le_refl _), hge _ (Nat.le_refl _)⟩
        locNs := ⟨_, hin.toInCall.ns⟩
        cel := fun x c hc => by
          have hle : s.heap.objs.size ≤ c := Nat.le_of_succ_le (cellsFrom_ge _ _ [] (s.heap.objs.size + 1) (Nat.le_refl _) (fun _ h => nomatch h) _ (mem_of_lookup hc))
          exact ⟨noneV _ hle, hge _ hle, _, hin.cell _ _ hc⟩
        apart := hin.apart
        muOwn := hmo
        muApart := hma }
    exact codeAny_func (hbody _ _ V s' P _ _ (fun V' s'' q => q) fun v V' s'' q => q)
theorem fn_call {args : List Value} {kw : List (Str × Value)} {binds : List (Str × Value)} {V : View} {s : Shared} {ρ : Vars} (F : FnAt G.h₁ f st qual dV kV) (hroom : A.depth < recursionLimit) (on : On V s.heap) (base : ∀ b o, G.h₁.get? b = some o → V b = some o)
    (hbind : ∀ doc pm code ct an, bindArgs (fdOf st qual dV kV doc pm code ct an) ⟨args, kw⟩ = pure binds) (hloc : ∀ L, ∀ x ∈ binds, (fScope st).names.lookup x.1 = some .local ∨ ((fScope st).names.lookup x.1 = some .cell ∧ ((cellsFrom (L + 1) (fScope st).names []).lookup x.1).isSome = true))
    (hρ : ∀ L code, Bound (envOf st qual f L code) binds V ρ)
    {Q : Value → Shared → Prop} {E : Value → Shared → Prop} {he : View} (gr : GrowK he V V s.heap) (hge : ∀ b, s.heap.objs.size ≤ b → he b = none)
    (hbody : ∀ L code, Tr (model prog w) (A.deeper (envOf st qual f L code)) (Sa G (envOf st qual f L code) he V s ρ []) (execs (fBody st) (envOf st qual f L code)) (fun V' s' => Q .none s') (fun v V' s' => Q v s'))
    (hco : (fScope st).isCoroutine = false := by rfl) (hgen : (fScope st).isGenerator = false := by rfl) (hkind : (fScope st).kind = .function := by rfl) :
    wpAny (model prog w) A (call (.ref f) args kw) Q E s :=
  fn_callM (μ := []) F hroom on base (fun _ _ _ _ _ => Looks.of_pure (hbind _ _ _ _ _)) hloc hρ (fun _ h => nomatch h) .nil gr hge (fun _ h => nomatch h) hbody hco hgen hkind
/-- a def that changes nothing that stood -/
theorem fn_pure {args : List Value} {kw : List (Str × Value)} {binds : List (Str × Value)} {V : View} {s : Shared} {ρ : Vars} (F : FnAt G.h₁ f st qual dV kV) (hroom : A.depth < recursionLimit) (on : On V s.heap) (base : ∀ b o, G.h₁.get? b = some o → V b = some o)
    (hbind : ∀ doc pm code ct an, bindArgs (fdOf st qual dV kV doc pm code ct an) ⟨args, kw⟩ = pure binds) (hloc : ∀ L, ∀ x ∈ binds, (fScope st).names.lookup x.1 = some .local ∨ ((fScope st).names.lookup x.1 = some .cell ∧ ((cellsFrom (L + 1) (fScope st).names []).lookup x.1).isSome = true))
    (hρ : ∀ L code, Bound (envOf st qual f L code) binds V ρ)
    (hbody : ∀ L code, Tr (model prog w) (A.deeper (envOf st qual f L code)) (Sa G (envOf st qual f L code) s.heap.get? V s ρ []) (execs (fBody st) (envOf st qual f L code)) (fun V' s' => Done s.heap.get? V s d .none V' s') (Done s.heap.get? V s d))
    (hco : (fScope st).isCoroutine = false := by rfl) (hgen : (fScope st).isGenerator = false := by rfl) (hkind : (fScope st).kind = .function := by rfl) :
    Ev (model prog w) A (call (.ref f) args kw) V s d := fun Q E k =>
  fn_call F hroom on base hbind hloc hρ (Grow.refl on) none_ge (fun L code => fun V' s' P Q' E' n r => hbody L code V' s' P Q' E'
    (fun V'' s'' q => n V'' s'' (by obtain ⟨q1, q2, q3⟩ := q; rw [q2]; exact k _ _ _ _ q1 q3)) (fun v V'' s'' q => r v V'' s'' (by obtain ⟨q1, q2, q3⟩ := q; rw [q2]; exact k _ _ _ _ q1 q3))) hco hgen hkind
end
end FS
end
section
set_option linter.unusedVariables false
namespace FS
open PySem PySem.Calls PySem.W PyProof.Rows

section
variable {prog : Program} {w : World} {A : Around} {I : View → Heap → Prop}
theorem op_add_int {a b : Int} : Op2 (model prog w) A I (binaryOp .Add) (.int a) (.int b) (.int (a + b)) := fun V s on i v1 v2 r1 r2 Q E k => by
  cases r1; cases r2; exact wpAny_add_int (k _ V s.heap _ (.refl on) (.int _ _))
theorem op_iadd_int {a b : Int} : Op2 (model prog w) A I (inplaceOp .Add) (.int a) (.int b) (.int (a + b)) := fun V s on i v1 v2 r1 r2 Q E k => by
  cases r1; cases r2; exact wpAny_iadd_int (k _ V s.heap _ (.refl on) (.int _ _))
theorem op_sub_int {a b : Int} : Op2 (model prog w) A I (binaryOp .Sub) (.int a) (.int b) (.int (a - b)) := fun V s on i v1 v2 r1 r2 Q E k => by
  cases r1; cases r2; exact sub_int' (k _ V s.heap _ (.refl on) (.int _ _))
theorem op_sub_bool {a b : Bool} : Op2 (model prog w) A I (binaryOp .Sub) (.bool a) (.bool b) (.int (a.toInt - b.toInt)) := fun V s on i v1 v2 r1 r2 Q E k => by
  cases r1; cases r2; exact sub_bool (k _ V s.heap _ (.refl on) (by cases a <;> cases b <;> exact .int _ _))
theorem op_mod_int {a b : Int} (h : 0 < b) : Op2 (model prog w) A I (binaryOp .Mod) (.int a) (.int b) (.int (a % b)) := fun V s on i v1 v2 r1 r2 Q E k => by
  cases r1; cases r2; exact mod_int' (by omega) (by rw [Int.fmod_eq_emod_of_nonneg _ (by omega)]; exact k _ V s.heap _ (.refl on) (.int _ _))
theorem op_div_int {a b : Int} (h : 0 < b) (hl : Builtin.divisionGoesByPylong a b = false) : Op2 (model prog w) A I (binaryOp .FloorDiv) (.int a) (.int b) (.int (a / b)) := fun V s on i v1 v2 r1 r2 Q E k => by
  cases r1; cases r2; exact floordiv_int (by omega) (by rw [Int.fdiv_eq_ediv_of_nonneg _ (by omega)]; exact k _ V s.heap _ (.refl on) (.int _ _)) (.inl hl)
theorem op_add_str {x y : Str} (h : x.length + y.length ≤ 1000) : Op2 (model prog w) A I (binaryOp .Add) (.str x) (.str y) (.str (x ++ y)) := fun V s on i v1 v2 r1 r2 Q E k => by
  cases r1; cases r2; exact add_str (fun t' tk => k _ V s.heap _ (.refl on) (.str _ _)) (by rw [sizeLine_eq]; omega)
theorem op_gt_str {x y : Str} : Op2 (model prog w) A I (compareOp .Gt) (.str x) (.str y) (.bool (decide (y.cps.toList < x.cps.toList))) := fun V s on i v1 v2 r1 r2 Q E k => by
  cases r1; cases r2; exact P.gt_str (k _ V s.heap s.toks (.refl on) (.bool _))
theorem op_lt_str {x y : Str} : Op2 (model prog w) A I (compareOp .Lt) (.str x) (.str y) (.bool (decide (x.cps.toList < y.cps.toList))) := fun V s on i v1 v2 r1 r2 Q E k => by
  cases r1; cases r2; exact P.lt_str (k _ V s.heap s.toks (.refl on) (.bool _))
theorem str_beq {x y : Str} : (x.cps.toList == y.cps.toList) = (x == y) := by
  rw [Bool.eq_iff_iff, beq_iff_eq, beq_iff_eq]
  exact ⟨fun h => by cases x; cases y; simp only [Str.mk.injEq]; exact Array.toList_inj.mp h, fun h => by rw [h]⟩
theorem op_eq_str {x y : Str} : Op2 (model prog w) A I (compareOp .Eq) (.str x) (.str y) (.bool (x == y)) := fun V s on i v1 v2 r1 r2 Q E k => by
  cases r1; cases r2; exact P.eq_str (str_beq ▸ k _ V s.heap s.toks (.refl on) (.bool _))
theorem op_ne_str {x y : Str} : Op2 (model prog w) A I (compareOp .NotEq) (.str x) (.str y) (.bool (x != y)) := fun V s on i v1 v2 r1 r2 Q E k => by
  cases r1; cases r2
  exact P.ne_str (by
    have : (x.cps.toList != y.cps.toList) = (x != y) := by unfold bne; rw [str_beq]
    rw [this]; exact k _ V s.heap s.toks (.refl on) (.bool _))
theorem op_eq_int {a b : Int} : Op2 (model prog w) A I (compareOp .Eq) (.int a) (.int b) (.bool (a == b)) := fun V s on i v1 v2 r1 r2 Q E k => by
  cases r1; cases r2; exact PyProof.Rows.eq_int (k _ V s.heap s.toks (.refl on) (.bool _))
theorem op_ne_int {a b : Int} : Op2 (model prog w) A I (compareOp .NotEq) (.int a) (.int b) (.bool (a != b)) := fun V s on i v1 v2 r1 r2 Q E k => by
  cases r1; cases r2; exact PyProof.Rows.ne_int (k _ V s.heap s.toks (.refl on) (.bool _))
theorem op_gt_int {a b : Int} : Op2 (model prog w) A I (compareOp .Gt) (.int a) (.int b) (.bool (decide (b < a))) := fun V s on i v1 v2 r1 r2 Q E k => by
  cases r1; cases r2; exact PyProof.Rows.gt_int (k _ V s.heap s.toks (.refl on) (.bool _))
theorem op_lt_int {a b : Int} : Op2 (model prog w) A I (compareOp .Lt) (.int a) (.int b) (.bool (decide (a < b))) := fun V s on i v1 v2 r1 r2 Q E k => by
  cases r1; cases r2; exact PyProof.Rows.lt_int (k _ V s.heap s.toks (.refl on) (.bool _))
theorem op_eq_bool {a b : Bool} : Op2 (model prog w) A I (compareOp .Eq) (.bool a) (.bool b) (.bool (a == b)) := fun V s on i v1 v2 r1 r2 Q E k => by
  cases r1; cases r2; exact eq_bool (k _ V s.heap s.toks (.refl on) (.bool _))
theorem op_ne_bool {a b : Bool} : Op2 (model prog w) A I (compareOp .NotEq) (.bool a) (.bool b) (.bool (a != b)) := fun V s on i v1 v2 r1 r2 Q E k => by
  cases r1; cases r2; exact ne_bool (k _ V s.heap s.toks (.refl on) (.bool _))
theorem op_chr {i : Int} (h0 : 0 ≤ i) (h1 : i ≤ 1114111) : OpN (model prog w) A I (.builtin "chr") [] [.int i] (.str ⟨#[i.toNat]⟩) := fun V s on _ vs r Q E k => by
  cases r with | cons r1 r2 => cases r1; cases r2; exact chr_of_range h0 h1 (k _ V s.heap _ (.refl on) (.str _ _))
theorem op_ord {c : Nat} : OpN (model prog w) A I (.builtin "ord") [] [.str ⟨#[c]⟩] (.int c) := fun V s on _ vs r Q E k => by
  cases r with | cons r1 r2 => cases r1; cases r2; exact P.ord_of_char (k _ V s.heap _ (.refl on) (.int _ _))
end

-- the text's own defs, by their place in it
noncomputable def stm (i : Nat) : Stmt := (PySem.Challenge.pw_wf0096_01.main.body[i]?).getD (.Pass ⟨0, 0, 0, 0⟩)
end FS
end
section
set_option maxRecDepth 1000000
set_option linter.unusedVariables false
namespace FS
open PySem PySem.Calls PySem.W PyProof.Rows
noncomputable section
noncomputable def mth (i j : Nat) : Stmt := ((fBody (stm i))[j]?).getD (.Pass ⟨0, 0, 0, 0⟩)
noncomputable abbrev pw : Program := PySem.Challenge.pw_wf0096_01
/-- the text's own Dict node, and the entries as the run lays them -/
noncomputable def stVal : Stmt → Expr
  | .Assign _ v _ => v
  | _ => default
noncomputable def dKeys : Expr → List (Option Expr)
  | .Dict ks _ _ => ks
  | _ => []
noncomputable def dVals : Expr → List Expr
  | .Dict _ vs _ => vs
  | _ => []
noncomputable def kInt : Option Expr → Int
  | some (.Constant (.int k) _ _) => k
  | _ => 0
noncomputable def kStr : Expr → Str
  | .Constant (.str x) _ _ => x
  | _ => Str.empty
noncomputable def entsFrom (d : Nat) : List (Option Expr) → List Expr → Nat → List DictEntry
  | k :: ks, v :: vs, t => ⟨kInt k, .int (kInt k) t, .str (kStr v) (t + 1)⟩ :: entsFrom d ks vs (t + d)
  | _, _, _ => []
noncomputable def ks9 : List (Option Expr) := dKeys (stVal (stm 9))
noncomputable def vs9 : List Expr := dVals (stVal (stm 9))
noncomputable def ents9 : List DictEntry := entsFrom 3 (ks9.take 646) (vs9.take 646) 379
noncomputable def entsLast : List DictEntry := entsFrom 2 (ks9.drop 646) (vs9.drop 646) 2317
noncomputable def entsAll : List DictEntry := ents9 ++ entsLast
noncomputable def dictO (l : List DictEntry) : Obj := { cls := .type "dict", data := .dict l.toArray l.length }
noncomputable def envT : Env := { scope := pw.main.scope, locals := mainNs, globals := mainNs, cells := [], code := .ref 30, frame := some 31 }
noncomputable def bodyT : List Stmt := behindTheImports pw
noncomputable def codeT : Code := .body bodyT envT
noncomputable def BT_ : List Frame := [topFrame ⟨0, 0, 0, 0⟩]
noncomputable def annT : Option Value := some (.ref 6)
noncomputable def o_se_11 : Params → Obj := fun P => Obj.mk (Value.type "dict") none (Data.dict #[DictEntry.mk (PyData.keyHash P (Str.ofString "__name__")) (Value.str (Str.ofString "__name__") 247) (Value.str (Str.ofString "_sre") 246), DictEntry.mk (PyData.keyHash P (Str.ofString "__doc__")) (Value.str (Str.ofString "__doc__") 248) Value.none, DictEntry.mk (PyData.keyHash P (Str.ofString "__package__")) (Value.str (Str.ofString "__package__") 250) (Value.str (Str.ofString "") 249), DictEntry.mk (PyData.keyHash P (Str.ofString "__loader__")) (Value.str (Str.ofString "__loader__") 251) (Value.ref 14), DictEntry.mk (PyData.keyHash P (Str.ofString "__spec__")) (Value.str (Str.ofString "__spec__") 252) (Value.ref 26), DictEntry.mk (PyData.keyHash P (Str.ofString "compile")) (Value.str (Str.ofString "compile") 253) (Value.builtin "_sre.compile"), DictEntry.mk (PyData.keyHash P (Str.ofString "template")) (Value.str (Str.ofString "template") 254) (Value.builtin "_sre.template"), DictEntry.mk (PyData.keyHash P (Str.ofString "getcodesize")) (Value.str (Str.ofString "getcodesize") 255) (Value.builtin "_sre.getcodesize"), DictEntry.mk (PyData.keyHash P (Str.ofString "ascii_iscased")) (Value.str (Str.ofString "ascii_iscased") 256) (Value.builtin "_sre.ascii_iscased"), DictEntry.mk (PyData.keyHash P (Str.ofString "unicode_iscased")) (Value.str (Str.ofString "unicode_iscased") 257) (Value.builtin "_sre.unicode_iscased"), DictEntry.mk (PyData.keyHash P (Str.ofString "ascii_tolower")) (Value.str (Str.ofString "ascii_tolower") 258) (Value.builtin "_sre.ascii_tolower"), DictEntry.mk (PyData.keyHash P (Str.ofString "unicode_tolower")) (Value.str (Str.ofString "unicode_tolower") 259) (Value.builtin "_sre.unicode_tolower"), DictEntry.mk (PyData.keyHash P (Str.ofString "MAGIC")) (Value.str (Str.ofString "MAGIC") 261) (Value.int 20230612 260), DictEntry.mk (PyData.keyHash P (Str.ofString "CODESIZE")) (Value.str (Str.ofString "CODESIZE") 263) (Value.int 4 262), DictEntry.mk (PyData.keyHash P (Str.ofString "MAXREPEAT")) (Value.str (Str.ofString "MAXREPEAT") 265) (Value.int 4294967295 264), DictEntry.mk (PyData.keyHash P (Str.ofString "MAXGROUPS")) (Value.str (Str.ofString "MAXGROUPS") 267) (Value.int 1073741823 266), DictEntry.mk (PyData.keyHash P (Str.ofString "copyright")) (Value.str (Str.ofString "copyright") 269) (Value.str (Str.ofString " SRE 2.2.2 Copyright (c) 1997-2002 by Secret Labs AB ") 268)] 17) #[]
noncomputable def o_s0_0 : Params → Obj := fun P => Obj.mk (Value.type "dict") none (Data.dict #[DictEntry.mk (PyData.keyHash P (Str.ofString "__name__")) (Value.str (Str.ofString "__name__") 1) (Value.str (Str.ofString "builtins") 160), DictEntry.mk (PyData.keyHash P (Str.ofString "__doc__")) (Value.str (Str.ofString "__doc__") 2) (Value.builtin "builtins.__doc__:str#opaque"), DictEntry.mk (PyData.keyHash P (Str.ofString "__package__")) (Value.str (Str.ofString "__package__") 3) (Value.builtin "builtins.__package__:str#opaque"), DictEntry.mk (PyData.keyHash P (Str.ofString "__loader__")) (Value.str (Str.ofString "__loader__") 4) (Value.builtin "builtins.__loader__:shared#opaque"), DictEntry.mk (PyData.keyHash P (Str.ofString "__spec__")) (Value.str (Str.ofString "__spec__") 5) (Value.builtin "builtins.__spec__#opaque"), DictEntry.mk (PyData.keyHash P (Str.ofString "__build_class__")) (Value.str (Str.ofString "__build_class__") 6) (Value.builtin "__build_class__"), DictEntry.mk (PyData.keyHash P (Str.ofString "__import__")) (Value.str (Str.ofString "__import__") 7) (Value.builtin "__import__"), DictEntry.mk (PyData.keyHash P (Str.ofString "abs")) (Value.str (Str.ofString "abs") 8) (Value.builtin "abs"), DictEntry.mk (PyData.keyHash P (Str.ofString "all")) (Value.str (Str.ofString "all") 9) (Value.builtin "all"), DictEntry.mk (PyData.keyHash P (Str.ofString "any")) (Value.str (Str.ofString "any") 10) (Value.builtin "any"), DictEntry.mk (PyData.keyHash P (Str.ofString "ascii")) (Value.str (Str.ofString "ascii") 11) (Value.builtin "ascii"), DictEntry.mk (PyData.keyHash P (Str.ofString "bin")) (Value.str (Str.ofString "bin") 12) (Value.builtin "bin"), DictEntry.mk (PyData.keyHash P (Str.ofString "breakpoint")) (Value.str (Str.ofString "breakpoint") 13) (Value.builtin "breakpoint"), DictEntry.mk (PyData.keyHash P (Str.ofString "callable")) (Value.str (Str.ofString "callable") 14) (Value.builtin "callable"), DictEntry.mk (PyData.keyHash P (Str.ofString "chr")) (Value.str (Str.ofString "chr") 15) (Value.builtin "chr"), DictEntry.mk (PyData.keyHash P (Str.ofString "compile")) (Value.str (Str.ofString "compile") 16) (Value.builtin "compile"), DictEntry.mk (PyData.keyHash P (Str.ofString "delattr")) (Value.str (Str.ofString "delattr") 17) (Value.builtin "delattr"), DictEntry.mk (PyData.keyHash P (Str.ofString "dir")) (Value.str (Str.ofString "dir") 18) (Value.builtin "dir"), DictEntry.mk (PyData.keyHash P (Str.ofString "divmod")) (Value.str (Str.ofString "divmod") 19) (Value.builtin "divmod"), DictEntry.mk (PyData.keyHash P (Str.ofString "eval")) (Value.str (Str.ofString "eval") 20) (Value.builtin "eval"), DictEntry.mk (PyData.keyHash P (Str.ofString "exec")) (Value.str (Str.ofString "exec") 21) (Value.builtin "exec"), DictEntry.mk (PyData.keyHash P (Str.ofString "format")) (Value.str (Str.ofString "format") 22) (Value.builtin "format"), DictEntry.mk (PyData.keyHash P (Str.ofString "getattr")) (Value.str (Str.ofString "getattr") 23) (Value.builtin "getattr"), DictEntry.mk (PyData.keyHash P (Str.ofString "globals")) (Value.str (Str.ofString "globals") 24) (Value.builtin "globals"), DictEntry.mk (PyData.keyHash P (Str.ofString "hasattr")) (Value.str (Str.ofString "hasattr") 25) (Value.builtin "hasattr"), DictEntry.mk (PyData.keyHash P (Str.ofString "hash")) (Value.str (Str.ofString "hash") 26) (Value.builtin "hash"), DictEntry.mk (PyData.keyHash P (Str.ofString "hex")) (Value.str (Str.ofString "hex") 27) (Value.builtin "hex"), DictEntry.mk (PyData.keyHash P (Str.ofString "id")) (Value.str (Str.ofString "id") 28) (Value.builtin "id"), DictEntry.mk (PyData.keyHash P (Str.ofString "input")) (Value.str (Str.ofString "input") 29) (Value.builtin "input"), DictEntry.mk (PyData.keyHash P (Str.ofString "isinstance")) (Value.str (Str.ofString "isinstance") 30) (Value.builtin "isinstance"), DictEntry.mk (PyData.keyHash P (Str.ofString "issubclass")) (Value.str (Str.ofString "issubclass") 31) (Value.builtin "issubclass"), DictEntry.mk (PyData.keyHash P (Str.ofString "iter")) (Value.str (Str.ofString "iter") 32) (Value.builtin "iter"), DictEntry.mk (PyData.keyHash P (Str.ofString "aiter")) (Value.str (Str.ofString "aiter") 33) (Value.builtin "aiter"), DictEntry.mk (PyData.keyHash P (Str.ofString "len")) (Value.str (Str.ofString "len") 34) (Value.builtin "len"), DictEntry.mk (PyData.keyHash P (Str.ofString "locals")) (Value.str (Str.ofString "locals") 35) (Value.builtin "locals"), DictEntry.mk (PyData.keyHash P (Str.ofString "max")) (Value.str (Str.ofString "max") 36) (Value.builtin "max"), DictEntry.mk (PyData.keyHash P (Str.ofString "min")) (Value.str (Str.ofString "min") 37) (Value.builtin "min"), DictEntry.mk (PyData.keyHash P (Str.ofString "next")) (Value.str (Str.ofString "next") 38) (Value.builtin "next"), DictEntry.mk (PyData.keyHash P (Str.ofString "anext")) (Value.str (Str.ofString "anext") 39) (Value.builtin "anext"), DictEntry.mk (PyData.keyHash P (Str.ofString "oct")) (Value.str (Str.ofString "oct") 40) (Value.builtin "oct"), DictEntry.mk (PyData.keyHash P (Str.ofString "ord")) (Value.str (Str.ofString "ord") 41) (Value.builtin "ord"), DictEntry.mk (PyData.keyHash P (Str.ofString "pow")) (Value.str (Str.ofString "pow") 42) (Value.builtin "pow"), DictEntry.mk (PyData.keyHash P (Str.ofString "print")) (Value.str (Str.ofString "print") 43) (Value.builtin "print"), DictEntry.mk (PyData.keyHash P (Str.ofString "repr")) (Value.str (Str.ofString "repr") 44) (Value.builtin "repr"), DictEntry.mk (PyData.keyHash P (Str.ofString "round")) (Value.str (Str.ofString "round") 45) (Value.builtin "round"), DictEntry.mk (PyData.keyHash P (Str.ofString "setattr")) (Value.str (Str.ofString "setattr") 46) (Value.builtin "setattr"), DictEntry.mk (PyData.keyHash P (Str.ofString "sorted")) (Value.str (Str.ofString "sorted") 47) (Value.builtin "sorted"), DictEntry.mk (PyData.keyHash P (Str.ofString "sum")) (Value.str (Str.ofString "sum") 48) (Value.builtin "sum"), DictEntry.mk (PyData.keyHash P (Str.ofString "vars")) (Value.str (Str.ofString "vars") 49) (Value.builtin "vars"), DictEntry.mk (PyData.keyHash P (Str.ofString "None")) (Value.str (Str.ofString "None") 50) Value.none, DictEntry.mk (PyData.keyHash P (Str.ofString "Ellipsis")) (Value.str (Str.ofString "Ellipsis") 51) Value.ellipsis, DictEntry.mk (PyData.keyHash P (Str.ofString "NotImplemented")) (Value.str (Str.ofString "NotImplemented") 52) Value.notImplemented, DictEntry.mk (PyData.keyHash P (Str.ofString "False")) (Value.str (Str.ofString "False") 53) (Value.bool false), DictEntry.mk (PyData.keyHash P (Str.ofString "True")) (Value.str (Str.ofString "True") 54) (Value.bool true), DictEntry.mk (PyData.keyHash P (Str.ofString "bool")) (Value.str (Str.ofString "bool") 55) (Value.type "bool"), DictEntry.mk (PyData.keyHash P (Str.ofString "memoryview")) (Value.str (Str.ofString "memoryview") 56) (Value.type "memoryview"), DictEntry.mk (PyData.keyHash P (Str.ofString "bytearray")) (Value.str (Str.ofString "bytearray") 57) (Value.type "bytearray"), DictEntry.mk (PyData.keyHash P (Str.ofString "bytes")) (Value.str (Str.ofString "bytes") 58) (Value.type "bytes"), DictEntry.mk (PyData.keyHash P (Str.ofString "classmethod")) (Value.str (Str.ofString "classmethod") 59) (Value.type "classmethod"), DictEntry.mk (PyData.keyHash P (Str.ofString "complex")) (Value.str (Str.ofString "complex") 60) (Value.type "complex"), DictEntry.mk (PyData.keyHash P (Str.ofString "dict")) (Value.str (Str.ofString "dict") 61) (Value.type "dict"), DictEntry.mk (PyData.keyHash P (Str.ofString "enumerate")) (Value.str (Str.ofString "enumerate") 62) (Value.type "enumerate"), DictEntry.mk (PyData.keyHash P (Str.ofString "filter")) (Value.str (Str.ofString "filter") 63) (Value.type "filter"), DictEntry.mk (PyData.keyHash P (Str.ofString "float")) (Value.str (Str.ofString "float") 64) (Value.type "float"), DictEntry.mk (PyData.keyHash P (Str.ofString "frozenset")) (Value.str (Str.ofString "frozenset") 65) (Value.type "frozenset"), DictEntry.mk (PyData.keyHash P (Str.ofString "property")) (Value.str (Str.ofString "property") 66) (Value.type "property"), DictEntry.mk (PyData.keyHash P (Str.ofString "int")) (Value.str (Str.ofString "int") 67) (Value.type "int"), DictEntry.mk (PyData.keyHash P (Str.ofString "list")) (Value.str (Str.ofString "list") 68) (Value.type "list"), DictEntry.mk (PyData.keyHash P (Str.ofString "map")) (Value.str (Str.ofString "map") 69) (Value.type "map"), DictEntry.mk (PyData.keyHash P (Str.ofString "object")) (Value.str (Str.ofString "object") 70) (Value.type "object"), DictEntry.mk (PyData.keyHash P (Str.ofString "range")) (Value.str (Str.ofString "range") 71) (Value.type "range"), DictEntry.mk (PyData.keyHash P (Str.ofString "reversed")) (Value.str (Str.ofString "reversed") 72) (Value.type "reversed"), DictEntry.mk (PyData.keyHash P (Str.ofString "set")) (Value.str (Str.ofString "set") 73) (Value.type "set"), DictEntry.mk (PyData.keyHash P (Str.ofString "slice")) (Value.str (Str.ofString "slice") 74) (Value.type "slice"), DictEntry.mk (PyData.keyHash P (Str.ofString "staticmethod")) (Value.str (Str.ofString "staticmethod") 75) (Value.type "staticmethod"), DictEntry.mk (PyData.keyHash P (Str.ofString "str")) (Value.str (Str.ofString "str") 76) (Value.type "str"), DictEntry.mk (PyData.keyHash P (Str.ofString "super")) (Value.str (Str.ofString "super") 77) (Value.type "super"), DictEntry.mk (PyData.keyHash P (Str.ofString "tuple")) (Value.str (Str.ofString "tuple") 78) (Value.type "tuple"), DictEntry.mk (PyData.keyHash P (Str.ofString "type")) (Value.str (Str.ofString "type") 79) (Value.type "type"), DictEntry.mk (PyData.keyHash P (Str.ofString "zip")) (Value.str (Str.ofString "zip") 80) (Value.type "zip"), DictEntry.mk (PyData.keyHash P (Str.ofString "__debug__")) (Value.str (Str.ofString "__debug__") 81) (Value.bool true), DictEntry.mk (PyData.keyHash P (Str.ofString "BaseException")) (Value.str (Str.ofString "BaseException") 82) (Value.type "BaseException"), DictEntry.mk (PyData.keyHash P (Str.ofString "BaseExceptionGroup")) (Value.str (Str.ofString "BaseExceptionGroup") 83) (Value.type "BaseExceptionGroup"), DictEntry.mk (PyData.keyHash P (Str.ofString "Exception")) (Value.str (Str.ofString "Exception") 84) (Value.type "Exception"), DictEntry.mk (PyData.keyHash P (Str.ofString "GeneratorExit")) (Value.str (Str.ofString "GeneratorExit") 85) (Value.type "GeneratorExit"), DictEntry.mk (PyData.keyHash P (Str.ofString "KeyboardInterrupt")) (Value.str (Str.ofString "KeyboardInterrupt") 86) (Value.type "KeyboardInterrupt"), DictEntry.mk (PyData.keyHash P (Str.ofString "SystemExit")) (Value.str (Str.ofString "SystemExit") 87) (Value.type "SystemExit"), DictEntry.mk (PyData.keyHash P (Str.ofString "ArithmeticError")) (Value.str (Str.ofString "ArithmeticError") 88) (Value.type "ArithmeticError"), DictEntry.mk (PyData.keyHash P (Str.ofString "AssertionError")) (Value.str (Str.ofString "AssertionError") 89) (Value.type "AssertionError"), DictEntry.mk (PyData.keyHash P (Str.ofString "AttributeError")) (Value.str (Str.ofString "AttributeError") 90) (Value.type "AttributeError"), DictEntry.mk (PyData.keyHash P (Str.ofString "BufferError")) (Value.str (Str.ofString "BufferError") 91) (Value.type "BufferError"), DictEntry.mk (PyData.keyHash P (Str.ofString "EOFError")) (Value.str (Str.ofString "EOFError") 92) (Value.type "EOFError"), DictEntry.mk (PyData.keyHash P (Str.ofString "ImportError")) (Value.str (Str.ofString "ImportError") 93) (Value.type "ImportError"), DictEntry.mk (PyData.keyHash P (Str.ofString "LookupError")) (Value.str (Str.ofString "LookupError") 94) (Value.type "LookupError"), DictEntry.mk (PyData.keyHash P (Str.ofString "MemoryError")) (Value.str (Str.ofString "MemoryError") 95) (Value.type "MemoryError"), DictEntry.mk (PyData.keyHash P (Str.ofString "NameError")) (Value.str (Str.ofString "NameError") 96) (Value.type "NameError"), DictEntry.mk (PyData.keyHash P (Str.ofString "OSError")) (Value.str (Str.ofString "OSError") 97) (Value.type "OSError"), DictEntry.mk (PyData.keyHash P (Str.ofString "ReferenceError")) (Value.str (Str.ofString "ReferenceError") 98) (Value.type "ReferenceError"), DictEntry.mk (PyData.keyHash P (Str.ofString "RuntimeError")) (Value.str (Str.ofString "RuntimeError") 99) (Value.type "RuntimeError"), DictEntry.mk (PyData.keyHash P (Str.ofString "StopAsyncIteration")) (Value.str (Str.ofString "StopAsyncIteration") 100) (Value.type "StopAsyncIteration"), DictEntry.mk (PyData.keyHash P (Str.ofString "StopIteration")) (Value.str (Str.ofString "StopIteration") 101) (Value.type "StopIteration"), DictEntry.mk (PyData.keyHash P (Str.ofString "SyntaxError")) (Value.str (Str.ofString "SyntaxError") 102) (Value.type "SyntaxError"), DictEntry.mk (PyData.keyHash P (Str.ofString "SystemError")) (Value.str (Str.ofString "SystemError") 103) (Value.type "SystemError"), DictEntry.mk (PyData.keyHash P (Str.ofString "TypeError")) (Value.str (Str.ofString "TypeError") 104) (Value.type "TypeError"), DictEntry.mk (PyData.keyHash P (Str.ofString "ValueError")) (Value.str (Str.ofString "ValueError") 105) (Value.type "ValueError"), DictEntry.mk (PyData.keyHash P (Str.ofString "Warning")) (Value.str (Str.ofString "Warning") 106) (Value.type "Warning"), DictEntry.mk (PyData.keyHash P (Str.ofString "FloatingPointError")) (Value.str (Str.ofString "FloatingPointError") 107) (Value.type "FloatingPointError"), DictEntry.mk (PyData.keyHash P (Str.ofString "OverflowError")) (Value.str (Str.ofString "OverflowError") 108) (Value.type "OverflowError"), DictEntry.mk (PyData.keyHash P (Str.ofString "ZeroDivisionError")) (Value.str (Str.ofString "ZeroDivisionError") 109) (Value.type "ZeroDivisionError"), DictEntry.mk (PyData.keyHash P (Str.ofString "BytesWarning")) (Value.str (Str.ofString "BytesWarning") 110) (Value.type "BytesWarning"), DictEntry.mk (PyData.keyHash P (Str.ofString "DeprecationWarning")) (Value.str (Str.ofString "DeprecationWarning") 111) (Value.type "DeprecationWarning"), DictEntry.mk (PyData.keyHash P (Str.ofString "EncodingWarning")) (Value.str (Str.ofString "EncodingWarning") 112) (Value.type "EncodingWarning"), DictEntry.mk (PyData.keyHash P (Str.ofString "FutureWarning")) (Value.str (Str.ofString "FutureWarning") 113) (Value.type "FutureWarning"), DictEntry.mk (PyData.keyHash P (Str.ofString "ImportWarning")) (Value.str (Str.ofString "ImportWarning") 114) (Value.type "ImportWarning"), DictEntry.mk (PyData.keyHash P (Str.ofString "PendingDeprecationWarning")) (Value.str (Str.ofString "PendingDeprecationWarning") 115) (Value.type "PendingDeprecationWarning"), DictEntry.mk (PyData.keyHash P (Str.ofString "ResourceWarning")) (Value.str (Str.ofString "ResourceWarning") 116) (Value.type "ResourceWarning"), DictEntry.mk (PyData.keyHash P (Str.ofString "RuntimeWarning")) (Value.str (Str.ofString "RuntimeWarning") 117) (Value.type "RuntimeWarning"), DictEntry.mk (PyData.keyHash P (Str.ofString "SyntaxWarning")) (Value.str (Str.ofString "SyntaxWarning") 118) (Value.type "SyntaxWarning"), DictEntry.mk (PyData.keyHash P (Str.ofString "UnicodeWarning")) (Value.str (Str.ofString "UnicodeWarning") 119) (Value.type "UnicodeWarning"), DictEntry.mk (PyData.keyHash P (Str.ofString "UserWarning")) (Value.str (Str.ofString "UserWarning") 120) (Value.type "UserWarning"), DictEntry.mk (PyData.keyHash P (Str.ofString "BlockingIOError")) (Value.str (Str.ofString "BlockingIOError") 121) (Value.type "BlockingIOError"), DictEntry.mk (PyData.keyHash P (Str.ofString "ChildProcessError")) (Value.str (Str.ofString "ChildProcessError") 122) (Value.type "ChildProcessError"), DictEntry.mk (PyData.keyHash P (Str.ofString "ConnectionError")) (Value.str (Str.ofString "ConnectionError") 123) (Value.type "ConnectionError"), DictEntry.mk (PyData.keyHash P (Str.ofString "FileExistsError")) (Value.str (Str.ofString "FileExistsError") 124) (Value.type "FileExistsError"), DictEntry.mk (PyData.keyHash P (Str.ofString "FileNotFoundError")) (Value.str (Str.ofString "FileNotFoundError") 125) (Value.type "FileNotFoundError"), DictEntry.mk (PyData.keyHash P (Str.ofString "InterruptedError")) (Value.str (Str.ofString "InterruptedError") 126) (Value.type "InterruptedError"), DictEntry.mk (PyData.keyHash P (Str.ofString "IsADirectoryError")) (Value.str (Str.ofString "IsADirectoryError") 127) (Value.type "IsADirectoryError"), DictEntry.mk (PyData.keyHash P (Str.ofString "NotADirectoryError")) (Value.str (Str.ofString "NotADirectoryError") 128) (Value.type "NotADirectoryError"), DictEntry.mk (PyData.keyHash P (Str.ofString "PermissionError")) (Value.str (Str.ofString "PermissionError") 129) (Value.type "PermissionError"), DictEntry.mk (PyData.keyHash P (Str.ofString "ProcessLookupError")) (Value.str (Str.ofString "ProcessLookupError") 130) (Value.type "ProcessLookupError"), DictEntry.mk (PyData.keyHash P (Str.ofString "TimeoutError")) (Value.str (Str.ofString "TimeoutError") 131) (Value.type "TimeoutError"), DictEntry.mk (PyData.keyHash P (Str.ofString "IndentationError")) (Value.str (Str.ofString "IndentationError") 132) (Value.type "IndentationError"), DictEntry.mk (PyData.keyHash P (Str.ofString "_IncompleteInputError")) (Value.str (Str.ofString "_IncompleteInputError") 133) (Value.type "_IncompleteInputError"), DictEntry.mk (PyData.keyHash P (Str.ofString "IndexError")) (Value.str (Str.ofString "IndexError") 134) (Value.type "IndexError"), DictEntry.mk (PyData.keyHash P (Str.ofString "KeyError")) (Value.str (Str.ofString "KeyError") 135) (Value.type "KeyError"), DictEntry.mk (PyData.keyHash P (Str.ofString "ModuleNotFoundError")) (Value.str (Str.ofString "ModuleNotFoundError") 136) (Value.type "ModuleNotFoundError"), DictEntry.mk (PyData.keyHash P (Str.ofString "NotImplementedError")) (Value.str (Str.ofString "NotImplementedError") 137) (Value.type "NotImplementedError"), DictEntry.mk (PyData.keyHash P (Str.ofString "PythonFinalizationError")) (Value.str (Str.ofString "PythonFinalizationError") 138) (Value.type "PythonFinalizationError"), DictEntry.mk (PyData.keyHash P (Str.ofString "RecursionError")) (Value.str (Str.ofString "RecursionError") 139) (Value.type "RecursionError"), DictEntry.mk (PyData.keyHash P (Str.ofString "UnboundLocalError")) (Value.str (Str.ofString "UnboundLocalError") 140) (Value.type "UnboundLocalError"), DictEntry.mk (PyData.keyHash P (Str.ofString "UnicodeError")) (Value.str (Str.ofString "UnicodeError") 141) (Value.type "UnicodeError"), DictEntry.mk (PyData.keyHash P (Str.ofString "BrokenPipeError")) (Value.str (Str.ofString "BrokenPipeError") 142) (Value.type "BrokenPipeError"), DictEntry.mk (PyData.keyHash P (Str.ofString "ConnectionAbortedError")) (Value.str (Str.ofString "ConnectionAbortedError") 143) (Value.type "ConnectionAbortedError"), DictEntry.mk (PyData.keyHash P (Str.ofString "ConnectionRefusedError")) (Value.str (Str.ofString "ConnectionRefusedError") 144) (Value.type "ConnectionRefusedError"), DictEntry.mk (PyData.keyHash P (Str.ofString "ConnectionResetError")) (Value.str (Str.ofString "ConnectionResetError") 145) (Value.type "ConnectionResetError"), DictEntry.mk (PyData.keyHash P (Str.ofString "TabError")) (Value.str (Str.ofString "TabError") 146) (Value.type "TabError"), DictEntry.mk (PyData.keyHash P (Str.ofString "UnicodeDecodeError")) (Value.str (Str.ofString "UnicodeDecodeError") 147) (Value.type "UnicodeDecodeError"), DictEntry.mk (PyData.keyHash P (Str.ofString "UnicodeEncodeError")) (Value.str (Str.ofString "UnicodeEncodeError") 148) (Value.type "UnicodeEncodeError"), DictEntry.mk (PyData.keyHash P (Str.ofString "UnicodeTranslateError")) (Value.str (Str.ofString "UnicodeTranslateError") 149) (Value.type "UnicodeTranslateError"), DictEntry.mk (PyData.keyHash P (Str.ofString "ExceptionGroup")) (Value.str (Str.ofString "ExceptionGroup") 150) (Value.type "ExceptionGroup"), DictEntry.mk (PyData.keyHash P (Str.ofString "EnvironmentError")) (Value.str (Str.ofString "EnvironmentError") 151) (Value.type "OSError"), DictEntry.mk (PyData.keyHash P (Str.ofString "IOError")) (Value.str (Str.ofString "IOError") 152) (Value.type "OSError"), DictEntry.mk (PyData.keyHash P (Str.ofString "open")) (Value.str (Str.ofString "open") 153) (Value.builtin "open"), DictEntry.mk (PyData.keyHash P (Str.ofString "quit")) (Value.str (Str.ofString "quit") 154) (Value.builtin "builtins.quit#opaque"), DictEntry.mk (PyData.keyHash P (Str.ofString "exit")) (Value.str (Str.ofString "exit") 155) (Value.builtin "builtins.exit#opaque"), DictEntry.mk (PyData.keyHash P (Str.ofString "copyright")) (Value.str (Str.ofString "copyright") 156) (Value.builtin "builtins.copyright#opaque"), DictEntry.mk (PyData.keyHash P (Str.ofString "credits")) (Value.str (Str.ofString "credits") 157) (Value.builtin "builtins.credits#opaque"), DictEntry.mk (PyData.keyHash P (Str.ofString "license")) (Value.str (Str.ofString "license") 158) (Value.builtin "builtins.license#opaque"), DictEntry.mk (PyData.keyHash P (Str.ofString "help")) (Value.str (Str.ofString "help") 159) (Value.builtin "builtins.help#opaque")] 159) #[]
noncomputable def o_s0_1 : Params → Obj := fun P => Obj.mk (Value.type "dict") none (Data.dict #[DictEntry.mk (PyData.keyHash P (Str.ofString "builtins")) (Value.str (Str.ofString "builtins") 162) (Value.ref 4), DictEntry.mk (PyData.keyHash P (Str.ofString "__main__")) (Value.str (Str.ofString "__main__") 163) (Value.ref 5), DictEntry.mk (PyData.keyHash P (Str.ofString "_sre")) (Value.str (Str.ofString "_sre") 244) (Value.ref 12)] 3) #[]
noncomputable def o_s0_2 : Params → Obj := fun P => Obj.mk Value.none none (Data.dict #[DictEntry.mk (PyData.keyHash P (Str.ofString "\x69mport.loaded._sre")) (Value.str (Str.ofString "\x69mport.loaded._sre") 183) (Value.bool true), DictEntry.mk (PyData.keyHash P (Str.ofString "class._frozen_importlib.BuiltinImporter")) (Value.str (Str.ofString "class._frozen_importlib.BuiltinImporter") 185) (Value.ref 14), DictEntry.mk (PyData.keyHash P (Str.ofString "watched.\x69mport")) (Value.str (Str.ofString "watched.\x69mport") 206) (Value.ref 18), DictEntry.mk (PyData.keyHash P (Str.ofString "class._frozen_importlib.ModuleSpec")) (Value.str (Str.ofString "class._frozen_importlib.ModuleSpec") 216) (Value.ref 22), DictEntry.mk (PyData.keyHash P (Str.ofString "sys.modules.booked-epoch")) (Value.str (Str.ofString "sys.modules.booked-epoch") 245) (Value.int 3 0), DictEntry.mk (PyData.keyHash P (Str.ofString "\x69mport.later-laid._sre")) (Value.str (Str.ofString "\x69mport.later-laid._sre") 270) (Value.bool true), DictEntry.mk (PyData.keyHash P (Str.ofString "watched.library")) (Value.str (Str.ofString "watched.library") 272) (Value.ref 27), DictEntry.mk (PyData.keyHash P (Str.ofString "watched.library-objects")) (Value.str (Str.ofString "watched.library-objects") 0) (Value.str (Str.ofString "\x0c") 0), DictEntry.mk (PyData.keyHash P (Str.ofString "watched.library-deep._sre")) (Value.str (Str.ofString "watched.library-deep._sre") 273) (Value.str (Str.ofString "\x04\x00\x00\x0b\x04\x00\x00\x0b\x04\x00\x00\x03\x04\x00\x00\x0b\x08\x04dict\x02") 0)] 9) #[]
noncomputable def o_s0_3 : Params → Obj := fun P => Obj.mk (Value.type "dict") none (Data.dict #[DictEntry.mk (PyData.keyHash P (Str.ofString "__name__")) (Value.str (Str.ofString "__name__") 165) (Value.str (Str.ofString "__main__") 164), DictEntry.mk (PyData.keyHash P (Str.ofString "__doc__")) (Value.str (Str.ofString "__doc__") 166) Value.none, DictEntry.mk (PyData.keyHash P (Str.ofString "__package__")) (Value.str (Str.ofString "__package__") 167) Value.none, DictEntry.mk (PyData.keyHash P (Str.ofString "__loader__")) (Value.str (Str.ofString "__loader__") 168) (Value.builtin "__main__.__loader__#opaque"), DictEntry.mk (PyData.keyHash P (Str.ofString "__spec__")) (Value.str (Str.ofString "__spec__") 169) Value.none, DictEntry.mk (PyData.keyHash P (Str.ofString "__annotations__")) (Value.str (Str.ofString "__annotations__") 170) (Value.ref 6), DictEntry.mk (PyData.keyHash P (Str.ofString "__builtins__")) (Value.str (Str.ofString "__builtins__") 171) (Value.ref 4), DictEntry.mk (PyData.keyHash P (Str.ofString "__file__")) (Value.str (Str.ofString "__file__") 173) (Value.str (Str.ofString "/claim/cut.py") 172), DictEntry.mk (PyData.keyHash P (Str.ofString "__cached__")) (Value.str (Str.ofString "__cached__") 174) Value.none, DictEntry.mk (PyData.keyHash P (Str.ofString "_sre")) (Value.str (Str.ofString "_sre") 275) (Value.ref 12)] 10) #[]
noncomputable def o_s0_4 : Params → Obj := fun P => Obj.mk (Value.type "module") (some 0) Data.plain #[]
noncomputable def o_s0_5 : Params → Obj := fun P => Obj.mk (Value.type "module") (some 3) Data.plain #[]
noncomputable def o_s0_6 : Params → Obj := fun P => Obj.mk (Value.type "dict") none (Data.dict #[]) #[]
noncomputable def o_s0_7 : Params → Obj := fun P => Obj.mk (Value.type "tuple") none (Data.seq #[]) #[]
noncomputable def o_s0_8 : Params → Obj := fun P => Obj.mk Value.none none (Data.fields #[]) #[]
noncomputable def o_s0_9 : Params → Obj := fun P => Obj.mk (Value.type "code") none (Data.fields #[Value.str (Str.ofString "<module>") 176, Value.str (Str.ofString "<module>") 177, Value.str (Str.ofString "/claim/cut.py") 178, Value.int 1 0, Value.int 0 0, Value.int 0 0, Value.int 0 0, Value.int 0 0, Value.ref 7, Value.bool false, Value.int 175 0, Value.ref 8, Value.none, Value.none, Value.none, Value.none, Value.int 179 0, Value.int 1 0, Value.str (Str.ofString "/claim/cut.py") 180]) #[]
noncomputable def o_s0_10 : Params → Obj := fun P => Obj.mk (Value.type "frame") none Data.plain #[some (Value.ref 9), some (Value.ref 3), some (Value.ref 3), none, some (Value.str (Str.ofString "__main__") 164), none, some (Value.ref 0)]
noncomputable def o_s0_11 : Params → Obj := fun P => Obj.mk (Value.type "dict") none (Data.dict #[DictEntry.mk (PyData.keyHash P (Str.ofString "__name__")) (Value.str (Str.ofString "__name__") 247) (Value.str (Str.ofString "_sre") 246), DictEntry.mk (PyData.keyHash P (Str.ofString "__doc__")) (Value.str (Str.ofString "__doc__") 248) Value.none, DictEntry.mk (PyData.keyHash P (Str.ofString "__package__")) (Value.str (Str.ofString "__package__") 250) (Value.str (Str.ofString "") 249), DictEntry.mk (PyData.keyHash P (Str.ofString "__loader__")) (Value.str (Str.ofString "__loader__") 251) (Value.builtin "off-the-table:_sre.__loader__:shared#opaque"), DictEntry.mk (PyData.keyHash P (Str.ofString "__spec__")) (Value.str (Str.ofString "__spec__") 252) (Value.builtin "off-the-table:_sre.__spec__:shared#opaque"), DictEntry.mk (PyData.keyHash P (Str.ofString "compile")) (Value.str (Str.ofString "compile") 253) (Value.builtin "_sre.compile"), DictEntry.mk (PyData.keyHash P (Str.ofString "template")) (Value.str (Str.ofString "template") 254) (Value.builtin "off-the-table:_sre.template:shared#opaque"), DictEntry.mk (PyData.keyHash P (Str.ofString "getcodesize")) (Value.str (Str.ofString "getcodesize") 255) (Value.builtin "off-the-table:_sre.getcodesize:shared#opaque"), DictEntry.mk (PyData.keyHash P (Str.ofString "ascii_iscased")) (Value.str (Str.ofString "ascii_iscased") 256) (Value.builtin "off-the-table:_sre.ascii_iscased:shared#opaque"), DictEntry.mk (PyData.keyHash P (Str.ofString "unicode_iscased")) (Value.str (Str.ofString "unicode_iscased") 257) (Value.builtin "off-the-table:_sre.unicode_iscased:shared#opaque"), DictEntry.mk (PyData.keyHash P (Str.ofString "ascii_tolower")) (Value.str (Str.ofString "ascii_tolower") 258) (Value.builtin "off-the-table:_sre.ascii_tolower:shared#opaque"), DictEntry.mk (PyData.keyHash P (Str.ofString "unicode_tolower")) (Value.str (Str.ofString "unicode_tolower") 259) (Value.builtin "off-the-table:_sre.unicode_tolower:shared#opaque"), DictEntry.mk (PyData.keyHash P (Str.ofString "MAGIC")) (Value.str (Str.ofString "MAGIC") 261) (Value.int 20230612 260), DictEntry.mk (PyData.keyHash P (Str.ofString "CODESIZE")) (Value.str (Str.ofString "CODESIZE") 263) (Value.int 4 262), DictEntry.mk (PyData.keyHash P (Str.ofString "MAXREPEAT")) (Value.str (Str.ofString "MAXREPEAT") 265) (Value.int 4294967295 264), DictEntry.mk (PyData.keyHash P (Str.ofString "MAXGROUPS")) (Value.str (Str.ofString "MAXGROUPS") 267) (Value.int 1073741823 266), DictEntry.mk (PyData.keyHash P (Str.ofString "copyright")) (Value.str (Str.ofString "copyright") 269) (Value.str (Str.ofString " SRE 2.2.2 Copyright (c) 1997-2002 by Secret Labs AB ") 268)] 17) #[]
noncomputable def o_s0_12 : Params → Obj := fun P => Obj.mk (Value.type "module") (some 11) Data.plain #[]
noncomputable def o_s0_13 : Params → Obj := fun P => Obj.mk (Value.type "dict") none (Data.dict #[DictEntry.mk (PyData.keyHash P (Str.ofString "__module__")) (Value.str (Str.ofString "__module__") 189) (Value.str (Str.ofString "_frozen_importlib") 186), DictEntry.mk (PyData.keyHash P (Str.ofString "__firstlineno__")) (Value.str (Str.ofString "__firstlineno__") 190) (Value.int 971 187), DictEntry.mk (PyData.keyHash P (Str.ofString "__doc__")) (Value.str (Str.ofString "__doc__") 191) (Value.builtin "_frozen_importlib.BuiltinImporter.__doc__:str#opaque"), DictEntry.mk (PyData.keyHash P (Str.ofString "_ORIGIN")) (Value.str (Str.ofString "_ORIGIN") 192) (Value.str (Str.ofString "built-in") 188), DictEntry.mk (PyData.keyHash P (Str.ofString "find_spec")) (Value.str (Str.ofString "find_spec") 193) (Value.builtin "_frozen_importlib.BuiltinImporter.find_spec#opaque"), DictEntry.mk (PyData.keyHash P (Str.ofString "create_module")) (Value.str (Str.ofString "create_module") 194) (Value.builtin "_frozen_importlib.BuiltinImporter.create_module#opaque"), DictEntry.mk (PyData.keyHash P (Str.ofString "exec_module")) (Value.str (Str.ofString "exec_module") 195) (Value.builtin "_frozen_importlib.BuiltinImporter.exec_module#opaque"), DictEntry.mk (PyData.keyHash P (Str.ofString "get_code")) (Value.str (Str.ofString "get_code") 196) (Value.builtin "_frozen_importlib.BuiltinImporter.get_code#opaque"), DictEntry.mk (PyData.keyHash P (Str.ofString "get_source")) (Value.str (Str.ofString "get_source") 197) (Value.builtin "_frozen_importlib.BuiltinImporter.get_source#opaque"), DictEntry.mk (PyData.keyHash P (Str.ofString "is_package")) (Value.str (Str.ofString "is_package") 198) (Value.builtin "_frozen_importlib.BuiltinImporter.is_package#opaque"), DictEntry.mk (PyData.keyHash P (Str.ofString "load_module")) (Value.str (Str.ofString "load_module") 199) (Value.builtin "_frozen_importlib.BuiltinImporter.load_module#opaque"), DictEntry.mk (PyData.keyHash P (Str.ofString "__static_attributes__")) (Value.str (Str.ofString "__static_attributes__") 200) (Value.ref 15), DictEntry.mk (PyData.keyHash P (Str.ofString "__dict__")) (Value.str (Str.ofString "__dict__") 202) (Value.ref 16), DictEntry.mk (PyData.keyHash P (Str.ofString "__weakref__")) (Value.str (Str.ofString "__weakref__") 204) (Value.ref 17)] 14) #[]
noncomputable def o_s0_14 : Params → Obj := fun P => Obj.mk (Value.type "type") none (Data.cls (ClassData.mk (Str.ofString "BuiltinImporter") [Value.type "object"] [Value.ref 14, Value.type "object"] 13 (Str.ofString "BuiltinImporter") true [] [] false none false)) #[]
noncomputable def o_s0_15 : Params → Obj := fun P => Obj.mk (Value.type "tuple") none (Data.seq #[]) #[]
noncomputable def o_s0_16 : Params → Obj := fun P => Obj.mk (Value.type "getset_descriptor") none (Data.fields #[Value.str (Str.ofString "__dict__") 201, Value.ref 14, Value.builtin "function.__dict__", Value.builtin "function.__dict__#set"]) #[]
noncomputable def o_s0_17 : Params → Obj := fun P => Obj.mk (Value.type "getset_descriptor") none (Data.fields #[Value.str (Str.ofString "__weakref__") 203, Value.ref 14, Value.builtin "ExceptionGroup.__weakref__", Value.none]) #[]
noncomputable def o_s0_18 : Params → Obj := fun P => Obj.mk Value.none none (Data.seq #[Value.int 13 0, Value.str (Str.ofString "\x06½\n__module__\x06º\x11_frozen_importlib\x06¾\x0f__firstlineno__\x04»\x00ϋ\x06¿\x07__doc__\t4_frozen_importlib.BuiltinImporter.__doc__:str#opaque\x06À\x07_ORIGIN\x06¼\x08built-in\x06Á\tfind_spec\t2_frozen_importlib.BuiltinImporter.find_spec#opaque\x06Â\x0dcreate_module\t6_frozen_importlib.BuiltinImporter.create_module#opaque\x06Ã\x0bexec_module\t4_frozen_importlib.BuiltinImporter.exec_module#opaque\x06Ä\x08get_code\t1_frozen_importlib.BuiltinImporter.get_code#opaque\x06Å\nget_source\t3_frozen_importlib.BuiltinImporter.get_source#opaque\x06Æ\nis_package\t3_frozen_importlib.BuiltinImporter.is_package#opaque\x06Ç\x0bload_module\t4_frozen_importlib.BuiltinImporter.load_module#opaque\x06È\x15__static_attributes__\x04\x00\x00\x0f\x06Ê\x08__dict__\x04\x00\x00\x10\x06Ì\x0b__weakref__\x04\x00\x00\x11") 0, Value.bool true, Value.bool true, Value.str (Str.ofString "") 205, Value.int 21 0, Value.str (Str.ofString "\x06ã\n__module__\x06Ù\x11_frozen_importlib\x06ä\x0f__firstlineno__\x04Ú\x00Ȳ\x06å\x07__doc__\t/_frozen_importlib.ModuleSpec.__doc__:str#opaque\x06æ\x08__init__\t,_frozen_importlib.ModuleSpec.__init__#opaque\x06ç\x08__repr__\t,_frozen_importlib.ModuleSpec.__repr__#opaque\x06è\x06__eq__\t*_frozen_importlib.ModuleSpec.__eq__#opaque\x06é\x06cached\t*_frozen_importlib.ModuleSpec.cached#opaque\x06ê\x06parent\t*_frozen_importlib.ModuleSpec.parent#opaque\x06ë\x0chas_location\t0_frozen_importlib.ModuleSpec.has_location#opaque\x06ì\x15__static_attributes__\x04\x00\x00\x17\x06î\x08__dict__\x04\x00\x00\x18\x06ð\x0b__weakref__\x04\x00\x00\x19\x06ñ\x08__hash__\x00") 0, Value.bool true, Value.bool true, Value.str (Str.ofString "") 242] 1) #[]
noncomputable def o_s0_19 : Params → Obj := fun P => Obj.mk (Value.type "list") none (Data.seq #[]) #[]
noncomputable def o_s0_20 : Params → Obj := fun P => Obj.mk (Value.type "dict") none (Data.dict #[DictEntry.mk (PyData.keyHash P (Str.ofString "name")) (Value.str (Str.ofString "name") 208) (Value.str (Str.ofString "_sre") 207), DictEntry.mk (PyData.keyHash P (Str.ofString "loader")) (Value.str (Str.ofString "loader") 209) (Value.ref 14), DictEntry.mk (PyData.keyHash P (Str.ofString "origin")) (Value.str (Str.ofString "origin") 210) (Value.str (Str.ofString "built-in") 184), DictEntry.mk (PyData.keyHash P (Str.ofString "loader_state")) (Value.str (Str.ofString "loader_state") 211) Value.none, DictEntry.mk (PyData.keyHash P (Str.ofString "submodule_search_locations")) (Value.str (Str.ofString "submodule_search_locations") 212) Value.none, DictEntry.mk (PyData.keyHash P (Str.ofString "_uninitialized_submodules")) (Value.str (Str.ofString "_uninitialized_submodules") 213) (Value.ref 19), DictEntry.mk (PyData.keyHash P (Str.ofString "_set_fileattr")) (Value.str (Str.ofString "_set_fileattr") 214) (Value.bool false), DictEntry.mk (PyData.keyHash P (Str.ofString "_cached")) (Value.str (Str.ofString "_cached") 215) Value.none, DictEntry.mk (PyData.keyHash P (Str.ofString "_initializing")) (Value.str (Str.ofString "_initializing") 243) (Value.bool false)] 9) #[]
noncomputable def o_s0_21 : Params → Obj := fun P => Obj.mk (Value.type "dict") none (Data.dict #[DictEntry.mk (PyData.keyHash P (Str.ofString "__module__")) (Value.str (Str.ofString "__module__") 227) (Value.str (Str.ofString "_frozen_importlib") 217), DictEntry.mk (PyData.keyHash P (Str.ofString "__firstlineno__")) (Value.str (Str.ofString "__firstlineno__") 228) (Value.int 562 218), DictEntry.mk (PyData.keyHash P (Str.ofString "__doc__")) (Value.str (Str.ofString "__doc__") 229) (Value.builtin "_frozen_importlib.ModuleSpec.__doc__:str#opaque"), DictEntry.mk (PyData.keyHash P (Str.ofString "__init__")) (Value.str (Str.ofString "__init__") 230) (Value.builtin "_frozen_importlib.ModuleSpec.__init__#opaque"), DictEntry.mk (PyData.keyHash P (Str.ofString "__repr__")) (Value.str (Str.ofString "__repr__") 231) (Value.builtin "_frozen_importlib.ModuleSpec.__repr__#opaque"), DictEntry.mk (PyData.keyHash P (Str.ofString "__eq__")) (Value.str (Str.ofString "__eq__") 232) (Value.builtin "_frozen_importlib.ModuleSpec.__eq__#opaque"), DictEntry.mk (PyData.keyHash P (Str.ofString "cached")) (Value.str (Str.ofString "cached") 233) (Value.builtin "_frozen_importlib.ModuleSpec.cached#opaque"), DictEntry.mk (PyData.keyHash P (Str.ofString "parent")) (Value.str (Str.ofString "parent") 234) (Value.builtin "_frozen_importlib.ModuleSpec.parent#opaque"), DictEntry.mk (PyData.keyHash P (Str.ofString "has_location")) (Value.str (Str.ofString "has_location") 235) (Value.builtin "_frozen_importlib.ModuleSpec.has_location#opaque"), DictEntry.mk (PyData.keyHash P (Str.ofString "__static_attributes__")) (Value.str (Str.ofString "__static_attributes__") 236) (Value.ref 23), DictEntry.mk (PyData.keyHash P (Str.ofString "__dict__")) (Value.str (Str.ofString "__dict__") 238) (Value.ref 24), DictEntry.mk (PyData.keyHash P (Str.ofString "__weakref__")) (Value.str (Str.ofString "__weakref__") 240) (Value.ref 25), DictEntry.mk (PyData.keyHash P (Str.ofString "__hash__")) (Value.str (Str.ofString "__hash__") 241) Value.none] 13) #[]
noncomputable def o_s0_22 : Params → Obj := fun P => Obj.mk (Value.type "type") none (Data.cls (ClassData.mk (Str.ofString "ModuleSpec") [Value.type "object"] [Value.ref 22, Value.type "object"] 21 (Str.ofString "ModuleSpec") true [] [] false none false)) #[]
noncomputable def o_s0_23 : Params → Obj := fun P => Obj.mk (Value.type "tuple") none (Data.seq #[Value.str (Str.ofString "_cached") 219, Value.str (Str.ofString "_set_fileattr") 220, Value.str (Str.ofString "_uninitialized_submodules") 221, Value.str (Str.ofString "loader") 222, Value.str (Str.ofString "loader_state") 223, Value.str (Str.ofString "name") 224, Value.str (Str.ofString "origin") 225, Value.str (Str.ofString "submodule_search_locations") 226]) #[]
noncomputable def o_s0_24 : Params → Obj := fun P => Obj.mk (Value.type "getset_descriptor") none (Data.fields #[Value.str (Str.ofString "__dict__") 237, Value.ref 22, Value.builtin "function.__dict__", Value.builtin "function.__dict__#set"]) #[]
noncomputable def o_s0_25 : Params → Obj := fun P => Obj.mk (Value.type "getset_descriptor") none (Data.fields #[Value.str (Str.ofString "__weakref__") 239, Value.ref 22, Value.builtin "ExceptionGroup.__weakref__", Value.none]) #[]
noncomputable def o_s0_26 : Params → Obj := fun P => Obj.mk (Value.ref 22) (some 20) Data.plain #[]
noncomputable def o_s0_27 : Params → Obj := fun P => Obj.mk Value.none none (Data.seq #[Value.int 11 0, Value.str (Str.mk #[6, 247, 8, 95, 95, 110, 97, 109, 101, 95, 95, 6, 246, 4, 95, 115, 114, 101, 6, 248, 7, 95, 95, 100, 111, 99, 95, 95, 0, 6, 250, 11, 95, 95, 112, 97, 99, 107, 97, 103, 101, 95, 95, 6, 249, 0, 6, 251, 10, 95, 95, 108, 111, 97, 100, 101, 114, 95, 95, 4, 0, 0, 14, 6, 252, 8, 95, 95, 115, 112, 101, 99, 95, 95, 4, 0, 0, 26, 6, 253, 7, 99, 111, 109, 112, 105, 108, 101, 9, 12, 95, 115, 114, 101, 46, 99, 111, 109, 112, 105, 108, 101, 6, 254, 8, 116, 101, 109, 112, 108, 97, 116, 101, 9, 13, 95, 115, 114, 101, 46, 116, 101, 109, 112, 108, 97, 116, 101, 6, 255, 11, 103, 101, 116, 99, 111, 100, 101, 115, 105, 122, 101, 9, 16, 95, 115, 114, 101, 46, 103, 101, 116, 99, 111, 100, 101, 115, 105, 122, 101, 6, 256, 13, 97, 115, 99, 105, 105, 95, 105, 115, 99, 97, 115, 101, 100, 9, 18, 95, 115, 114, 101, 46, 97, 115, 99, 105, 105, 95, 105, 115, 99, 97, 115, 101, 100, 6, 257, 15, 117, 110, 105, 99, 111, 100, 101, 95, 105, 115, 99, 97, 115, 101, 100, 9, 20, 95, 115, 114, 101, 46, 117, 110, 105, 99, 111, 100, 101, 95, 105, 115, 99, 97, 115, 101, 100, 6, 258, 13, 97, 115, 99, 105, 105, 95, 116, 111, 108, 111, 119, 101, 114, 9, 18, 95, 115, 114, 101, 46, 97, 115, 99, 105, 105, 95, 116, 111, 108, 111, 119, 101, 114, 6, 259, 15, 117, 110, 105, 99, 111, 100, 101, 95, 116, 111, 108, 111, 119, 101, 114, 9, 20, 95, 115, 114, 101, 46, 117, 110, 105, 99, 111, 100, 101, 95, 116, 111, 108, 111, 119, 101, 114, 6, 261, 5, 77, 65, 71, 73, 67, 4, 260, 0, 20230612, 6, 263, 8, 67, 79, 68, 69, 83, 73, 90, 69, 4, 262, 0, 4, 6, 265, 9, 77, 65, 88, 82, 69, 80, 69, 65, 84, 4, 264, 0, 4294967295, 6, 267, 9, 77, 65, 88, 71, 82, 79, 85, 80, 83, 4, 266, 0, 1073741823, 6, 269, 9, 99, 111, 112, 121, 114, 105, 103, 104, 116, 6, 268, 53, 32, 83, 82, 69, 32, 50, 46, 50, 46, 50, 32, 67, 111, 112, 121, 114, 105, 103, 104, 116, 32, 40, 99, 41, 32, 49, 57, 57, 55, 45, 50, 48, 48, 50, 32, 98, 121, 32, 83, 101, 99, 114, 101, 116, 32, 76, 97, 98, 115, 32, 65, 66, 32]) 0, Value.bool true, Value.bool false, Value.str (Str.ofString "_sre") 271]) #[]
noncomputable def t_s0 : Params → BT := fun P => (.node (o_s0_0 P) (.node (o_s0_1 P) (.node (o_s0_3 P) (.node (o_s0_7 P) (.node (o_s0_15 P) .nil .nil) (.node (o_s0_23 P) .nil .nil)) (.node (o_s0_11 P) (.node (o_s0_19 P) .nil .nil) (.node (o_s0_27 P) .nil .nil))) (.node (o_s0_5 P) (.node (o_s0_9 P) (.node (o_s0_17 P) .nil .nil) (.node (o_s0_25 P) .nil .nil)) (.node (o_s0_13 P) (.node (o_s0_21 P) .nil .nil) .nil))) (.node (o_s0_2 P) (.node (o_s0_4 P) (.node (o_s0_8 P) (.node (o_s0_16 P) .nil .nil) (.node (o_s0_24 P) .nil .nil)) (.node (o_s0_12 P) (.node (o_s0_20 P) .nil .nil) .nil)) (.node (o_s0_6 P) (.node (o_s0_10 P) (.node (o_s0_18 P) .nil .nil) (.node (o_s0_26 P) .nil .nil)) (.node (o_s0_14 P) (.node (o_s0_22 P) .nil .nil) .nil))))
noncomputable def S_s0 (w : World) (os : OsState) : SharedT := SharedT.mk (t_s0 w.params) 28 (Life.mk [] [] [] 0 [] [] false #[] [] 0 false false false 0 [2000, 10, 10] false 0 true [] [] 0 false) #[] (Drawn.mk 0 0 0 0) 276 os
noncomputable def o_block_28 : Params → Obj := fun P => Obj.mk (Value.type "tuple") none (Data.seq #[]) #[]
noncomputable def o_block_29 : Params → Obj := fun P => Obj.mk Value.none none (Data.fields #[]) #[]
noncomputable def o_block_30 : Params → Obj := fun P => Obj.mk (Value.type "code") none (Data.fields #[Value.str (Str.ofString "<module>") 277, Value.str (Str.ofString "<module>") 278, Value.str (Str.ofString "/claim/cut.py") 279, Value.int 1 0, Value.int 0 0, Value.int 0 0, Value.int 0 0, Value.int 0 0, Value.ref 28, Value.bool false, Value.int 276 0, Value.ref 29, Value.none, Value.none, Value.none, Value.none, Value.int 280 0, Value.int 1 0, Value.str (Str.ofString "/claim/cut.py") 281]) #[]
noncomputable def o_block_31 : Params → Obj := fun P => Obj.mk (Value.type "frame") none Data.plain #[some (Value.ref 30), some (Value.ref 3), some (Value.ref 3), none, some (Value.str (Str.ofString "__main__") 164), none, some (Value.ref 0)]
noncomputable def t_block : Params → BT := fun P => (.node (o_s0_0 P) (.node (o_s0_1 P) (.node (o_s0_3 P) (.node (o_s0_7 P) (.node (o_s0_15 P) (.node (o_block_31 P) .nil .nil) .nil) (.node (o_s0_23 P) .nil .nil)) (.node (o_s0_11 P) (.node (o_s0_19 P) .nil .nil) (.node (o_s0_27 P) .nil .nil))) (.node (o_s0_5 P) (.node (o_s0_9 P) (.node (o_s0_17 P) .nil .nil) (.node (o_s0_25 P) .nil .nil)) (.node (o_s0_13 P) (.node (o_s0_21 P) .nil .nil) (.node (o_block_29 P) .nil .nil)))) (.node (o_s0_2 P) (.node (o_s0_4 P) (.node (o_s0_8 P) (.node (o_s0_16 P) .nil .nil) (.node (o_s0_24 P) .nil .nil)) (.node (o_s0_12 P) (.node (o_s0_20 P) .nil .nil) (.node (o_block_28 P) .nil .nil))) (.node (o_s0_6 P) (.node (o_s0_10 P) (.node (o_s0_18 P) .nil .nil) (.node (o_s0_26 P) .nil .nil)) (.node (o_s0_14 P) (.node (o_s0_22 P) .nil .nil) (.node (o_block_30 P) .nil .nil)))))
noncomputable def S_block (w : World) (os : OsState) : SharedT := SharedT.mk (t_block w.params) 32 (Life.mk [] [] [] 0 [] [] false #[] [] 0 false false false 0 [2000, 10, 10] false 0 true [] [] 0 false) #[] (Drawn.mk 0 0 0 0) 282 os
noncomputable def o_p5_3 : Params → Obj := fun P => Obj.mk (Value.type "dict") none (Data.dict #[DictEntry.mk (PyData.keyHash P (Str.ofString "__name__")) (Value.str (Str.ofString "__name__") 165) (Value.str (Str.ofString "cpy313.stringprep") 310), DictEntry.mk (PyData.keyHash P (Str.ofString "__doc__")) (Value.str (Str.ofString "__doc__") 166) Value.none, DictEntry.mk (PyData.keyHash P (Str.ofString "__package__")) (Value.str (Str.ofString "__package__") 167) Value.none, DictEntry.mk (PyData.keyHash P (Str.ofString "__loader__")) (Value.str (Str.ofString "__loader__") 168) (Value.builtin "__main__.__loader__#opaque"), DictEntry.mk (PyData.keyHash P (Str.ofString "__spec__")) (Value.str (Str.ofString "__spec__") 169) Value.none, DictEntry.mk (PyData.keyHash P (Str.ofString "__annotations__")) (Value.str (Str.ofString "__annotations__") 170) (Value.ref 6), DictEntry.mk (PyData.keyHash P (Str.ofString "__builtins__")) (Value.str (Str.ofString "__builtins__") 171) (Value.ref 4), DictEntry.mk (PyData.keyHash P (Str.ofString "__file__")) (Value.str (Str.ofString "__file__") 173) (Value.str (Str.ofString "/claim/cut.py") 172), DictEntry.mk (PyData.keyHash P (Str.ofString "__cached__")) (Value.str (Str.ofString "__cached__") 174) Value.none, DictEntry.mk (PyData.keyHash P (Str.ofString "_sre")) (Value.str (Str.ofString "_sre") 275) (Value.ref 12), DictEntry.mk (PyData.keyHash P (Str.ofString "_wall")) (Value.str (Str.ofString "_wall") 288) (Value.ref 38), DictEntry.mk (PyData.keyHash P (Str.ofString "_strcoll")) (Value.str (Str.ofString "_strcoll") 298) (Value.ref 45), DictEntry.mk (PyData.keyHash P (Str.ofString "CHAR_MAX")) (Value.str (Str.ofString "CHAR_MAX") 300) (Value.int 127 299), DictEntry.mk (PyData.keyHash P (Str.ofString "_grouping_intervals")) (Value.str (Str.ofString "_grouping_intervals") 309) (Value.ref 52)] 14) #[]
noncomputable def o_p5_29 : Params → Obj := fun P => Obj.mk Value.none none (Data.fields #[Value.int 2 0, Value.int 0 0, Value.ref 37, Value.int 6 0, Value.int 0 0, Value.ref 44, Value.int 9 0, Value.int 0 0, Value.ref 51]) #[]
noncomputable def o_p5_32 : Params → Obj := fun P => Obj.mk (Value.type "tuple") none (Data.seq #[]) #[]
noncomputable def o_p5_33 : Params → Obj := fun P => Obj.mk Value.none none (Data.fields #[]) #[]
noncomputable def o_p5_34 : Params → Obj := fun P => Obj.mk (Value.type "tuple") none (Data.seq #[Value.str (Str.ofString "k") 285]) #[]
noncomputable def o_p5_35 : Params → Obj := fun P => Obj.mk (Value.type "tuple") none (Data.seq #[]) #[]
noncomputable def o_p5_36 : Params → Obj := fun P => Obj.mk (Value.none) (none) (Data.func (FuncData.mk (Str.ofString "_wall") (Str.ofString "_wall") (fPars (stm 1)) (.stmts (fBody (stm 1))) (fScope (stm 1)) (0) ([]) (Value.none) (Value.none) (Value.none) (Value.none) (none) (Value.none) (Value.none) (0))) (#[])
noncomputable def o_p5_37 : Params → Obj := fun P => Obj.mk (Value.type "code") none (Data.fields #[Value.str (Str.ofString "_wall") 282, Value.str (Str.ofString "_wall") 283, Value.str (Str.ofString "/claim/cut.py") 284, Value.int 2 0, Value.int 1 0, Value.int 0 0, Value.int 0 0, Value.int 3 0, Value.ref 32, Value.bool true, Value.int 276 0, Value.ref 33, Value.none, Value.ref 34, Value.ref 35, Value.ref 36, Value.int 286 0, Value.int 2 0, Value.str (Str.ofString "/claim/cut.py") 287]) #[]
noncomputable def o_p5_38 : Params → Obj := fun P => Obj.mk (Value.type "function") (none) (Data.func (FuncData.mk (Str.ofString "_wall") (Str.ofString "_wall") (fPars (stm 1)) (.stmts (fBody (stm 1))) (fScope (stm 1)) (3) ([]) (Value.none) (Value.none) (Value.none) (Value.str (Str.ofString "__main__") 164) (none) (Value.ref 37) (Value.none) (0))) (#[])
noncomputable def o_p5_39 : Params → Obj := fun P => Obj.mk (Value.type "tuple") none (Data.seq #[]) #[]
noncomputable def o_p5_40 : Params → Obj := fun P => Obj.mk Value.none none (Data.fields #[]) #[]
noncomputable def o_p5_41 : Params → Obj := fun P => Obj.mk (Value.type "tuple") none (Data.seq #[Value.str (Str.ofString "a") 294, Value.str (Str.ofString "b") 295]) #[]
noncomputable def o_p5_42 : Params → Obj := fun P => Obj.mk (Value.type "tuple") none (Data.seq #[]) #[]
noncomputable def o_p5_43 : Params → Obj := fun P => Obj.mk (Value.none) (none) (Data.func (FuncData.mk (Str.ofString "_strcoll") (Str.ofString "_strcoll") (fPars (stm 3)) (.stmts (fBody (stm 3))) (fScope (stm 3)) (0) ([]) (Value.none) (Value.none) (Value.none) (Value.none) (none) (Value.none) (Value.none) (0))) (#[])
noncomputable def o_p5_44 : Params → Obj := fun P => Obj.mk (Value.type "code") none (Data.fields #[Value.str (Str.ofString "_strcoll") 291, Value.str (Str.ofString "_strcoll") 292, Value.str (Str.ofString "/claim/cut.py") 293, Value.int 6 0, Value.int 2 0, Value.int 0 0, Value.int 0 0, Value.int 3 0, Value.ref 39, Value.bool true, Value.int 276 0, Value.ref 40, Value.none, Value.ref 41, Value.ref 42, Value.ref 43, Value.int 296 0, Value.int 6 0, Value.str (Str.ofString "/claim/cut.py") 297]) #[]
noncomputable def o_p5_45 : Params → Obj := fun P => Obj.mk (Value.type "function") (none) (Data.func (FuncData.mk (Str.ofString "_strcoll") (Str.ofString "_strcoll") (fPars (stm 3)) (.stmts (fBody (stm 3))) (fScope (stm 3)) (3) ([]) (Value.none) (Value.none) (Value.none) (Value.str (Str.ofString "cpy313.locale") 289) (none) (Value.ref 44) (Value.none) (0))) (#[])
noncomputable def o_p5_46 : Params → Obj := fun P => Obj.mk (Value.type "tuple") none (Data.seq #[]) #[]
noncomputable def o_p5_47 : Params → Obj := fun P => Obj.mk Value.none none (Data.fields #[]) #[]
noncomputable def o_p5_48 : Params → Obj := fun P => Obj.mk (Value.type "tuple") none (Data.seq #[Value.str (Str.ofString "grouping") 304, Value.str (Str.ofString "last_interval") 305, Value.str (Str.ofString "interval") 306]) #[]
noncomputable def o_p5_49 : Params → Obj := fun P => Obj.mk (Value.type "tuple") none (Data.seq #[]) #[]
noncomputable def o_p5_50 : Params → Obj := fun P => Obj.mk (Value.none) (none) (Data.func (FuncData.mk (Str.ofString "_grouping_intervals") (Str.ofString "_grouping_intervals") (fPars (stm 5)) (.stmts (fBody (stm 5))) (fScope (stm 5)) (0) ([]) (Value.none) (Value.none) (Value.none) (Value.none) (none) (Value.none) (Value.none) (0))) (#[])
noncomputable def o_p5_51 : Params → Obj := fun P => Obj.mk (Value.type "code") none (Data.fields #[Value.str (Str.ofString "_grouping_intervals") 301, Value.str (Str.ofString "_grouping_intervals") 302, Value.str (Str.ofString "/claim/cut.py") 303, Value.int 9 0, Value.int 1 0, Value.int 0 0, Value.int 0 0, Value.int 35 0, Value.ref 46, Value.bool true, Value.int 276 0, Value.ref 47, Value.none, Value.ref 48, Value.ref 49, Value.ref 50, Value.int 307 0, Value.int 9 0, Value.str (Str.ofString "/claim/cut.py") 308]) #[]
noncomputable def o_p5_52 : Params → Obj := fun P => Obj.mk (Value.type "function") (none) (Data.func (FuncData.mk (Str.ofString "_grouping_intervals") (Str.ofString "_grouping_intervals") (fPars (stm 5)) (.stmts (fBody (stm 5))) (fScope (stm 5)) (3) ([]) (Value.none) (Value.none) (Value.none) (Value.str (Str.ofString "cpy313.locale") 289) (none) (Value.ref 51) (Value.none) (0))) (#[])
noncomputable def t_p5 : Params → BT := fun P => (.node (o_s0_0 P) (.node (o_s0_1 P) (.node (o_p5_3 P) (.node (o_s0_7 P) (.node (o_s0_15 P) (.node (o_block_31 P) .nil .nil) (.node (o_p5_47 P) .nil .nil)) (.node (o_s0_23 P) (.node (o_p5_39 P) .nil .nil) .nil)) (.node (o_s0_11 P) (.node (o_s0_19 P) (.node (o_p5_35 P) .nil .nil) (.node (o_p5_51 P) .nil .nil)) (.node (o_s0_27 P) (.node (o_p5_43 P) .nil .nil) .nil))) (.node (o_s0_5 P) (.node (o_s0_9 P) (.node (o_s0_17 P) (.node (o_p5_33 P) .nil .nil) (.node (o_p5_49 P) .nil .nil)) (.node (o_s0_25 P) (.node (o_p5_41 P) .nil .nil) .nil)) (.node (o_s0_13 P) (.node (o_s0_21 P) (.node (o_p5_37 P) .nil .nil) .nil) (.node (o_p5_29 P) (.node (o_p5_45 P) .nil .nil) .nil)))) (.node (o_s0_2 P) (.node (o_s0_4 P) (.node (o_s0_8 P) (.node (o_s0_16 P) (.node (o_p5_32 P) .nil .nil) (.node (o_p5_48 P) .nil .nil)) (.node (o_s0_24 P) (.node (o_p5_40 P) .nil .nil) .nil)) (.node (o_s0_12 P) (.node (o_s0_20 P) (.node (o_p5_36 P) .nil .nil) (.node (o_p5_52 P) .nil .nil)) (.node (o_block_28 P) (.node (o_p5_44 P) .nil .nil) .nil))) (.node (o_s0_6 P) (.node (o_s0_10 P) (.node (o_s0_18 P) (.node (o_p5_34 P) .nil .nil) (.node (o_p5_50 P) .nil .nil)) (.node (o_s0_26 P) (.node (o_p5_42 P) .nil .nil) .nil)) (.node (o_s0_14 P) (.node (o_s0_22 P) (.node (o_p5_38 P) .nil .nil) .nil) (.node (o_block_30 P) (.node (o_p5_46 P) .nil .nil) .nil)))))
noncomputable def S_p5 (w : World) (os : OsState) : SharedT := SharedT.mk (t_p5 w.params) 53 (Life.mk [] [] [] 0 [] [] false #[] [] 0 false false false 0 [2000, 10, 10] false 0 true [] [] 0 false) #[] (Drawn.mk 0 0 0 0) 312 os
noncomputable def o_p6_3 : Params → Obj := fun P => Obj.mk (Value.type "dict") none (Data.dict #[DictEntry.mk (PyData.keyHash P (Str.ofString "__name__")) (Value.str (Str.ofString "__name__") 165) (Value.str (Str.ofString "cpy313.stringprep") 310), DictEntry.mk (PyData.keyHash P (Str.ofString "__doc__")) (Value.str (Str.ofString "__doc__") 166) Value.none, DictEntry.mk (PyData.keyHash P (Str.ofString "__package__")) (Value.str (Str.ofString "__package__") 167) Value.none, DictEntry.mk (PyData.keyHash P (Str.ofString "__loader__")) (Value.str (Str.ofString "__loader__") 168) (Value.builtin "__main__.__loader__#opaque"), DictEntry.mk (PyData.keyHash P (Str.ofString "__spec__")) (Value.str (Str.ofString "__spec__") 169) Value.none, DictEntry.mk (PyData.keyHash P (Str.ofString "__annotations__")) (Value.str (Str.ofString "__annotations__") 170) (Value.ref 6), DictEntry.mk (PyData.keyHash P (Str.ofString "__builtins__")) (Value.str (Str.ofString "__builtins__") 171) (Value.ref 4), DictEntry.mk (PyData.keyHash P (Str.ofString "__file__")) (Value.str (Str.ofString "__file__") 173) (Value.str (Str.ofString "/claim/cut.py") 172), DictEntry.mk (PyData.keyHash P (Str.ofString "__cached__")) (Value.str (Str.ofString "__cached__") 174) Value.none, DictEntry.mk (PyData.keyHash P (Str.ofString "_sre")) (Value.str (Str.ofString "_sre") 275) (Value.ref 12), DictEntry.mk (PyData.keyHash P (Str.ofString "_wall")) (Value.str (Str.ofString "_wall") 288) (Value.ref 38), DictEntry.mk (PyData.keyHash P (Str.ofString "_strcoll")) (Value.str (Str.ofString "_strcoll") 298) (Value.ref 45), DictEntry.mk (PyData.keyHash P (Str.ofString "CHAR_MAX")) (Value.str (Str.ofString "CHAR_MAX") 300) (Value.int 127 299), DictEntry.mk (PyData.keyHash P (Str.ofString "_grouping_intervals")) (Value.str (Str.ofString "_grouping_intervals") 309) (Value.ref 52), DictEntry.mk (PyData.keyHash P (Str.ofString "b1_set")) (Value.str (Str.ofString "b1_set") 371) (Value.ref 60)] 15) #[]
noncomputable def o_p6_53 : Params → Obj := fun P => Obj.mk (Value.type "list") none (Data.seq #[Value.int 173 312, Value.int 847 313, Value.int 6150 314, Value.int 6155 315, Value.int 6156 316, Value.int 6157 317, Value.int 8203 318, Value.int 8204 319, Value.int 8205 320, Value.int 8288 321, Value.int 65279 322]) #[]
noncomputable def o_p6_54 : Params → Obj := fun P => Obj.mk (Value.type "range") none (Data.fields #[Value.int 65024 323, Value.int 65040 324, Value.int 1 325]) #[]
noncomputable def o_p6_55 : Params → Obj := fun P => Obj.mk (Value.type "list") none (Data.seq #[Value.int 65024 328, Value.int 65025 329, Value.int 65026 330, Value.int 65027 331, Value.int 65028 332, Value.int 65029 333, Value.int 65030 334, Value.int 65031 335, Value.int 65032 336, Value.int 65033 337, Value.int 65034 338, Value.int 65035 339, Value.int 65036 340, Value.int 65037 341, Value.int 65038 342, Value.int 65039 343] 18) #[]
noncomputable def o_p6_56 : Params → Obj := fun P => Obj.mk (Value.type "range_iterator") none (Data.fields #[Value.int 65040 0, Value.int 0 0, Value.int 1 0]) #[]
noncomputable def o_p6_57 : Params → Obj := fun P => Obj.mk (Value.type "tuple") none (Data.seq #[]) #[]
noncomputable def o_p6_58 : Params → Obj := fun P => Obj.mk (Value.type "StopIteration") none (Data.fields #[Value.ref 57, Value.none, Value.none, Value.none, Value.bool false, Value.none]) #[]
noncomputable def o_p6_59 : Params → Obj := fun P => Obj.mk (Value.type "list") none (Data.seq #[Value.int 173 312, Value.int 847 313, Value.int 6150 314, Value.int 6155 315, Value.int 6156 316, Value.int 6157 317, Value.int 8203 318, Value.int 8204 319, Value.int 8205 320, Value.int 8288 321, Value.int 65279 322, Value.int 65024 328, Value.int 65025 329, Value.int 65026 330, Value.int 65027 331, Value.int 65028 332, Value.int 65029 333, Value.int 65030 334, Value.int 65031 335, Value.int 65032 336, Value.int 65033 337, Value.int 65034 338, Value.int 65035 339, Value.int 65036 340, Value.int 65037 341, Value.int 65038 342, Value.int 65039 343]) #[]
noncomputable def o_p6_60 : Params → Obj := fun P => Obj.mk (Value.type "set") none (Data.set #[(65024, Value.int 65024 328), (65025, Value.int 65025 329), (65026, Value.int 65026 330), (65027, Value.int 65027 331), (65028, Value.int 65028 332), (65029, Value.int 65029 333), (6150, Value.int 6150 314), (65030, Value.int 65030 334), (65031, Value.int 65031 335), (65032, Value.int 65032 336), (65033, Value.int 65033 337), (6155, Value.int 6155 315), (6156, Value.int 6156 316), (6157, Value.int 6157 317), (8203, Value.int 8203 318), (8204, Value.int 8204 319), (8205, Value.int 8205 320), (65034, Value.int 65034 338), (65035, Value.int 65035 339), (65036, Value.int 65036 340), (65037, Value.int 65037 341), (65038, Value.int 65038 342), (65039, Value.int 65039 343), (173, Value.int 173 312), (847, Value.int 847 313), (8288, Value.int 8288 321), (65279, Value.int 65279 322)] 29 (SetTable.mk 127 #[0, 1, 2, 3, 4, 5, 6, 7, 8, 9, 10, 11, 12, 13, 14, 15, 16, 17, 18, 19, 20, 21, 22, 45, 79, 96, 127] #[] 0 (!P.followText "set-order") 2 true)) #[]
noncomputable def o_p6_61 : Params → Obj := fun P => Obj.mk (Value.type "list_iterator") none (Data.fields #[Value.none, Value.int 27 0]) #[]
noncomputable def o_p6_62 : Params → Obj := fun P => Obj.mk (Value.type "tuple") none (Data.seq #[]) #[]
noncomputable def o_p6_63 : Params → Obj := fun P => Obj.mk (Value.type "StopIteration") none (Data.fields #[Value.ref 62, Value.none, Value.none, Value.none, Value.bool false, Value.none]) #[]
noncomputable def t_p6 : Params → BT := fun P => (.node (o_s0_0 P) (.node (o_s0_1 P) (.node (o_p6_3 P) (.node (o_s0_7 P) (.node (o_s0_15 P) (.node (o_block_31 P) (.node (o_p6_63 P) .nil .nil) .nil) (.node (o_p5_47 P) .nil .nil)) (.node (o_s0_23 P) (.node (o_p5_39 P) .nil .nil) (.node (o_p6_55 P) .nil .nil))) (.node (o_s0_11 P) (.node (o_s0_19 P) (.node (o_p5_35 P) .nil .nil) (.node (o_p5_51 P) .nil .nil)) (.node (o_s0_27 P) (.node (o_p5_43 P) .nil .nil) (.node (o_p6_59 P) .nil .nil)))) (.node (o_s0_5 P) (.node (o_s0_9 P) (.node (o_s0_17 P) (.node (o_p5_33 P) .nil .nil) (.node (o_p5_49 P) .nil .nil)) (.node (o_s0_25 P) (.node (o_p5_41 P) .nil .nil) (.node (o_p6_57 P) .nil .nil))) (.node (o_s0_13 P) (.node (o_s0_21 P) (.node (o_p5_37 P) .nil .nil) (.node (o_p6_53 P) .nil .nil)) (.node (o_p5_29 P) (.node (o_p5_45 P) .nil .nil) (.node (o_p6_61 P) .nil .nil))))) (.node (o_s0_2 P) (.node (o_s0_4 P) (.node (o_s0_8 P) (.node (o_s0_16 P) (.node (o_p5_32 P) .nil .nil) (.node (o_p5_48 P) .nil .nil)) (.node (o_s0_24 P) (.node (o_p5_40 P) .nil .nil) (.node (o_p6_56 P) .nil .nil))) (.node (o_s0_12 P) (.node (o_s0_20 P) (.node (o_p5_36 P) .nil .nil) (.node (o_p5_52 P) .nil .nil)) (.node (o_block_28 P) (.node (o_p5_44 P) .nil .nil) (.node (o_p6_60 P) .nil .nil)))) (.node (o_s0_6 P) (.node (o_s0_10 P) (.node (o_s0_18 P) (.node (o_p5_34 P) .nil .nil) (.node (o_p5_50 P) .nil .nil)) (.node (o_s0_26 P) (.node (o_p5_42 P) .nil .nil) (.node (o_p6_58 P) .nil .nil))) (.node (o_s0_14 P) (.node (o_s0_22 P) (.node (o_p5_38 P) .nil .nil) (.node (o_p6_54 P) .nil .nil)) (.node (o_block_30 P) (.node (o_p5_46 P) .nil .nil) (.node (o_p6_62 P) .nil .nil))))))
noncomputable def S_p6 (w : World) (os : OsState) : SharedT := SharedT.mk (t_p6 w.params) 64 (Life.mk [] [] [] 0 [] [] false #[] [] 0 false false false 0 [2000, 10, 10] false 0 true [] [] 0 false) #[] (Drawn.mk 0 0 0 0) 372 os
noncomputable def o_p7_3 : Params → Obj := fun P => Obj.mk (Value.type "dict") none (Data.dict #[DictEntry.mk (PyData.keyHash P (Str.ofString "__name__")) (Value.str (Str.ofString "__name__") 165) (Value.str (Str.ofString "cpy313.stringprep") 310), DictEntry.mk (PyData.keyHash P (Str.ofString "__doc__")) (Value.str (Str.ofString "__doc__") 166) Value.none, DictEntry.mk (PyData.keyHash P (Str.ofString "__package__")) (Value.str (Str.ofString "__package__") 167) Value.none, DictEntry.mk (PyData.keyHash P (Str.ofString "__loader__")) (Value.str (Str.ofString "__loader__") 168) (Value.builtin "__main__.__loader__#opaque"), DictEntry.mk (PyData.keyHash P (Str.ofString "__spec__")) (Value.str (Str.ofString "__spec__") 169) Value.none, DictEntry.mk (PyData.keyHash P (Str.ofString "__annotations__")) (Value.str (Str.ofString "__annotations__") 170) (Value.ref 6), DictEntry.mk (PyData.keyHash P (Str.ofString "__builtins__")) (Value.str (Str.ofString "__builtins__") 171) (Value.ref 4), DictEntry.mk (PyData.keyHash P (Str.ofString "__file__")) (Value.str (Str.ofString "__file__") 173) (Value.str (Str.ofString "/claim/cut.py") 172), DictEntry.mk (PyData.keyHash P (Str.ofString "__cached__")) (Value.str (Str.ofString "__cached__") 174) Value.none, DictEntry.mk (PyData.keyHash P (Str.ofString "_sre")) (Value.str (Str.ofString "_sre") 275) (Value.ref 12), DictEntry.mk (PyData.keyHash P (Str.ofString "_wall")) (Value.str (Str.ofString "_wall") 288) (Value.ref 38), DictEntry.mk (PyData.keyHash P (Str.ofString "_strcoll")) (Value.str (Str.ofString "_strcoll") 298) (Value.ref 45), DictEntry.mk (PyData.keyHash P (Str.ofString "CHAR_MAX")) (Value.str (Str.ofString "CHAR_MAX") 300) (Value.int 127 299), DictEntry.mk (PyData.keyHash P (Str.ofString "_grouping_intervals")) (Value.str (Str.ofString "_grouping_intervals") 309) (Value.ref 52), DictEntry.mk (PyData.keyHash P (Str.ofString "b1_set")) (Value.str (Str.ofString "b1_set") 371) (Value.ref 60), DictEntry.mk (PyData.keyHash P (Str.ofString "in_table_b1")) (Value.str (Str.ofString "in_table_b1") 378) (Value.ref 70)] 16) #[]
noncomputable def o_p7_29 : Params → Obj := fun P => Obj.mk Value.none none (Data.fields #[Value.int 2 0, Value.int 0 0, Value.ref 37, Value.int 6 0, Value.int 0 0, Value.ref 44, Value.int 9 0, Value.int 0 0, Value.ref 51, Value.int 23 0, Value.int 0 0, Value.ref 69]) #[]
noncomputable def o_p7_64 : Params → Obj := fun P => Obj.mk (Value.type "tuple") none (Data.seq #[]) #[]
noncomputable def o_p7_65 : Params → Obj := fun P => Obj.mk Value.none none (Data.fields #[]) #[]
noncomputable def o_p7_66 : Params → Obj := fun P => Obj.mk (Value.type "tuple") none (Data.seq #[Value.str (Str.ofString "code") 375]) #[]
noncomputable def o_p7_67 : Params → Obj := fun P => Obj.mk (Value.type "tuple") none (Data.seq #[]) #[]
noncomputable def o_p7_68 : Params → Obj := fun P => Obj.mk (Value.none) (none) (Data.func (FuncData.mk (Str.ofString "in_table_b1") (Str.ofString "in_table_b1") (fPars (stm 8)) (.stmts (fBody (stm 8))) (fScope (stm 8)) (0) ([]) (Value.none) (Value.none) (Value.none) (Value.none) (none) (Value.none) (Value.none) (0))) (#[])
noncomputable def o_p7_69 : Params → Obj := fun P => Obj.mk (Value.type "code") none (Data.fields #[Value.str (Str.ofString "in_table_b1") 372, Value.str (Str.ofString "in_table_b1") 373, Value.str (Str.ofString "/claim/cut.py") 374, Value.int 23 0, Value.int 1 0, Value.int 0 0, Value.int 0 0, Value.int 3 0, Value.ref 64, Value.bool true, Value.int 276 0, Value.ref 65, Value.none, Value.ref 66, Value.ref 67, Value.ref 68, Value.int 376 0, Value.int 23 0, Value.str (Str.ofString "/claim/cut.py") 377]) #[]
noncomputable def o_p7_70 : Params → Obj := fun P => Obj.mk (Value.type "function") (none) (Data.func (FuncData.mk (Str.ofString "in_table_b1") (Str.ofString "in_table_b1") (fPars (stm 8)) (.stmts (fBody (stm 8))) (fScope (stm 8)) (3) ([]) (Value.none) (Value.none) (Value.none) (Value.str (Str.ofString "cpy313.stringprep") 310) (none) (Value.ref 69) (Value.none) (0))) (#[])
noncomputable def t_p7 : Params → BT := fun P => (.node (o_s0_0 P) (.node (o_s0_1 P) (.node (o_p7_3 P) (.node (o_s0_7 P) (.node (o_s0_15 P) (.node (o_block_31 P) (.node (o_p6_63 P) .nil .nil) .nil) (.node (o_p5_47 P) .nil .nil)) (.node (o_s0_23 P) (.node (o_p5_39 P) .nil .nil) (.node (o_p6_55 P) .nil .nil))) (.node (o_s0_11 P) (.node (o_s0_19 P) (.node (o_p5_35 P) (.node (o_p7_67 P) .nil .nil) .nil) (.node (o_p5_51 P) .nil .nil)) (.node (o_s0_27 P) (.node (o_p5_43 P) .nil .nil) (.node (o_p6_59 P) .nil .nil)))) (.node (o_s0_5 P) (.node (o_s0_9 P) (.node (o_s0_17 P) (.node (o_p5_33 P) (.node (o_p7_65 P) .nil .nil) .nil) (.node (o_p5_49 P) .nil .nil)) (.node (o_s0_25 P) (.node (o_p5_41 P) .nil .nil) (.node (o_p6_57 P) .nil .nil))) (.node (o_s0_13 P) (.node (o_s0_21 P) (.node (o_p5_37 P) (.node (o_p7_69 P) .nil .nil) .nil) (.node (o_p6_53 P) .nil .nil)) (.node (o_p7_29 P) (.node (o_p5_45 P) .nil .nil) (.node (o_p6_61 P) .nil .nil))))) (.node (o_s0_2 P) (.node (o_s0_4 P) (.node (o_s0_8 P) (.node (o_s0_16 P) (.node (o_p5_32 P) (.node (o_p7_64 P) .nil .nil) .nil) (.node (o_p5_48 P) .nil .nil)) (.node (o_s0_24 P) (.node (o_p5_40 P) .nil .nil) (.node (o_p6_56 P) .nil .nil))) (.node (o_s0_12 P) (.node (o_s0_20 P) (.node (o_p5_36 P) (.node (o_p7_68 P) .nil .nil) .nil) (.node (o_p5_52 P) .nil .nil)) (.node (o_block_28 P) (.node (o_p5_44 P) .nil .nil) (.node (o_p6_60 P) .nil .nil)))) (.node (o_s0_6 P) (.node (o_s0_10 P) (.node (o_s0_18 P) (.node (o_p5_34 P) (.node (o_p7_66 P) .nil .nil) .nil) (.node (o_p5_50 P) .nil .nil)) (.node (o_s0_26 P) (.node (o_p5_42 P) .nil .nil) (.node (o_p6_58 P) .nil .nil))) (.node (o_s0_14 P) (.node (o_s0_22 P) (.node (o_p5_38 P) (.node (o_p7_70 P) .nil .nil) .nil) (.node (o_p6_54 P) .nil .nil)) (.node (o_block_30 P) (.node (o_p5_46 P) .nil .nil) (.node (o_p6_62 P) .nil .nil))))))
noncomputable def S_p7 (w : World) (os : OsState) : SharedT := SharedT.mk (t_p7 w.params) 71 (Life.mk [] [] [] 0 [] [] false #[] [] 0 false false false 0 [2000, 10, 10] false 0 true [] [] 0 false) #[] (Drawn.mk 0 0 0 0) 379 os
noncomputable def o_p8_3 : Params → Obj := fun P => Obj.mk (Value.type "dict") none (Data.dict #[DictEntry.mk (PyData.keyHash P (Str.ofString "__name__")) (Value.str (Str.ofString "__name__") 165) (Value.str (Str.ofString "cpy313.stringprep") 310), DictEntry.mk (PyData.keyHash P (Str.ofString "__doc__")) (Value.str (Str.ofString "__doc__") 166) Value.none, DictEntry.mk (PyData.keyHash P (Str.ofString "__package__")) (Value.str (Str.ofString "__package__") 167) Value.none, DictEntry.mk (PyData.keyHash P (Str.ofString "__loader__")) (Value.str (Str.ofString "__loader__") 168) (Value.builtin "__main__.__loader__#opaque"), DictEntry.mk (PyData.keyHash P (Str.ofString "__spec__")) (Value.str (Str.ofString "__spec__") 169) Value.none, DictEntry.mk (PyData.keyHash P (Str.ofString "__annotations__")) (Value.str (Str.ofString "__annotations__") 170) (Value.ref 6), DictEntry.mk (PyData.keyHash P (Str.ofString "__builtins__")) (Value.str (Str.ofString "__builtins__") 171) (Value.ref 4), DictEntry.mk (PyData.keyHash P (Str.ofString "__file__")) (Value.str (Str.ofString "__file__") 173) (Value.str (Str.ofString "/claim/cut.py") 172), DictEntry.mk (PyData.keyHash P (Str.ofString "__cached__")) (Value.str (Str.ofString "__cached__") 174) Value.none, DictEntry.mk (PyData.keyHash P (Str.ofString "_sre")) (Value.str (Str.ofString "_sre") 275) (Value.ref 12), DictEntry.mk (PyData.keyHash P (Str.ofString "_wall")) (Value.str (Str.ofString "_wall") 288) (Value.ref 38), DictEntry.mk (PyData.keyHash P (Str.ofString "_strcoll")) (Value.str (Str.ofString "_strcoll") 298) (Value.ref 45), DictEntry.mk (PyData.keyHash P (Str.ofString "CHAR_MAX")) (Value.str (Str.ofString "CHAR_MAX") 300) (Value.int 127 299), DictEntry.mk (PyData.keyHash P (Str.ofString "_grouping_intervals")) (Value.str (Str.ofString "_grouping_intervals") 309) (Value.ref 52), DictEntry.mk (PyData.keyHash P (Str.ofString "b1_set")) (Value.str (Str.ofString "b1_set") 371) (Value.ref 60), DictEntry.mk (PyData.keyHash P (Str.ofString "in_table_b1")) (Value.str (Str.ofString "in_table_b1") 378) (Value.ref 70), DictEntry.mk (PyData.keyHash P (Str.ofString "b3_exceptions")) (Value.str (Str.ofString "b3_exceptions") 2329) (Value.ref 71)] 17) #[]
noncomputable def o_p8_71 : Params → Obj := fun _ => dictO entsAll
noncomputable def o_p8_72 : Params → Obj := fun _ => dictO ((ents9.drop 17).take 17)
noncomputable def o_p8_73 : Params → Obj := fun _ => dictO ((ents9.drop 34).take 17)
noncomputable def o_p8_74 : Params → Obj := fun _ => dictO ((ents9.drop 51).take 17)
noncomputable def o_p8_75 : Params → Obj := fun _ => dictO ((ents9.drop 68).take 17)
noncomputable def o_p8_76 : Params → Obj := fun _ => dictO ((ents9.drop 85).take 17)
noncomputable def o_p8_77 : Params → Obj := fun _ => dictO ((ents9.drop 102).take 17)
noncomputable def o_p8_78 : Params → Obj := fun _ => dictO ((ents9.drop 119).take 17)
noncomputable def o_p8_79 : Params → Obj := fun _ => dictO ((ents9.drop 136).take 17)
noncomputable def o_p8_80 : Params → Obj := fun _ => dictO ((ents9.drop 153).take 17)
noncomputable def o_p8_81 : Params → Obj := fun _ => dictO ((ents9.drop 170).take 17)
noncomputable def o_p8_82 : Params → Obj := fun _ => dictO ((ents9.drop 187).take 17)
noncomputable def o_p8_83 : Params → Obj := fun _ => dictO ((ents9.drop 204).take 17)
noncomputable def o_p8_84 : Params → Obj := fun _ => dictO ((ents9.drop 221).take 17)
noncomputable def o_p8_85 : Params → Obj := fun _ => dictO ((ents9.drop 238).take 17)
noncomputable def o_p8_86 : Params → Obj := fun _ => dictO ((ents9.drop 255).take 17)
noncomputable def o_p8_87 : Params → Obj := fun _ => dictO ((ents9.drop 272).take 17)
noncomputable def o_p8_88 : Params → Obj := fun _ => dictO ((ents9.drop 289).take 17)
noncomputable def o_p8_89 : Params → Obj := fun _ => dictO ((ents9.drop 306).take 17)
noncomputable def o_p8_90 : Params → Obj := fun _ => dictO ((ents9.drop 323).take 17)
noncomputable def o_p8_91 : Params → Obj := fun _ => dictO ((ents9.drop 340).take 17)
noncomputable def o_p8_92 : Params → Obj := fun _ => dictO ((ents9.drop 357).take 17)
noncomputable def o_p8_93 : Params → Obj := fun _ => dictO ((ents9.drop 374).take 17)
noncomputable def o_p8_94 : Params → Obj := fun _ => dictO ((ents9.drop 391).take 17)
noncomputable def o_p8_95 : Params → Obj := fun _ => dictO ((ents9.drop 408).take 17)
noncomputable def o_p8_96 : Params → Obj := fun _ => dictO ((ents9.drop 425).take 17)
noncomputable def o_p8_97 : Params → Obj := fun _ => dictO ((ents9.drop 442).take 17)
noncomputable def o_p8_98 : Params → Obj := fun _ => dictO ((ents9.drop 459).take 17)
noncomputable def o_p8_99 : Params → Obj := fun _ => dictO ((ents9.drop 476).take 17)
noncomputable def o_p8_100 : Params → Obj := fun _ => dictO ((ents9.drop 493).take 17)
noncomputable def o_p8_101 : Params → Obj := fun _ => dictO ((ents9.drop 510).take 17)
noncomputable def o_p8_102 : Params → Obj := fun _ => dictO ((ents9.drop 527).take 17)
noncomputable def o_p8_103 : Params → Obj := fun _ => dictO ((ents9.drop 544).take 17)
noncomputable def o_p8_104 : Params → Obj := fun _ => dictO ((ents9.drop 561).take 17)
noncomputable def o_p8_105 : Params → Obj := fun _ => dictO ((ents9.drop 578).take 17)
noncomputable def o_p8_106 : Params → Obj := fun _ => dictO ((ents9.drop 595).take 17)
noncomputable def o_p8_107 : Params → Obj := fun _ => dictO ((ents9.drop 612).take 17)
noncomputable def o_p8_108 : Params → Obj := fun _ => dictO ((ents9.drop 629).take 17)
noncomputable def o_p8_109 : Params → Obj := fun _ => dictO entsLast
noncomputable def t_p8 : Params → BT := fun P => (.node (o_s0_0 P) (.node (o_s0_1 P) (.node (o_p8_3 P) (.node (o_s0_7 P) (.node (o_s0_15 P) (.node (o_block_31 P) (.node (o_p6_63 P) .nil .nil) (.node (o_p8_95 P) .nil .nil)) (.node (o_p5_47 P) (.node (o_p8_79 P) .nil .nil) .nil)) (.node (o_s0_23 P) (.node (o_p5_39 P) (.node (o_p8_71 P) .nil .nil) (.node (o_p8_103 P) .nil .nil)) (.node (o_p6_55 P) (.node (o_p8_87 P) .nil .nil) .nil))) (.node (o_s0_11 P) (.node (o_s0_19 P) (.node (o_p5_35 P) (.node (o_p7_67 P) .nil .nil) (.node (o_p8_99 P) .nil .nil)) (.node (o_p5_51 P) (.node (o_p8_83 P) .nil .nil) .nil)) (.node (o_s0_27 P) (.node (o_p5_43 P) (.node (o_p8_75 P) .nil .nil) (.node (o_p8_107 P) .nil .nil)) (.node (o_p6_59 P) (.node (o_p8_91 P) .nil .nil) .nil)))) (.node (o_s0_5 P) (.node (o_s0_9 P) (.node (o_s0_17 P) (.node (o_p5_33 P) (.node (o_p7_65 P) .nil .nil) (.node (o_p8_97 P) .nil .nil)) (.node (o_p5_49 P) (.node (o_p8_81 P) .nil .nil) .nil)) (.node (o_s0_25 P) (.node (o_p5_41 P) (.node (o_p8_73 P) .nil .nil) (.node (o_p8_105 P) .nil .nil)) (.node (o_p6_57 P) (.node (o_p8_89 P) .nil .nil) .nil))) (.node (o_s0_13 P) (.node (o_s0_21 P) (.node (o_p5_37 P) (.node (o_p7_69 P) .nil .nil) (.node (o_p8_101 P) .nil .nil)) (.node (o_p6_53 P) (.node (o_p8_85 P) .nil .nil) .nil)) (.node (o_p7_29 P) (.node (o_p5_45 P) (.node (o_p8_77 P) .nil .nil) (.node (o_p8_109 P) .nil .nil)) (.node (o_p6_61 P) (.node (o_p8_93 P) .nil .nil) .nil))))) (.node (o_s0_2 P) (.node (o_s0_4 P) (.node (o_s0_8 P) (.node (o_s0_16 P) (.node (o_p5_32 P) (.node (o_p7_64 P) .nil .nil) (.node (o_p8_96 P) .nil .nil)) (.node (o_p5_48 P) (.node (o_p8_80 P) .nil .nil) .nil)) (.node (o_s0_24 P) (.node (o_p5_40 P) (.node (o_p8_72 P) .nil .nil) (.node (o_p8_104 P) .nil .nil)) (.node (o_p6_56 P) (.node (o_p8_88 P) .nil .nil) .nil))) (.node (o_s0_12 P) (.node (o_s0_20 P) (.node (o_p5_36 P) (.node (o_p7_68 P) .nil .nil) (.node (o_p8_100 P) .nil .nil)) (.node (o_p5_52 P) (.node (o_p8_84 P) .nil .nil) .nil)) (.node (o_block_28 P) (.node (o_p5_44 P) (.node (o_p8_76 P) .nil .nil) (.node (o_p8_108 P) .nil .nil)) (.node (o_p6_60 P) (.node (o_p8_92 P) .nil .nil) .nil)))) (.node (o_s0_6 P) (.node (o_s0_10 P) (.node (o_s0_18 P) (.node (o_p5_34 P) (.node (o_p7_66 P) .nil .nil) (.node (o_p8_98 P) .nil .nil)) (.node (o_p5_50 P) (.node (o_p8_82 P) .nil .nil) .nil)) (.node (o_s0_26 P) (.node (o_p5_42 P) (.node (o_p8_74 P) .nil .nil) (.node (o_p8_106 P) .nil .nil)) (.node (o_p6_58 P) (.node (o_p8_90 P) .nil .nil) .nil))) (.node (o_s0_14 P) (.node (o_s0_22 P) (.node (o_p5_38 P) (.node (o_p7_70 P) .nil .nil) (.node (o_p8_102 P) .nil .nil)) (.node (o_p6_54 P) (.node (o_p8_86 P) .nil .nil) .nil)) (.node (o_block_30 P) (.node (o_p5_46 P) (.node (o_p8_78 P) .nil .nil) .nil) (.node (o_p6_62 P) (.node (o_p8_94 P) .nil .nil) .nil))))))
noncomputable def S_p8 (w : World) (os : OsState) : SharedT := SharedT.mk (t_p8 w.params) 110 (Life.mk [] [] [] 0 [] [] false #[] [] 0 false false false 0 [2000, 10, 10] false 0 true [] [] 0 false) #[] (Drawn.mk 0 0 0 0) 2330 os
noncomputable def o_p12_3 : Params → Obj := fun P => Obj.mk (Value.type "dict") none (Data.dict #[DictEntry.mk (PyData.keyHash P (Str.ofString "__name__")) (Value.str (Str.ofString "__name__") 165) (Value.str (Str.ofString "cpy313.wsgiref.headers") 2338), DictEntry.mk (PyData.keyHash P (Str.ofString "__doc__")) (Value.str (Str.ofString "__doc__") 166) Value.none, DictEntry.mk (PyData.keyHash P (Str.ofString "__package__")) (Value.str (Str.ofString "__package__") 167) Value.none, DictEntry.mk (PyData.keyHash P (Str.ofString "__loader__")) (Value.str (Str.ofString "__loader__") 168) (Value.builtin "__main__.__loader__#opaque"), DictEntry.mk (PyData.keyHash P (Str.ofString "__spec__")) (Value.str (Str.ofString "__spec__") 169) Value.none, DictEntry.mk (PyData.keyHash P (Str.ofString "__annotations__")) (Value.str (Str.ofString "__annotations__") 170) (Value.ref 6), DictEntry.mk (PyData.keyHash P (Str.ofString "__builtins__")) (Value.str (Str.ofString "__builtins__") 171) (Value.ref 4), DictEntry.mk (PyData.keyHash P (Str.ofString "__file__")) (Value.str (Str.ofString "__file__") 173) (Value.str (Str.ofString "/claim/cut.py") 172), DictEntry.mk (PyData.keyHash P (Str.ofString "__cached__")) (Value.str (Str.ofString "__cached__") 174) Value.none, DictEntry.mk (PyData.keyHash P (Str.ofString "_sre")) (Value.str (Str.ofString "_sre") 275) (Value.ref 12), DictEntry.mk (PyData.keyHash P (Str.ofString "_wall")) (Value.str (Str.ofString "_wall") 288) (Value.ref 38), DictEntry.mk (PyData.keyHash P (Str.ofString "_strcoll")) (Value.str (Str.ofString "_strcoll") 298) (Value.ref 45), DictEntry.mk (PyData.keyHash P (Str.ofString "CHAR_MAX")) (Value.str (Str.ofString "CHAR_MAX") 300) (Value.int 127 299), DictEntry.mk (PyData.keyHash P (Str.ofString "_grouping_intervals")) (Value.str (Str.ofString "_grouping_intervals") 309) (Value.ref 52), DictEntry.mk (PyData.keyHash P (Str.ofString "b1_set")) (Value.str (Str.ofString "b1_set") 371) (Value.ref 60), DictEntry.mk (PyData.keyHash P (Str.ofString "in_table_b1")) (Value.str (Str.ofString "in_table_b1") 378) (Value.ref 70), DictEntry.mk (PyData.keyHash P (Str.ofString "b3_exceptions")) (Value.str (Str.ofString "b3_exceptions") 2329) (Value.ref 71), DictEntry.mk (PyData.keyHash P (Str.ofString "map_table_b3")) (Value.str (Str.ofString "map_table_b3") 2337) (Value.ref 116), DictEntry.mk (PyData.keyHash P (Str.ofString "_name_disallowed_re")) (Value.str (Str.ofString "_name_disallowed_re") 2365) (Value.ref 121), DictEntry.mk (PyData.keyHash P (Str.ofString "_value_disallowed_re")) (Value.str (Str.ofString "_value_disallowed_re") 2399) (Value.ref 126)] 20) #[]
noncomputable def o_p12_29 : Params → Obj := fun P => Obj.mk Value.none none (Data.fields #[Value.int 2 0, Value.int 0 0, Value.ref 37, Value.int 6 0, Value.int 0 0, Value.ref 44, Value.int 9 0, Value.int 0 0, Value.ref 51, Value.int 23 0, Value.int 0 0, Value.ref 69, Value.int 26 0, Value.int 0 0, Value.ref 115]) #[]
noncomputable def o_p12_110 : Params → Obj := fun P => Obj.mk (Value.type "tuple") none (Data.seq #[]) #[]
noncomputable def o_p12_111 : Params → Obj := fun P => Obj.mk Value.none none (Data.fields #[]) #[]
noncomputable def o_p12_112 : Params → Obj := fun P => Obj.mk (Value.type "tuple") none (Data.seq #[Value.str (Str.ofString "code") 2333, Value.str (Str.ofString "r") 2334]) #[]
noncomputable def o_p12_113 : Params → Obj := fun P => Obj.mk (Value.type "tuple") none (Data.seq #[]) #[]
noncomputable def o_p12_114 : Params → Obj := fun P => Obj.mk (Value.none) (none) (Data.func (FuncData.mk (Str.ofString "map_table_b3") (Str.ofString "map_table_b3") (fPars (stm 10)) (.stmts (fBody (stm 10))) (fScope (stm 10)) (0) ([]) (Value.none) (Value.none) (Value.none) (Value.none) (none) (Value.none) (Value.none) (0))) (#[])
noncomputable def o_p12_115 : Params → Obj := fun P => Obj.mk (Value.type "code") none (Data.fields #[Value.str (Str.ofString "map_table_b3") 2330, Value.str (Str.ofString "map_table_b3") 2331, Value.str (Str.ofString "/claim/cut.py") 2332, Value.int 26 0, Value.int 1 0, Value.int 0 0, Value.int 0 0, Value.int 3 0, Value.ref 110, Value.bool true, Value.int 276 0, Value.ref 111, Value.none, Value.ref 112, Value.ref 113, Value.ref 114, Value.int 2335 0, Value.int 26 0, Value.str (Str.ofString "/claim/cut.py") 2336]) #[]
noncomputable def o_p12_116 : Params → Obj := fun P => Obj.mk (Value.type "function") (none) (Data.func (FuncData.mk (Str.ofString "map_table_b3") (Str.ofString "map_table_b3") (fPars (stm 10)) (.stmts (fBody (stm 10))) (fScope (stm 10)) (3) ([]) (Value.none) (Value.none) (Value.none) (Value.str (Str.ofString "cpy313.stringprep") 310) (none) (Value.ref 115) (Value.none) (0))) (#[])
noncomputable def o_p12_117 : Params → Obj := fun P => Obj.mk (Value.type "list") none (Data.seq #[Value.int 14 2343, Value.int 10 2344, Value.int 4 2345, Value.int 1 2346, Value.int 1 2347, Value.int 22 2348, Value.int 0 2349, Value.int 31 2350, Value.int 16 2351, Value.int 127 2352, Value.int 0 2353, Value.int 13 2354, Value.int 7 2355, Value.int 22 2356, Value.int 0 2357, Value.int 31 2358, Value.int 16 2359, Value.int 127 2360, Value.int 0 2361, Value.int 1 2362]) #[]
noncomputable def o_p12_118 : Params → Obj := fun P => Obj.mk (Value.type "dict") none (Data.dict #[]) #[]
noncomputable def o_p12_119 : Params → Obj := fun P => Obj.mk (Value.type "tuple") none (Data.seq #[Value.none]) #[]
noncomputable def o_p12_120 : Params → Obj := fun P => Obj.mk (Value.type "tuple") none (Data.seq #[Value.int 14 0, Value.int 10 0, Value.int 4 0, Value.int 1 0, Value.int 1 0, Value.int 22 0, Value.int 0 0, Value.int 31 0, Value.int 16 0, Value.int 127 0, Value.int 0 0, Value.int 13 0, Value.int 7 0, Value.int 22 0, Value.int 0 0, Value.int 31 0, Value.int 16 0, Value.int 127 0, Value.int 0 0, Value.int 1 0]) #[]
noncomputable def o_p12_121 : Params → Obj := fun P => Obj.mk (Value.type "re.Pattern") none (Data.fields #[Value.str (Str.ofString "[\\x00-\\x1F\\x7F]") 2341, Value.int 32 2364, Value.int 0 0, Value.none, Value.none, Value.ref 120, Value.int 0 0]) #[]
noncomputable def o_p12_122 : Params → Obj := fun P => Obj.mk (Value.type "list") none (Data.seq #[Value.int 14 2369, Value.int 14 2370, Value.int 4 2371, Value.int 1 2372, Value.int 1 2373, Value.int 9 2374, Value.int 4294966783 2375, Value.int 0 2376, Value.int 0 2377, Value.int 2147483648 2378, Value.int 0 2379, Value.int 0 2380, Value.int 0 2381, Value.int 0 2382, Value.int 0 2383, Value.int 13 2384, Value.int 11 2385, Value.int 9 2386, Value.int 4294966783 2387, Value.int 0 2388, Value.int 0 2389, Value.int 2147483648 2390, Value.int 0 2391, Value.int 0 2392, Value.int 0 2393, Value.int 0 2394, Value.int 0 2395, Value.int 1 2396]) #[]
noncomputable def o_p12_123 : Params → Obj := fun P => Obj.mk (Value.type "dict") none (Data.dict #[]) #[]
noncomputable def o_p12_124 : Params → Obj := fun P => Obj.mk (Value.type "tuple") none (Data.seq #[Value.none]) #[]
noncomputable def o_p12_125 : Params → Obj := fun P => Obj.mk (Value.type "tuple") none (Data.seq #[Value.int 14 0, Value.int 14 0, Value.int 4 0, Value.int 1 0, Value.int 1 0, Value.int 9 0, Value.int 4294966783 0, Value.int 0 0, Value.int 0 0, Value.int 2147483648 0, Value.int 0 0, Value.int 0 0, Value.int 0 0, Value.int 0 0, Value.int 0 0, Value.int 13 0, Value.int 11 0, Value.int 9 0, Value.int 4294966783 0, Value.int 0 0, Value.int 0 0, Value.int 2147483648 0, Value.int 0 0, Value.int 0 0, Value.int 0 0, Value.int 0 0, Value.int 0 0, Value.int 1 0]) #[]
noncomputable def o_p12_126 : Params → Obj := fun P => Obj.mk (Value.type "re.Pattern") none (Data.fields #[Value.str (Str.ofString "[\\x00-\\x08\\x0A-\\x1F\\x7F]") 2367, Value.int 32 2398, Value.int 0 0, Value.none, Value.none, Value.ref 125, Value.int 0 0]) #[]
noncomputable def t_p12 : Params → BT := fun P => (.node (o_s0_0 P) (.node (o_s0_1 P) (.node (o_p12_3 P) (.node (o_s0_7 P) (.node (o_s0_15 P) (.node (o_block_31 P) (.node (o_p6_63 P) .nil .nil) (.node (o_p8_95 P) .nil .nil)) (.node (o_p5_47 P) (.node (o_p8_79 P) .nil .nil) (.node (o_p12_111 P) .nil .nil))) (.node (o_s0_23 P) (.node (o_p5_39 P) (.node (o_p8_71 P) .nil .nil) (.node (o_p8_103 P) .nil .nil)) (.node (o_p6_55 P) (.node (o_p8_87 P) .nil .nil) (.node (o_p12_119 P) .nil .nil)))) (.node (o_s0_11 P) (.node (o_s0_19 P) (.node (o_p5_35 P) (.node (o_p7_67 P) .nil .nil) (.node (o_p8_99 P) .nil .nil)) (.node (o_p5_51 P) (.node (o_p8_83 P) .nil .nil) (.node (o_p12_115 P) .nil .nil))) (.node (o_s0_27 P) (.node (o_p5_43 P) (.node (o_p8_75 P) .nil .nil) (.node (o_p8_107 P) .nil .nil)) (.node (o_p6_59 P) (.node (o_p8_91 P) .nil .nil) (.node (o_p12_123 P) .nil .nil))))) (.node (o_s0_5 P) (.node (o_s0_9 P) (.node (o_s0_17 P) (.node (o_p5_33 P) (.node (o_p7_65 P) .nil .nil) (.node (o_p8_97 P) .nil .nil)) (.node (o_p5_49 P) (.node (o_p8_81 P) .nil .nil) (.node (o_p12_113 P) .nil .nil))) (.node (o_s0_25 P) (.node (o_p5_41 P) (.node (o_p8_73 P) .nil .nil) (.node (o_p8_105 P) .nil .nil)) (.node (o_p6_57 P) (.node (o_p8_89 P) .nil .nil) (.node (o_p12_121 P) .nil .nil)))) (.node (o_s0_13 P) (.node (o_s0_21 P) (.node (o_p5_37 P) (.node (o_p7_69 P) .nil .nil) (.node (o_p8_101 P) .nil .nil)) (.node (o_p6_53 P) (.node (o_p8_85 P) .nil .nil) (.node (o_p12_117 P) .nil .nil))) (.node (o_p12_29 P) (.node (o_p5_45 P) (.node (o_p8_77 P) .nil .nil) (.node (o_p8_109 P) .nil .nil)) (.node (o_p6_61 P) (.node (o_p8_93 P) .nil .nil) (.node (o_p12_125 P) .nil .nil)))))) (.node (o_s0_2 P) (.node (o_s0_4 P) (.node (o_s0_8 P) (.node (o_s0_16 P) (.node (o_p5_32 P) (.node (o_p7_64 P) .nil .nil) (.node (o_p8_96 P) .nil .nil)) (.node (o_p5_48 P) (.node (o_p8_80 P) .nil .nil) (.node (o_p12_112 P) .nil .nil))) (.node (o_s0_24 P) (.node (o_p5_40 P) (.node (o_p8_72 P) .nil .nil) (.node (o_p8_104 P) .nil .nil)) (.node (o_p6_56 P) (.node (o_p8_88 P) .nil .nil) (.node (o_p12_120 P) .nil .nil)))) (.node (o_s0_12 P) (.node (o_s0_20 P) (.node (o_p5_36 P) (.node (o_p7_68 P) .nil .nil) (.node (o_p8_100 P) .nil .nil)) (.node (o_p5_52 P) (.node (o_p8_84 P) .nil .nil) (.node (o_p12_116 P) .nil .nil))) (.node (o_block_28 P) (.node (o_p5_44 P) (.node (o_p8_76 P) .nil .nil) (.node (o_p8_108 P) .nil .nil)) (.node (o_p6_60 P) (.node (o_p8_92 P) .nil .nil) (.node (o_p12_124 P) .nil .nil))))) (.node (o_s0_6 P) (.node (o_s0_10 P) (.node (o_s0_18 P) (.node (o_p5_34 P) (.node (o_p7_66 P) .nil .nil) (.node (o_p8_98 P) .nil .nil)) (.node (o_p5_50 P) (.node (o_p8_82 P) .nil .nil) (.node (o_p12_114 P) .nil .nil))) (.node (o_s0_26 P) (.node (o_p5_42 P) (.node (o_p8_74 P) .nil .nil) (.node (o_p8_106 P) .nil .nil)) (.node (o_p6_58 P) (.node (o_p8_90 P) .nil .nil) (.node (o_p12_122 P) .nil .nil)))) (.node (o_s0_14 P) (.node (o_s0_22 P) (.node (o_p5_38 P) (.node (o_p7_70 P) .nil .nil) (.node (o_p8_102 P) .nil .nil)) (.node (o_p6_54 P) (.node (o_p8_86 P) .nil .nil) (.node (o_p12_118 P) .nil .nil))) (.node (o_block_30 P) (.node (o_p5_46 P) (.node (o_p8_78 P) .nil .nil) (.node (o_p12_110 P) .nil .nil)) (.node (o_p6_62 P) (.node (o_p8_94 P) .nil .nil) (.node (o_p12_126 P) .nil .nil)))))))
noncomputable def S_p12 (w : World) (os : OsState) : SharedT := SharedT.mk (t_p12 w.params) 127 (Life.mk [] [] [] 0 [] [] false #[] [] 0 false false false 0 [2000, 10, 10] false 0 true [] [] 0 false) #[] (Drawn.mk 0 0 0 0) 2400 os
noncomputable def o_p13_3 : Params → Obj := fun P => Obj.mk (Value.type "dict") none (Data.dict #[DictEntry.mk (PyData.keyHash P (Str.ofString "__name__")) (Value.str (Str.ofString "__name__") 165) (Value.str (Str.ofString "cpy313.wsgiref.headers") 2338), DictEntry.mk (PyData.keyHash P (Str.ofString "__doc__")) (Value.str (Str.ofString "__doc__") 166) Value.none, DictEntry.mk (PyData.keyHash P (Str.ofString "__package__")) (Value.str (Str.ofString "__package__") 167) Value.none, DictEntry.mk (PyData.keyHash P (Str.ofString "__loader__")) (Value.str (Str.ofString "__loader__") 168) (Value.builtin "__main__.__loader__#opaque"), DictEntry.mk (PyData.keyHash P (Str.ofString "__spec__")) (Value.str (Str.ofString "__spec__") 169) Value.none, DictEntry.mk (PyData.keyHash P (Str.ofString "__annotations__")) (Value.str (Str.ofString "__annotations__") 170) (Value.ref 6), DictEntry.mk (PyData.keyHash P (Str.ofString "__builtins__")) (Value.str (Str.ofString "__builtins__") 171) (Value.ref 4), DictEntry.mk (PyData.keyHash P (Str.ofString "__file__")) (Value.str (Str.ofString "__file__") 173) (Value.str (Str.ofString "/claim/cut.py") 172), DictEntry.mk (PyData.keyHash P (Str.ofString "__cached__")) (Value.str (Str.ofString "__cached__") 174) Value.none, DictEntry.mk (PyData.keyHash P (Str.ofString "_sre")) (Value.str (Str.ofString "_sre") 275) (Value.ref 12), DictEntry.mk (PyData.keyHash P (Str.ofString "_wall")) (Value.str (Str.ofString "_wall") 288) (Value.ref 38), DictEntry.mk (PyData.keyHash P (Str.ofString "_strcoll")) (Value.str (Str.ofString "_strcoll") 298) (Value.ref 45), DictEntry.mk (PyData.keyHash P (Str.ofString "CHAR_MAX")) (Value.str (Str.ofString "CHAR_MAX") 300) (Value.int 127 299), DictEntry.mk (PyData.keyHash P (Str.ofString "_grouping_intervals")) (Value.str (Str.ofString "_grouping_intervals") 309) (Value.ref 52), DictEntry.mk (PyData.keyHash P (Str.ofString "b1_set")) (Value.str (Str.ofString "b1_set") 371) (Value.ref 60), DictEntry.mk (PyData.keyHash P (Str.ofString "in_table_b1")) (Value.str (Str.ofString "in_table_b1") 378) (Value.ref 70), DictEntry.mk (PyData.keyHash P (Str.ofString "b3_exceptions")) (Value.str (Str.ofString "b3_exceptions") 2329) (Value.ref 71), DictEntry.mk (PyData.keyHash P (Str.ofString "map_table_b3")) (Value.str (Str.ofString "map_table_b3") 2337) (Value.ref 116), DictEntry.mk (PyData.keyHash P (Str.ofString "_name_disallowed_re")) (Value.str (Str.ofString "_name_disallowed_re") 2365) (Value.ref 121), DictEntry.mk (PyData.keyHash P (Str.ofString "_value_disallowed_re")) (Value.str (Str.ofString "_value_disallowed_re") 2399) (Value.ref 126), DictEntry.mk (PyData.keyHash P (Str.ofString "Headers")) (Value.str (Str.ofString "Headers") 2555) (Value.ref 249)] 21) #[]
noncomputable def o_p13_29 : Params → Obj := fun P => Obj.mk Value.none none (Data.fields #[Value.int 2 0, Value.int 0 0, Value.ref 37, Value.int 6 0, Value.int 0 0, Value.ref 44, Value.int 9 0, Value.int 0 0, Value.ref 51, Value.int 23 0, Value.int 0 0, Value.ref 69, Value.int 26 0, Value.int 0 0, Value.ref 115, Value.int 34 0, Value.int 0 0, Value.ref 132]) #[]
noncomputable def o_p13_127 : Params → Obj := fun P => Obj.mk (Value.type "tuple") none (Data.seq #[]) #[]
noncomputable def o_p13_128 : Params → Obj := fun P => Obj.mk (Value.type "builtin_function_or_method") none (Data.fields #[Value.builtin "type.__prepare__", Value.type "type"]) #[]
noncomputable def o_p13_129 : Params → Obj := fun P => Obj.mk (Value.type "dict") none (Data.dict #[DictEntry.mk (PyData.keyHash P (Str.ofString "__module__")) (Value.str (Str.ofString "__module__") 2407) (Value.str (Str.ofString "cpy313.wsgiref.headers") 2338), DictEntry.mk (PyData.keyHash P (Str.ofString "__qualname__")) (Value.str (Str.ofString "__qualname__") 2409) (Value.str (Str.ofString "Headers") 2408), DictEntry.mk (PyData.keyHash P (Str.ofString "__firstlineno__")) (Value.str (Str.ofString "__firstlineno__") 2411) (Value.int 34 2410), DictEntry.mk (PyData.keyHash P (Str.ofString "__init__")) (Value.str (Str.ofString "__init__") 2421) (Value.ref 141), DictEntry.mk (PyData.keyHash P (Str.ofString "_convert_string_type")) (Value.str (Str.ofString "_convert_string_type") 2431) (Value.ref 148), DictEntry.mk (PyData.keyHash P (Str.ofString "__len__")) (Value.str (Str.ofString "__len__") 2438) (Value.ref 155), DictEntry.mk (PyData.keyHash P (Str.ofString "__setitem__")) (Value.str (Str.ofString "__setitem__") 2447) (Value.ref 162), DictEntry.mk (PyData.keyHash P (Str.ofString "__delitem__")) (Value.str (Str.ofString "__delitem__") 2453) (Value.ref 167), DictEntry.mk (PyData.keyHash P (Str.ofString "__getitem__")) (Value.str (Str.ofString "__getitem__") 2461) (Value.ref 174), DictEntry.mk (PyData.keyHash P (Str.ofString "__contains__")) (Value.str (Str.ofString "__contains__") 2469) (Value.ref 181), DictEntry.mk (PyData.keyHash P (Str.ofString "get_all")) (Value.str (Str.ofString "get_all") 2477) (Value.ref 188), DictEntry.mk (PyData.keyHash P (Str.ofString "get")) (Value.str (Str.ofString "get") 2488) (Value.ref 196), DictEntry.mk (PyData.keyHash P (Str.ofString "keys")) (Value.str (Str.ofString "keys") 2494) (Value.ref 201), DictEntry.mk (PyData.keyHash P (Str.ofString "values")) (Value.str (Str.ofString "values") 2500) (Value.ref 206), DictEntry.mk (PyData.keyHash P (Str.ofString "items")) (Value.str (Str.ofString "items") 2507) (Value.ref 213), DictEntry.mk (PyData.keyHash P (Str.ofString "__repr__")) (Value.str (Str.ofString "__repr__") 2514) (Value.ref 220), DictEntry.mk (PyData.keyHash P (Str.ofString "__str__")) (Value.str (Str.ofString "__str__") 2520) (Value.ref 225), DictEntry.mk (PyData.keyHash P (Str.ofString "__bytes__")) (Value.str (Str.ofString "__bytes__") 2527) (Value.ref 232), DictEntry.mk (PyData.keyHash P (Str.ofString "setdefault")) (Value.str (Str.ofString "setdefault") 2536) (Value.ref 239), DictEntry.mk (PyData.keyHash P (Str.ofString "add_header")) (Value.str (Str.ofString "add_header") 2546) (Value.ref 246), DictEntry.mk (PyData.keyHash P (Str.ofString "__static_attributes__")) (Value.str (Str.ofString "__static_attributes__") 2548) (Value.ref 247)] 21) #[]
noncomputable def o_p13_130 : Params → Obj := fun P => Obj.mk (Value.type "tuple") none (Data.seq #[]) #[]
noncomputable def o_p13_131 : Params → Obj := fun P => Obj.mk Value.none none (Data.fields #[Value.int 36 0, Value.int 4 0, Value.ref 140, Value.int 46 0, Value.int 4 0, Value.ref 147, Value.int 54 0, Value.int 4 0, Value.ref 154, Value.int 57 0, Value.int 4 0, Value.ref 161, Value.int 61 0, Value.int 4 0, Value.ref 166, Value.int 65 0, Value.int 4 0, Value.ref 173, Value.int 68 0, Value.int 4 0, Value.ref 180, Value.int 71 0, Value.int 4 0, Value.ref 187, Value.int 74 0, Value.int 4 0, Value.ref 195, Value.int 81 0, Value.int 4 0, Value.ref 200, Value.int 84 0, Value.int 4 0, Value.ref 205, Value.int 87 0, Value.int 4 0, Value.ref 212, Value.int 90 0, Value.int 4 0, Value.ref 219, Value.int 93 0, Value.int 4 0, Value.ref 224, Value.int 96 0, Value.int 4 0, Value.ref 231, Value.int 99 0, Value.int 4 0, Value.ref 238, Value.int 102 0, Value.int 4 0, Value.ref 245]) #[]
noncomputable def o_p13_132 : Params → Obj := fun P => Obj.mk (Value.type "code") none (Data.fields #[Value.str (Str.ofString "Headers") 2402, Value.str (Str.ofString "Headers") 2403, Value.str (Str.ofString "/claim/cut.py") 2404, Value.int 34 0, Value.int 0 0, Value.int 0 0, Value.int 0 0, Value.int 0 0, Value.ref 130, Value.bool false, Value.int 276 0, Value.ref 131, Value.none, Value.none, Value.none, Value.none, Value.int 2405 0, Value.int 34 0, Value.str (Str.ofString "/claim/cut.py") 2406]) #[]
noncomputable def o_p13_133 : Params → Obj := fun P => Obj.mk (Value.type "frame") none Data.plain #[some (Value.ref 132), some (Value.ref 3), some (Value.ref 129), none, some (Value.str (Str.ofString "cpy313.wsgiref.headers") 2338), none, some (Value.ref 0)]
noncomputable def o_p13_134 : Params → Obj := fun P => Obj.mk (Value.type "tuple") none (Data.seq #[Value.none]) #[]
noncomputable def o_p13_135 : Params → Obj := fun P => Obj.mk (Value.type "tuple") none (Data.seq #[]) #[]
noncomputable def o_p13_136 : Params → Obj := fun P => Obj.mk Value.none none (Data.fields #[]) #[]
noncomputable def o_p13_137 : Params → Obj := fun P => Obj.mk (Value.type "tuple") none (Data.seq #[Value.str (Str.ofString "self") 2415, Value.str (Str.ofString "headers") 2416, Value.str (Str.ofString "k") 2417, Value.str (Str.ofString "v") 2418]) #[]
noncomputable def o_p13_138 : Params → Obj := fun P => Obj.mk (Value.type "tuple") none (Data.seq #[]) #[]
noncomputable def o_p13_139 : Params → Obj := fun P => Obj.mk (Value.none) (none) (Data.func (FuncData.mk (Str.ofString "__init__") (Str.ofString "Headers.__init__") (fPars (mth 14 0)) (.stmts (fBody (mth 14 0))) (fScope (mth 14 0)) (0) ([]) (Value.none) (Value.none) (Value.none) (Value.none) (none) (Value.none) (Value.none) (0))) (#[])
noncomputable def o_p13_140 : Params → Obj := fun P => Obj.mk (Value.type "code") none (Data.fields #[Value.str (Str.ofString "__init__") 2412, Value.str (Str.ofString "Headers.__init__") 2413, Value.str (Str.ofString "/claim/cut.py") 2414, Value.int 36 0, Value.int 2 0, Value.int 0 0, Value.int 0 0, Value.int 3 0, Value.ref 135, Value.bool true, Value.int 276 0, Value.ref 136, Value.none, Value.ref 137, Value.ref 138, Value.ref 139, Value.int 2419 0, Value.int 36 0, Value.str (Str.ofString "/claim/cut.py") 2420]) #[]
noncomputable def o_p13_141 : Params → Obj := fun P => Obj.mk (Value.type "function") (none) (Data.func (FuncData.mk (Str.ofString "__init__") (Str.ofString "Headers.__init__") (fPars (mth 14 0)) (.stmts (fBody (mth 14 0))) (fScope (mth 14 0)) (3) ([]) (Value.ref 134) (Value.none) (Value.none) (Value.str (Str.ofString "cpy313.wsgiref.headers") 2338) (none) (Value.ref 140) (Value.none) (0))) (#[])
noncomputable def o_p13_142 : Params → Obj := fun P => Obj.mk (Value.type "tuple") none (Data.seq #[]) #[]
noncomputable def o_p13_143 : Params → Obj := fun P => Obj.mk Value.none none (Data.fields #[]) #[]
noncomputable def o_p13_144 : Params → Obj := fun P => Obj.mk (Value.type "tuple") none (Data.seq #[Value.str (Str.ofString "self") 2425, Value.str (Str.ofString "value") 2426, Value.str (Str.ofString "name") 2427, Value.str (Str.ofString "regex") 2428]) #[]
noncomputable def o_p13_145 : Params → Obj := fun P => Obj.mk (Value.type "tuple") none (Data.seq #[]) #[]
noncomputable def o_p13_146 : Params → Obj := fun P => Obj.mk (Value.none) (none) (Data.func (FuncData.mk (Str.ofString "_convert_string_type") (Str.ofString "Headers._convert_string_type") (fPars (mth 14 1)) (.stmts (fBody (mth 14 1))) (fScope (mth 14 1)) (0) ([]) (Value.none) (Value.none) (Value.none) (Value.none) (none) (Value.none) (Value.none) (0))) (#[])
noncomputable def o_p13_147 : Params → Obj := fun P => Obj.mk (Value.type "code") none (Data.fields #[Value.str (Str.ofString "_convert_string_type") 2422, Value.str (Str.ofString "Headers._convert_string_type") 2423, Value.str (Str.ofString "/claim/cut.py") 2424, Value.int 46 0, Value.int 2 0, Value.int 0 0, Value.int 1 0, Value.int 3 0, Value.ref 142, Value.bool true, Value.int 276 0, Value.ref 143, Value.none, Value.ref 144, Value.ref 145, Value.ref 146, Value.int 2429 0, Value.int 46 0, Value.str (Str.ofString "/claim/cut.py") 2430]) #[]
noncomputable def o_p13_148 : Params → Obj := fun P => Obj.mk (Value.type "function") (none) (Data.func (FuncData.mk (Str.ofString "_convert_string_type") (Str.ofString "Headers._convert_string_type") (fPars (mth 14 1)) (.stmts (fBody (mth 14 1))) (fScope (mth 14 1)) (3) ([]) (Value.none) (Value.none) (Value.none) (Value.str (Str.ofString "cpy313.wsgiref.headers") 2338) (none) (Value.ref 147) (Value.none) (0))) (#[])
noncomputable def o_p13_149 : Params → Obj := fun P => Obj.mk (Value.type "tuple") none (Data.seq #[]) #[]
noncomputable def o_p13_150 : Params → Obj := fun P => Obj.mk Value.none none (Data.fields #[]) #[]
noncomputable def o_p13_151 : Params → Obj := fun P => Obj.mk (Value.type "tuple") none (Data.seq #[Value.str (Str.ofString "self") 2435]) #[]
noncomputable def o_p13_152 : Params → Obj := fun P => Obj.mk (Value.type "tuple") none (Data.seq #[]) #[]
noncomputable def o_p13_153 : Params → Obj := fun P => Obj.mk (Value.none) (none) (Data.func (FuncData.mk (Str.ofString "__len__") (Str.ofString "Headers.__len__") (fPars (mth 14 2)) (.stmts (fBody (mth 14 2))) (fScope (mth 14 2)) (0) ([]) (Value.none) (Value.none) (Value.none) (Value.none) (none) (Value.none) (Value.none) (0))) (#[])
noncomputable def o_p13_154 : Params → Obj := fun P => Obj.mk (Value.type "code") none (Data.fields #[Value.str (Str.ofString "__len__") 2432, Value.str (Str.ofString "Headers.__len__") 2433, Value.str (Str.ofString "/claim/cut.py") 2434, Value.int 54 0, Value.int 1 0, Value.int 0 0, Value.int 0 0, Value.int 3 0, Value.ref 149, Value.bool true, Value.int 276 0, Value.ref 150, Value.none, Value.ref 151, Value.ref 152, Value.ref 153, Value.int 2436 0, Value.int 54 0, Value.str (Str.ofString "/claim/cut.py") 2437]) #[]
noncomputable def o_p13_155 : Params → Obj := fun P => Obj.mk (Value.type "function") (none) (Data.func (FuncData.mk (Str.ofString "__len__") (Str.ofString "Headers.__len__") (fPars (mth 14 2)) (.stmts (fBody (mth 14 2))) (fScope (mth 14 2)) (3) ([]) (Value.none) (Value.none) (Value.none) (Value.str (Str.ofString "cpy313.wsgiref.headers") 2338) (none) (Value.ref 154) (Value.none) (0))) (#[])
noncomputable def o_p13_156 : Params → Obj := fun P => Obj.mk (Value.type "tuple") none (Data.seq #[]) #[]
noncomputable def o_p13_157 : Params → Obj := fun P => Obj.mk Value.none none (Data.fields #[]) #[]
noncomputable def o_p13_158 : Params → Obj := fun P => Obj.mk (Value.type "tuple") none (Data.seq #[Value.str (Str.ofString "self") 2442, Value.str (Str.ofString "name") 2443, Value.str (Str.ofString "val") 2444]) #[]
noncomputable def o_p13_159 : Params → Obj := fun P => Obj.mk (Value.type "tuple") none (Data.seq #[]) #[]
noncomputable def o_p13_160 : Params → Obj := fun P => Obj.mk (Value.none) (none) (Data.func (FuncData.mk (Str.ofString "__setitem__") (Str.ofString "Headers.__setitem__") (fPars (mth 14 3)) (.stmts (fBody (mth 14 3))) (fScope (mth 14 3)) (0) ([]) (Value.none) (Value.none) (Value.none) (Value.none) (none) (Value.none) (Value.none) (0))) (#[])
noncomputable def o_p13_161 : Params → Obj := fun P => Obj.mk (Value.type "code") none (Data.fields #[Value.str (Str.ofString "__setitem__") 2439, Value.str (Str.ofString "Headers.__setitem__") 2440, Value.str (Str.ofString "/claim/cut.py") 2441, Value.int 57 0, Value.int 3 0, Value.int 0 0, Value.int 0 0, Value.int 3 0, Value.ref 156, Value.bool true, Value.int 276 0, Value.ref 157, Value.none, Value.ref 158, Value.ref 159, Value.ref 160, Value.int 2445 0, Value.int 57 0, Value.str (Str.ofString "/claim/cut.py") 2446]) #[]
noncomputable def o_p13_162 : Params → Obj := fun P => Obj.mk (Value.type "function") (none) (Data.func (FuncData.mk (Str.ofString "__setitem__") (Str.ofString "Headers.__setitem__") (fPars (mth 14 3)) (.stmts (fBody (mth 14 3))) (fScope (mth 14 3)) (3) ([]) (Value.none) (Value.none) (Value.none) (Value.str (Str.ofString "cpy313.wsgiref.headers") 2338) (none) (Value.ref 161) (Value.none) (0))) (#[])
noncomputable def o_p13_163 : Params → Obj := fun P => Obj.mk (Value.type "tuple") none (Data.seq #[]) #[]
noncomputable def o_p13_164 : Params → Obj := fun P => Obj.mk Value.none none (Data.fields #[]) #[]
noncomputable def o_p13_165 : Params → Obj := fun P => Obj.mk (Value.none) (none) (Data.func (FuncData.mk (Str.ofString "__delitem__") (Str.ofString "Headers.__delitem__") (fPars (mth 14 4)) (.stmts (fBody (mth 14 4))) (fScope (mth 14 4)) (0) ([]) (Value.none) (Value.none) (Value.none) (Value.none) (none) (Value.none) (Value.none) (0))) (#[])
noncomputable def o_p13_166 : Params → Obj := fun P => Obj.mk (Value.type "code") none (Data.fields #[Value.str (Str.ofString "__delitem__") 2448, Value.str (Str.ofString "Headers.__delitem__") 2449, Value.str (Str.ofString "/claim/cut.py") 2450, Value.int 61 0, Value.int 2 0, Value.int 0 0, Value.int 0 0, Value.int 3 0, Value.ref 163, Value.bool true, Value.int 276 0, Value.ref 164, Value.none, Value.none, Value.none, Value.ref 165, Value.int 2451 0, Value.int 61 0, Value.str (Str.ofString "/claim/cut.py") 2452]) #[]
noncomputable def o_p13_167 : Params → Obj := fun P => Obj.mk (Value.type "function") (none) (Data.func (FuncData.mk (Str.ofString "__delitem__") (Str.ofString "Headers.__delitem__") (fPars (mth 14 4)) (.stmts (fBody (mth 14 4))) (fScope (mth 14 4)) (3) ([]) (Value.none) (Value.none) (Value.none) (Value.str (Str.ofString "cpy313.wsgiref.headers") 2338) (none) (Value.ref 166) (Value.none) (0))) (#[])
noncomputable def o_p13_168 : Params → Obj := fun P => Obj.mk (Value.type "tuple") none (Data.seq #[]) #[]
noncomputable def o_p13_169 : Params → Obj := fun P => Obj.mk Value.none none (Data.fields #[]) #[]
noncomputable def o_p13_170 : Params → Obj := fun P => Obj.mk (Value.type "tuple") none (Data.seq #[Value.str (Str.ofString "self") 2457, Value.str (Str.ofString "name") 2458]) #[]
noncomputable def o_p13_171 : Params → Obj := fun P => Obj.mk (Value.type "tuple") none (Data.seq #[]) #[]
noncomputable def o_p13_172 : Params → Obj := fun P => Obj.mk (Value.none) (none) (Data.func (FuncData.mk (Str.ofString "__getitem__") (Str.ofString "Headers.__getitem__") (fPars (mth 14 5)) (.stmts (fBody (mth 14 5))) (fScope (mth 14 5)) (0) ([]) (Value.none) (Value.none) (Value.none) (Value.none) (none) (Value.none) (Value.none) (0))) (#[])
noncomputable def o_p13_173 : Params → Obj := fun P => Obj.mk (Value.type "code") none (Data.fields #[Value.str (Str.ofString "__getitem__") 2454, Value.str (Str.ofString "Headers.__getitem__") 2455, Value.str (Str.ofString "/claim/cut.py") 2456, Value.int 65 0, Value.int 2 0, Value.int 0 0, Value.int 0 0, Value.int 3 0, Value.ref 168, Value.bool true, Value.int 276 0, Value.ref 169, Value.none, Value.ref 170, Value.ref 171, Value.ref 172, Value.int 2459 0, Value.int 65 0, Value.str (Str.ofString "/claim/cut.py") 2460]) #[]
noncomputable def o_p13_174 : Params → Obj := fun P => Obj.mk (Value.type "function") (none) (Data.func (FuncData.mk (Str.ofString "__getitem__") (Str.ofString "Headers.__getitem__") (fPars (mth 14 5)) (.stmts (fBody (mth 14 5))) (fScope (mth 14 5)) (3) ([]) (Value.none) (Value.none) (Value.none) (Value.str (Str.ofString "cpy313.wsgiref.headers") 2338) (none) (Value.ref 173) (Value.none) (0))) (#[])
noncomputable def o_p13_175 : Params → Obj := fun P => Obj.mk (Value.type "tuple") none (Data.seq #[]) #[]
noncomputable def o_p13_176 : Params → Obj := fun P => Obj.mk Value.none none (Data.fields #[]) #[]
noncomputable def o_p13_177 : Params → Obj := fun P => Obj.mk (Value.type "tuple") none (Data.seq #[Value.str (Str.ofString "self") 2465, Value.str (Str.ofString "name") 2466]) #[]
noncomputable def o_p13_178 : Params → Obj := fun P => Obj.mk (Value.type "tuple") none (Data.seq #[]) #[]
noncomputable def o_p13_179 : Params → Obj := fun P => Obj.mk (Value.none) (none) (Data.func (FuncData.mk (Str.ofString "__contains__") (Str.ofString "Headers.__contains__") (fPars (mth 14 6)) (.stmts (fBody (mth 14 6))) (fScope (mth 14 6)) (0) ([]) (Value.none) (Value.none) (Value.none) (Value.none) (none) (Value.none) (Value.none) (0))) (#[])
noncomputable def o_p13_180 : Params → Obj := fun P => Obj.mk (Value.type "code") none (Data.fields #[Value.str (Str.ofString "__contains__") 2462, Value.str (Str.ofString "Headers.__contains__") 2463, Value.str (Str.ofString "/claim/cut.py") 2464, Value.int 68 0, Value.int 2 0, Value.int 0 0, Value.int 0 0, Value.int 3 0, Value.ref 175, Value.bool true, Value.int 276 0, Value.ref 176, Value.none, Value.ref 177, Value.ref 178, Value.ref 179, Value.int 2467 0, Value.int 68 0, Value.str (Str.ofString "/claim/cut.py") 2468]) #[]
noncomputable def o_p13_181 : Params → Obj := fun P => Obj.mk (Value.type "function") (none) (Data.func (FuncData.mk (Str.ofString "__contains__") (Str.ofString "Headers.__contains__") (fPars (mth 14 6)) (.stmts (fBody (mth 14 6))) (fScope (mth 14 6)) (3) ([]) (Value.none) (Value.none) (Value.none) (Value.str (Str.ofString "cpy313.wsgiref.headers") 2338) (none) (Value.ref 180) (Value.none) (0))) (#[])
noncomputable def o_p13_182 : Params → Obj := fun P => Obj.mk (Value.type "tuple") none (Data.seq #[]) #[]
noncomputable def o_p13_183 : Params → Obj := fun P => Obj.mk Value.none none (Data.fields #[]) #[]
noncomputable def o_p13_184 : Params → Obj := fun P => Obj.mk (Value.type "tuple") none (Data.seq #[Value.str (Str.ofString "self") 2473, Value.str (Str.ofString "name") 2474]) #[]
noncomputable def o_p13_185 : Params → Obj := fun P => Obj.mk (Value.type "tuple") none (Data.seq #[]) #[]
noncomputable def o_p13_186 : Params → Obj := fun P => Obj.mk (Value.none) (none) (Data.func (FuncData.mk (Str.ofString "get_all") (Str.ofString "Headers.get_all") (fPars (mth 14 7)) (.stmts (fBody (mth 14 7))) (fScope (mth 14 7)) (0) ([]) (Value.none) (Value.none) (Value.none) (Value.none) (none) (Value.none) (Value.none) (0))) (#[])
noncomputable def o_p13_187 : Params → Obj := fun P => Obj.mk (Value.type "code") none (Data.fields #[Value.str (Str.ofString "get_all") 2470, Value.str (Str.ofString "Headers.get_all") 2471, Value.str (Str.ofString "/claim/cut.py") 2472, Value.int 71 0, Value.int 2 0, Value.int 0 0, Value.int 0 0, Value.int 3 0, Value.ref 182, Value.bool true, Value.int 276 0, Value.ref 183, Value.none, Value.ref 184, Value.ref 185, Value.ref 186, Value.int 2475 0, Value.int 71 0, Value.str (Str.ofString "/claim/cut.py") 2476]) #[]
noncomputable def o_p13_188 : Params → Obj := fun P => Obj.mk (Value.type "function") (none) (Data.func (FuncData.mk (Str.ofString "get_all") (Str.ofString "Headers.get_all") (fPars (mth 14 7)) (.stmts (fBody (mth 14 7))) (fScope (mth 14 7)) (3) ([]) (Value.none) (Value.none) (Value.none) (Value.str (Str.ofString "cpy313.wsgiref.headers") 2338) (none) (Value.ref 187) (Value.none) (0))) (#[])
noncomputable def o_p13_189 : Params → Obj := fun P => Obj.mk (Value.type "tuple") none (Data.seq #[Value.none]) #[]
noncomputable def o_p13_190 : Params → Obj := fun P => Obj.mk (Value.type "tuple") none (Data.seq #[]) #[]
noncomputable def o_p13_191 : Params → Obj := fun P => Obj.mk Value.none none (Data.fields #[]) #[]
noncomputable def o_p13_192 : Params → Obj := fun P => Obj.mk (Value.type "tuple") none (Data.seq #[Value.str (Str.ofString "self") 2481, Value.str (Str.ofString "name") 2482, Value.str (Str.ofString "default") 2483, Value.str (Str.ofString "k") 2484, Value.str (Str.ofString "v") 2485]) #[]
noncomputable def o_p13_193 : Params → Obj := fun P => Obj.mk (Value.type "tuple") none (Data.seq #[]) #[]
noncomputable def o_p13_194 : Params → Obj := fun P => Obj.mk (Value.none) (none) (Data.func (FuncData.mk (Str.ofString "get") (Str.ofString "Headers.get") (fPars (mth 14 8)) (.stmts (fBody (mth 14 8))) (fScope (mth 14 8)) (0) ([]) (Value.none) (Value.none) (Value.none) (Value.none) (none) (Value.none) (Value.none) (0))) (#[])
noncomputable def o_p13_195 : Params → Obj := fun P => Obj.mk (Value.type "code") none (Data.fields #[Value.str (Str.ofString "get") 2478, Value.str (Str.ofString "Headers.get") 2479, Value.str (Str.ofString "/claim/cut.py") 2480, Value.int 74 0, Value.int 3 0, Value.int 0 0, Value.int 0 0, Value.int 3 0, Value.ref 190, Value.bool true, Value.int 276 0, Value.ref 191, Value.none, Value.ref 192, Value.ref 193, Value.ref 194, Value.int 2486 0, Value.int 74 0, Value.str (Str.ofString "/claim/cut.py") 2487]) #[]
noncomputable def o_p13_196 : Params → Obj := fun P => Obj.mk (Value.type "function") (none) (Data.func (FuncData.mk (Str.ofString "get") (Str.ofString "Headers.get") (fPars (mth 14 8)) (.stmts (fBody (mth 14 8))) (fScope (mth 14 8)) (3) ([]) (Value.ref 189) (Value.none) (Value.none) (Value.str (Str.ofString "cpy313.wsgiref.headers") 2338) (none) (Value.ref 195) (Value.none) (0))) (#[])
noncomputable def o_p13_197 : Params → Obj := fun P => Obj.mk (Value.type "tuple") none (Data.seq #[]) #[]
noncomputable def o_p13_198 : Params → Obj := fun P => Obj.mk Value.none none (Data.fields #[]) #[]
noncomputable def o_p13_199 : Params → Obj := fun P => Obj.mk (Value.none) (none) (Data.func (FuncData.mk (Str.ofString "keys") (Str.ofString "Headers.keys") (fPars (mth 14 9)) (.stmts (fBody (mth 14 9))) (fScope (mth 14 9)) (0) ([]) (Value.none) (Value.none) (Value.none) (Value.none) (none) (Value.none) (Value.none) (0))) (#[])
noncomputable def o_p13_200 : Params → Obj := fun P => Obj.mk (Value.type "code") none (Data.fields #[Value.str (Str.ofString "keys") 2489, Value.str (Str.ofString "Headers.keys") 2490, Value.str (Str.ofString "/claim/cut.py") 2491, Value.int 81 0, Value.int 1 0, Value.int 0 0, Value.int 0 0, Value.int 3 0, Value.ref 197, Value.bool true, Value.int 276 0, Value.ref 198, Value.none, Value.none, Value.none, Value.ref 199, Value.int 2492 0, Value.int 81 0, Value.str (Str.ofString "/claim/cut.py") 2493]) #[]
noncomputable def o_p13_201 : Params → Obj := fun P => Obj.mk (Value.type "function") (none) (Data.func (FuncData.mk (Str.ofString "keys") (Str.ofString "Headers.keys") (fPars (mth 14 9)) (.stmts (fBody (mth 14 9))) (fScope (mth 14 9)) (3) ([]) (Value.none) (Value.none) (Value.none) (Value.str (Str.ofString "cpy313.wsgiref.headers") 2338) (none) (Value.ref 200) (Value.none) (0))) (#[])
noncomputable def o_p13_202 : Params → Obj := fun P => Obj.mk (Value.type "tuple") none (Data.seq #[]) #[]
noncomputable def o_p13_203 : Params → Obj := fun P => Obj.mk Value.none none (Data.fields #[]) #[]
noncomputable def o_p13_204 : Params → Obj := fun P => Obj.mk (Value.none) (none) (Data.func (FuncData.mk (Str.ofString "values") (Str.ofString "Headers.values") (fPars (mth 14 10)) (.stmts (fBody (mth 14 10))) (fScope (mth 14 10)) (0) ([]) (Value.none) (Value.none) (Value.none) (Value.none) (none) (Value.none) (Value.none) (0))) (#[])
noncomputable def o_p13_205 : Params → Obj := fun P => Obj.mk (Value.type "code") none (Data.fields #[Value.str (Str.ofString "values") 2495, Value.str (Str.ofString "Headers.values") 2496, Value.str (Str.ofString "/claim/cut.py") 2497, Value.int 84 0, Value.int 1 0, Value.int 0 0, Value.int 0 0, Value.int 3 0, Value.ref 202, Value.bool true, Value.int 276 0, Value.ref 203, Value.none, Value.none, Value.none, Value.ref 204, Value.int 2498 0, Value.int 84 0, Value.str (Str.ofString "/claim/cut.py") 2499]) #[]
noncomputable def o_p13_206 : Params → Obj := fun P => Obj.mk (Value.type "function") (none) (Data.func (FuncData.mk (Str.ofString "values") (Str.ofString "Headers.values") (fPars (mth 14 10)) (.stmts (fBody (mth 14 10))) (fScope (mth 14 10)) (3) ([]) (Value.none) (Value.none) (Value.none) (Value.str (Str.ofString "cpy313.wsgiref.headers") 2338) (none) (Value.ref 205) (Value.none) (0))) (#[])
noncomputable def o_p13_207 : Params → Obj := fun P => Obj.mk (Value.type "tuple") none (Data.seq #[]) #[]
noncomputable def o_p13_208 : Params → Obj := fun P => Obj.mk Value.none none (Data.fields #[]) #[]
noncomputable def o_p13_209 : Params → Obj := fun P => Obj.mk (Value.type "tuple") none (Data.seq #[Value.str (Str.ofString "self") 2504]) #[]
noncomputable def o_p13_210 : Params → Obj := fun P => Obj.mk (Value.type "tuple") none (Data.seq #[]) #[]
noncomputable def o_p13_211 : Params → Obj := fun P => Obj.mk (Value.none) (none) (Data.func (FuncData.mk (Str.ofString "items") (Str.ofString "Headers.items") (fPars (mth 14 11)) (.stmts (fBody (mth 14 11))) (fScope (mth 14 11)) (0) ([]) (Value.none) (Value.none) (Value.none) (Value.none) (none) (Value.none) (Value.none) (0))) (#[])
noncomputable def o_p13_212 : Params → Obj := fun P => Obj.mk (Value.type "code") none (Data.fields #[Value.str (Str.ofString "items") 2501, Value.str (Str.ofString "Headers.items") 2502, Value.str (Str.ofString "/claim/cut.py") 2503, Value.int 87 0, Value.int 1 0, Value.int 0 0, Value.int 0 0, Value.int 3 0, Value.ref 207, Value.bool true, Value.int 276 0, Value.ref 208, Value.none, Value.ref 209, Value.ref 210, Value.ref 211, Value.int 2505 0, Value.int 87 0, Value.str (Str.ofString "/claim/cut.py") 2506]) #[]
noncomputable def o_p13_213 : Params → Obj := fun P => Obj.mk (Value.type "function") (none) (Data.func (FuncData.mk (Str.ofString "items") (Str.ofString "Headers.items") (fPars (mth 14 11)) (.stmts (fBody (mth 14 11))) (fScope (mth 14 11)) (3) ([]) (Value.none) (Value.none) (Value.none) (Value.str (Str.ofString "cpy313.wsgiref.headers") 2338) (none) (Value.ref 212) (Value.none) (0))) (#[])
noncomputable def o_p13_214 : Params → Obj := fun P => Obj.mk (Value.type "tuple") none (Data.seq #[]) #[]
noncomputable def o_p13_215 : Params → Obj := fun P => Obj.mk Value.none none (Data.fields #[]) #[]
noncomputable def o_p13_216 : Params → Obj := fun P => Obj.mk (Value.type "tuple") none (Data.seq #[Value.str (Str.ofString "self") 2511]) #[]
noncomputable def o_p13_217 : Params → Obj := fun P => Obj.mk (Value.type "tuple") none (Data.seq #[]) #[]
noncomputable def o_p13_218 : Params → Obj := fun P => Obj.mk (Value.none) (none) (Data.func (FuncData.mk (Str.ofString "__repr__") (Str.ofString "Headers.__repr__") (fPars (mth 14 12)) (.stmts (fBody (mth 14 12))) (fScope (mth 14 12)) (0) ([]) (Value.none) (Value.none) (Value.none) (Value.none) (none) (Value.none) (Value.none) (0))) (#[])
noncomputable def o_p13_219 : Params → Obj := fun P => Obj.mk (Value.type "code") none (Data.fields #[Value.str (Str.ofString "__repr__") 2508, Value.str (Str.ofString "Headers.__repr__") 2509, Value.str (Str.ofString "/claim/cut.py") 2510, Value.int 90 0, Value.int 1 0, Value.int 0 0, Value.int 0 0, Value.int 3 0, Value.ref 214, Value.bool true, Value.int 276 0, Value.ref 215, Value.none, Value.ref 216, Value.ref 217, Value.ref 218, Value.int 2512 0, Value.int 90 0, Value.str (Str.ofString "/claim/cut.py") 2513]) #[]
noncomputable def o_p13_220 : Params → Obj := fun P => Obj.mk (Value.type "function") (none) (Data.func (FuncData.mk (Str.ofString "__repr__") (Str.ofString "Headers.__repr__") (fPars (mth 14 12)) (.stmts (fBody (mth 14 12))) (fScope (mth 14 12)) (3) ([]) (Value.none) (Value.none) (Value.none) (Value.str (Str.ofString "cpy313.wsgiref.headers") 2338) (none) (Value.ref 219) (Value.none) (0))) (#[])
noncomputable def o_p13_221 : Params → Obj := fun P => Obj.mk (Value.type "tuple") none (Data.seq #[]) #[]
noncomputable def o_p13_222 : Params → Obj := fun P => Obj.mk Value.none none (Data.fields #[]) #[]
noncomputable def o_p13_223 : Params → Obj := fun P => Obj.mk (Value.none) (none) (Data.func (FuncData.mk (Str.ofString "__str__") (Str.ofString "Headers.__str__") (fPars (mth 14 13)) (.stmts (fBody (mth 14 13))) (fScope (mth 14 13)) (0) ([]) (Value.none) (Value.none) (Value.none) (Value.none) (none) (Value.none) (Value.none) (0))) (#[])
noncomputable def o_p13_224 : Params → Obj := fun P => Obj.mk (Value.type "code") none (Data.fields #[Value.str (Str.ofString "__str__") 2515, Value.str (Str.ofString "Headers.__str__") 2516, Value.str (Str.ofString "/claim/cut.py") 2517, Value.int 93 0, Value.int 1 0, Value.int 0 0, Value.int 0 0, Value.int 3 0, Value.ref 221, Value.bool true, Value.int 276 0, Value.ref 222, Value.none, Value.none, Value.none, Value.ref 223, Value.int 2518 0, Value.int 93 0, Value.str (Str.ofString "/claim/cut.py") 2519]) #[]
noncomputable def o_p13_225 : Params → Obj := fun P => Obj.mk (Value.type "function") (none) (Data.func (FuncData.mk (Str.ofString "__str__") (Str.ofString "Headers.__str__") (fPars (mth 14 13)) (.stmts (fBody (mth 14 13))) (fScope (mth 14 13)) (3) ([]) (Value.none) (Value.none) (Value.none) (Value.str (Str.ofString "cpy313.wsgiref.headers") 2338) (none) (Value.ref 224) (Value.none) (0))) (#[])
noncomputable def o_p13_226 : Params → Obj := fun P => Obj.mk (Value.type "tuple") none (Data.seq #[]) #[]
noncomputable def o_p13_227 : Params → Obj := fun P => Obj.mk Value.none none (Data.fields #[]) #[]
noncomputable def o_p13_228 : Params → Obj := fun P => Obj.mk (Value.type "tuple") none (Data.seq #[Value.str (Str.ofString "self") 2524]) #[]
noncomputable def o_p13_229 : Params → Obj := fun P => Obj.mk (Value.type "tuple") none (Data.seq #[]) #[]
noncomputable def o_p13_230 : Params → Obj := fun P => Obj.mk (Value.none) (none) (Data.func (FuncData.mk (Str.ofString "__bytes__") (Str.ofString "Headers.__bytes__") (fPars (mth 14 14)) (.stmts (fBody (mth 14 14))) (fScope (mth 14 14)) (0) ([]) (Value.none) (Value.none) (Value.none) (Value.none) (none) (Value.none) (Value.none) (0))) (#[])
noncomputable def o_p13_231 : Params → Obj := fun P => Obj.mk (Value.type "code") none (Data.fields #[Value.str (Str.ofString "__bytes__") 2521, Value.str (Str.ofString "Headers.__bytes__") 2522, Value.str (Str.ofString "/claim/cut.py") 2523, Value.int 96 0, Value.int 1 0, Value.int 0 0, Value.int 0 0, Value.int 3 0, Value.ref 226, Value.bool true, Value.int 276 0, Value.ref 227, Value.none, Value.ref 228, Value.ref 229, Value.ref 230, Value.int 2525 0, Value.int 96 0, Value.str (Str.ofString "/claim/cut.py") 2526]) #[]
noncomputable def o_p13_232 : Params → Obj := fun P => Obj.mk (Value.type "function") (none) (Data.func (FuncData.mk (Str.ofString "__bytes__") (Str.ofString "Headers.__bytes__") (fPars (mth 14 14)) (.stmts (fBody (mth 14 14))) (fScope (mth 14 14)) (3) ([]) (Value.none) (Value.none) (Value.none) (Value.str (Str.ofString "cpy313.wsgiref.headers") 2338) (none) (Value.ref 231) (Value.none) (0))) (#[])
noncomputable def o_p13_233 : Params → Obj := fun P => Obj.mk (Value.type "tuple") none (Data.seq #[]) #[]
noncomputable def o_p13_234 : Params → Obj := fun P => Obj.mk Value.none none (Data.fields #[]) #[]
noncomputable def o_p13_235 : Params → Obj := fun P => Obj.mk (Value.type "tuple") none (Data.seq #[Value.str (Str.ofString "self") 2531, Value.str (Str.ofString "name") 2532, Value.str (Str.ofString "value") 2533]) #[]
noncomputable def o_p13_236 : Params → Obj := fun P => Obj.mk (Value.type "tuple") none (Data.seq #[]) #[]
noncomputable def o_p13_237 : Params → Obj := fun P => Obj.mk (Value.none) (none) (Data.func (FuncData.mk (Str.ofString "setdefault") (Str.ofString "Headers.setdefault") (fPars (mth 14 15)) (.stmts (fBody (mth 14 15))) (fScope (mth 14 15)) (0) ([]) (Value.none) (Value.none) (Value.none) (Value.none) (none) (Value.none) (Value.none) (0))) (#[])
noncomputable def o_p13_238 : Params → Obj := fun P => Obj.mk (Value.type "code") none (Data.fields #[Value.str (Str.ofString "setdefault") 2528, Value.str (Str.ofString "Headers.setdefault") 2529, Value.str (Str.ofString "/claim/cut.py") 2530, Value.int 99 0, Value.int 3 0, Value.int 0 0, Value.int 0 0, Value.int 3 0, Value.ref 233, Value.bool true, Value.int 276 0, Value.ref 234, Value.none, Value.ref 235, Value.ref 236, Value.ref 237, Value.int 2534 0, Value.int 99 0, Value.str (Str.ofString "/claim/cut.py") 2535]) #[]
noncomputable def o_p13_239 : Params → Obj := fun P => Obj.mk (Value.type "function") (none) (Data.func (FuncData.mk (Str.ofString "setdefault") (Str.ofString "Headers.setdefault") (fPars (mth 14 15)) (.stmts (fBody (mth 14 15))) (fScope (mth 14 15)) (3) ([]) (Value.none) (Value.none) (Value.none) (Value.str (Str.ofString "cpy313.wsgiref.headers") 2338) (none) (Value.ref 238) (Value.none) (0))) (#[])
noncomputable def o_p13_240 : Params → Obj := fun P => Obj.mk (Value.type "tuple") none (Data.seq #[]) #[]
noncomputable def o_p13_241 : Params → Obj := fun P => Obj.mk Value.none none (Data.fields #[]) #[]
noncomputable def o_p13_242 : Params → Obj := fun P => Obj.mk (Value.type "tuple") none (Data.seq #[Value.str (Str.ofString "self") 2540, Value.str (Str.ofString "_name") 2541, Value.str (Str.ofString "_value") 2542, Value.str (Str.ofString "_params") 2543]) #[]
noncomputable def o_p13_243 : Params → Obj := fun P => Obj.mk (Value.type "tuple") none (Data.seq #[]) #[]
noncomputable def o_p13_244 : Params → Obj := fun P => Obj.mk (Value.none) (none) (Data.func (FuncData.mk (Str.ofString "add_header") (Str.ofString "Headers.add_header") (fPars (mth 14 16)) (.stmts (fBody (mth 14 16))) (fScope (mth 14 16)) (0) ([]) (Value.none) (Value.none) (Value.none) (Value.none) (none) (Value.none) (Value.none) (0))) (#[])
noncomputable def o_p13_245 : Params → Obj := fun P => Obj.mk (Value.type "code") none (Data.fields #[Value.str (Str.ofString "add_header") 2537, Value.str (Str.ofString "Headers.add_header") 2538, Value.str (Str.ofString "/claim/cut.py") 2539, Value.int 102 0, Value.int 3 0, Value.int 0 0, Value.int 0 0, Value.int 11 0, Value.ref 240, Value.bool true, Value.int 276 0, Value.ref 241, Value.none, Value.ref 242, Value.ref 243, Value.ref 244, Value.int 2544 0, Value.int 102 0, Value.str (Str.ofString "/claim/cut.py") 2545]) #[]
noncomputable def o_p13_246 : Params → Obj := fun P => Obj.mk (Value.type "function") (none) (Data.func (FuncData.mk (Str.ofString "add_header") (Str.ofString "Headers.add_header") (fPars (mth 14 16)) (.stmts (fBody (mth 14 16))) (fScope (mth 14 16)) (3) ([]) (Value.none) (Value.none) (Value.none) (Value.str (Str.ofString "cpy313.wsgiref.headers") 2338) (none) (Value.ref 245) (Value.none) (0))) (#[])
noncomputable def o_p13_247 : Params → Obj := fun P => Obj.mk (Value.type "tuple") none (Data.seq #[Value.str (Str.ofString "_headers") 2547]) #[]
noncomputable def o_p13_248 : Params → Obj := fun P => Obj.mk (Value.type "dict") none (Data.dict #[DictEntry.mk (PyData.keyHash P (Str.ofString "__module__")) (Value.str (Str.ofString "__module__") 2407) (Value.str (Str.ofString "cpy313.wsgiref.headers") 2338), DictEntry.mk (PyData.keyHash P (Str.ofString "__firstlineno__")) (Value.str (Str.ofString "__firstlineno__") 2411) (Value.int 34 2410), DictEntry.mk (PyData.keyHash P (Str.ofString "__init__")) (Value.str (Str.ofString "__init__") 2421) (Value.ref 141), DictEntry.mk (PyData.keyHash P (Str.ofString "_convert_string_type")) (Value.str (Str.ofString "_convert_string_type") 2431) (Value.ref 148), DictEntry.mk (PyData.keyHash P (Str.ofString "__len__")) (Value.str (Str.ofString "__len__") 2438) (Value.ref 155), DictEntry.mk (PyData.keyHash P (Str.ofString "__setitem__")) (Value.str (Str.ofString "__setitem__") 2447) (Value.ref 162), DictEntry.mk (PyData.keyHash P (Str.ofString "__delitem__")) (Value.str (Str.ofString "__delitem__") 2453) (Value.ref 167), DictEntry.mk (PyData.keyHash P (Str.ofString "__getitem__")) (Value.str (Str.ofString "__getitem__") 2461) (Value.ref 174), DictEntry.mk (PyData.keyHash P (Str.ofString "__contains__")) (Value.str (Str.ofString "__contains__") 2469) (Value.ref 181), DictEntry.mk (PyData.keyHash P (Str.ofString "get_all")) (Value.str (Str.ofString "get_all") 2477) (Value.ref 188), DictEntry.mk (PyData.keyHash P (Str.ofString "get")) (Value.str (Str.ofString "get") 2488) (Value.ref 196), DictEntry.mk (PyData.keyHash P (Str.ofString "keys")) (Value.str (Str.ofString "keys") 2494) (Value.ref 201), DictEntry.mk (PyData.keyHash P (Str.ofString "values")) (Value.str (Str.ofString "values") 2500) (Value.ref 206), DictEntry.mk (PyData.keyHash P (Str.ofString "items")) (Value.str (Str.ofString "items") 2507) (Value.ref 213), DictEntry.mk (PyData.keyHash P (Str.ofString "__repr__")) (Value.str (Str.ofString "__repr__") 2514) (Value.ref 220), DictEntry.mk (PyData.keyHash P (Str.ofString "__str__")) (Value.str (Str.ofString "__str__") 2520) (Value.ref 225), DictEntry.mk (PyData.keyHash P (Str.ofString "__bytes__")) (Value.str (Str.ofString "__bytes__") 2527) (Value.ref 232), DictEntry.mk (PyData.keyHash P (Str.ofString "setdefault")) (Value.str (Str.ofString "setdefault") 2536) (Value.ref 239), DictEntry.mk (PyData.keyHash P (Str.ofString "add_header")) (Value.str (Str.ofString "add_header") 2546) (Value.ref 246), DictEntry.mk (PyData.keyHash P (Str.ofString "__static_attributes__")) (Value.str (Str.ofString "__static_attributes__") 2548) (Value.ref 247), DictEntry.mk (PyData.keyHash P (Str.ofString "__dict__")) (Value.str (Str.ofString "__dict__") 2550) (Value.ref 250), DictEntry.mk (PyData.keyHash P (Str.ofString "__weakref__")) (Value.str (Str.ofString "__weakref__") 2552) (Value.ref 251), DictEntry.mk (PyData.keyHash P (Str.ofString "__doc__")) (Value.str (Str.ofString "__doc__") 2553) Value.none] 4) #[]
noncomputable def o_p13_249 : Params → Obj := fun P => Obj.mk (Value.type "type") none (Data.cls (ClassData.mk (Str.ofString "Headers") [Value.type "object"] [Value.ref 249, Value.type "object"] 248 (Str.ofString "Headers") true [] [] false none false)) #[none, none, some (Value.str (Str.ofString "Headers") 2400), some (Value.str (Str.ofString "Headers") 2408), some (Value.builtin "object.__new__"), some (Value.bool true)]
noncomputable def o_p13_250 : Params → Obj := fun P => Obj.mk (Value.type "getset_descriptor") none (Data.fields #[Value.str (Str.ofString "__dict__") 2549, Value.ref 249, Value.builtin "function.__dict__", Value.builtin "function.__dict__#set"]) #[]
noncomputable def o_p13_251 : Params → Obj := fun P => Obj.mk (Value.type "getset_descriptor") none (Data.fields #[Value.str (Str.ofString "__weakref__") 2551, Value.ref 249, Value.builtin "ExceptionGroup.__weakref__", Value.none]) #[]
noncomputable def o_p13_252 : Params → Obj := fun P => Obj.mk (Value.type "super") none (Data.fields #[Value.ref 249, Value.ref 249, Value.ref 249]) #[]
noncomputable def o_p13_253 : Params → Obj := fun P => Obj.mk (Value.type "builtin_function_or_method") none (Data.fields #[Value.builtin "object.__init_subclass__", Value.ref 249]) #[]
noncomputable def t_p13 : Params → BT := fun P => (.node (o_s0_0 P) (.node (o_s0_1 P) (.node (o_p13_3 P) (.node (o_s0_7 P) (.node (o_s0_15 P) (.node (o_block_31 P) (.node (o_p6_63 P) (.node (o_p13_127 P) .nil .nil) (.node (o_p13_191 P) .nil .nil)) (.node (o_p8_95 P) (.node (o_p13_159 P) .nil .nil) (.node (o_p13_223 P) .nil .nil))) (.node (o_p5_47 P) (.node (o_p8_79 P) (.node (o_p13_143 P) .nil .nil) (.node (o_p13_207 P) .nil .nil)) (.node (o_p12_111 P) (.node (o_p13_175 P) .nil .nil) (.node (o_p13_239 P) .nil .nil)))) (.node (o_s0_23 P) (.node (o_p5_39 P) (.node (o_p8_71 P) (.node (o_p13_135 P) .nil .nil) (.node (o_p13_199 P) .nil .nil)) (.node (o_p8_103 P) (.node (o_p13_167 P) .nil .nil) (.node (o_p13_231 P) .nil .nil))) (.node (o_p6_55 P) (.node (o_p8_87 P) (.node (o_p13_151 P) .nil .nil) (.node (o_p13_215 P) .nil .nil)) (.node (o_p12_119 P) (.node (o_p13_183 P) .nil .nil) (.node (o_p13_247 P) .nil .nil))))) (.node (o_s0_11 P) (.node (o_s0_19 P) (.node (o_p5_35 P) (.node (o_p7_67 P) (.node (o_p13_131 P) .nil .nil) (.node (o_p13_195 P) .nil .nil)) (.node (o_p8_99 P) (.node (o_p13_163 P) .nil .nil) (.node (o_p13_227 P) .nil .nil))) (.node (o_p5_51 P) (.node (o_p8_83 P) (.node (o_p13_147 P) .nil .nil) (.node (o_p13_211 P) .nil .nil)) (.node (o_p12_115 P) (.node (o_p13_179 P) .nil .nil) (.node (o_p13_243 P) .nil .nil)))) (.node (o_s0_27 P) (.node (o_p5_43 P) (.node (o_p8_75 P) (.node (o_p13_139 P) .nil .nil) (.node (o_p13_203 P) .nil .nil)) (.node (o_p8_107 P) (.node (o_p13_171 P) .nil .nil) (.node (o_p13_235 P) .nil .nil))) (.node (o_p6_59 P) (.node (o_p8_91 P) (.node (o_p13_155 P) .nil .nil) (.node (o_p13_219 P) .nil .nil)) (.node (o_p12_123 P) (.node (o_p13_187 P) .nil .nil) (.node (o_p13_251 P) .nil .nil)))))) (.node (o_s0_5 P) (.node (o_s0_9 P) (.node (o_s0_17 P) (.node (o_p5_33 P) (.node (o_p7_65 P) (.node (o_p13_129 P) .nil .nil) (.node (o_p13_193 P) .nil .nil)) (.node (o_p8_97 P) (.node (o_p13_161 P) .nil .nil) (.node (o_p13_225 P) .nil .nil))) (.node (o_p5_49 P) (.node (o_p8_81 P) (.node (o_p13_145 P) .nil .nil) (.node (o_p13_209 P) .nil .nil)) (.node (o_p12_113 P) (.node (o_p13_177 P) .nil .nil) (.node (o_p13_241 P) .nil .nil)))) (.node (o_s0_25 P) (.node (o_p5_41 P) (.node (o_p8_73 P) (.node (o_p13_137 P) .nil .nil) (.node (o_p13_201 P) .nil .nil)) (.node (o_p8_105 P) (.node (o_p13_169 P) .nil .nil) (.node (o_p13_233 P) .nil .nil))) (.node (o_p6_57 P) (.node (o_p8_89 P) (.node (o_p13_153 P) .nil .nil) (.node (o_p13_217 P) .nil .nil)) (.node (o_p12_121 P) (.node (o_p13_185 P) .nil .nil) (.node (o_p13_249 P) .nil .nil))))) (.node (o_s0_13 P) (.node (o_s0_21 P) (.node (o_p5_37 P) (.node (o_p7_69 P) (.node (o_p13_133 P) .nil .nil) (.node (o_p13_197 P) .nil .nil)) (.node (o_p8_101 P) (.node (o_p13_165 P) .nil .nil) (.node (o_p13_229 P) .nil .nil))) (.node (o_p6_53 P) (.node (o_p8_85 P) (.node (o_p13_149 P) .nil .nil) (.node (o_p13_213 P) .nil .nil)) (.node (o_p12_117 P) (.node (o_p13_181 P) .nil .nil) (.node (o_p13_245 P) .nil .nil)))) (.node (o_p13_29 P) (.node (o_p5_45 P) (.node (o_p8_77 P) (.node (o_p13_141 P) .nil .nil) (.node (o_p13_205 P) .nil .nil)) (.node (o_p8_109 P) (.node (o_p13_173 P) .nil .nil) (.node (o_p13_237 P) .nil .nil))) (.node (o_p6_61 P) (.node (o_p8_93 P) (.node (o_p13_157 P) .nil .nil) (.node (o_p13_221 P) .nil .nil)) (.node (o_p12_125 P) (.node (o_p13_189 P) .nil .nil) (.node (o_p13_253 P) .nil .nil))))))) (.node (o_s0_2 P) (.node (o_s0_4 P) (.node (o_s0_8 P) (.node (o_s0_16 P) (.node (o_p5_32 P) (.node (o_p7_64 P) (.node (o_p13_128 P) .nil .nil) (.node (o_p13_192 P) .nil .nil)) (.node (o_p8_96 P) (.node (o_p13_160 P) .nil .nil) (.node (o_p13_224 P) .nil .nil))) (.node (o_p5_48 P) (.node (o_p8_80 P) (.node (o_p13_144 P) .nil .nil) (.node (o_p13_208 P) .nil .nil)) (.node (o_p12_112 P) (.node (o_p13_176 P) .nil .nil) (.node (o_p13_240 P) .nil .nil)))) (.node (o_s0_24 P) (.node (o_p5_40 P) (.node (o_p8_72 P) (.node (o_p13_136 P) .nil .nil) (.node (o_p13_200 P) .nil .nil)) (.node (o_p8_104 P) (.node (o_p13_168 P) .nil .nil) (.node (o_p13_232 P) .nil .nil))) (.node (o_p6_56 P) (.node (o_p8_88 P) (.node (o_p13_152 P) .nil .nil) (.node (o_p13_216 P) .nil .nil)) (.node (o_p12_120 P) (.node (o_p13_184 P) .nil .nil) (.node (o_p13_248 P) .nil .nil))))) (.node (o_s0_12 P) (.node (o_s0_20 P) (.node (o_p5_36 P) (.node (o_p7_68 P) (.node (o_p13_132 P) .nil .nil) (.node (o_p13_196 P) .nil .nil)) (.node (o_p8_100 P) (.node (o_p13_164 P) .nil .nil) (.node (o_p13_228 P) .nil .nil))) (.node (o_p5_52 P) (.node (o_p8_84 P) (.node (o_p13_148 P) .nil .nil) (.node (o_p13_212 P) .nil .nil)) (.node (o_p12_116 P) (.node (o_p13_180 P) .nil .nil) (.node (o_p13_244 P) .nil .nil)))) (.node (o_block_28 P) (.node (o_p5_44 P) (.node (o_p8_76 P) (.node (o_p13_140 P) .nil .nil) (.node (o_p13_204 P) .nil .nil)) (.node (o_p8_108 P) (.node (o_p13_172 P) .nil .nil) (.node (o_p13_236 P) .nil .nil))) (.node (o_p6_60 P) (.node (o_p8_92 P) (.node (o_p13_156 P) .nil .nil) (.node (o_p13_220 P) .nil .nil)) (.node (o_p12_124 P) (.node (o_p13_188 P) .nil .nil) (.node (o_p13_252 P) .nil .nil)))))) (.node (o_s0_6 P) (.node (o_s0_10 P) (.node (o_s0_18 P) (.node (o_p5_34 P) (.node (o_p7_66 P) (.node (o_p13_130 P) .nil .nil) (.node (o_p13_194 P) .nil .nil)) (.node (o_p8_98 P) (.node (o_p13_162 P) .nil .nil) (.node (o_p13_226 P) .nil .nil))) (.node (o_p5_50 P) (.node (o_p8_82 P) (.node (o_p13_146 P) .nil .nil) (.node (o_p13_210 P) .nil .nil)) (.node (o_p12_114 P) (.node (o_p13_178 P) .nil .nil) (.node (o_p13_242 P) .nil .nil)))) (.node (o_s0_26 P) (.node (o_p5_42 P) (.node (o_p8_74 P) (.node (o_p13_138 P) .nil .nil) (.node (o_p13_202 P) .nil .nil)) (.node (o_p8_106 P) (.node (o_p13_170 P) .nil .nil) (.node (o_p13_234 P) .nil .nil))) (.node (o_p6_58 P) (.node (o_p8_90 P) (.node (o_p13_154 P) .nil .nil) (.node (o_p13_218 P) .nil .nil)) (.node (o_p12_122 P) (.node (o_p13_186 P) .nil .nil) (.node (o_p13_250 P) .nil .nil))))) (.node (o_s0_14 P) (.node (o_s0_22 P) (.node (o_p5_38 P) (.node (o_p7_70 P) (.node (o_p13_134 P) .nil .nil) (.node (o_p13_198 P) .nil .nil)) (.node (o_p8_102 P) (.node (o_p13_166 P) .nil .nil) (.node (o_p13_230 P) .nil .nil))) (.node (o_p6_54 P) (.node (o_p8_86 P) (.node (o_p13_150 P) .nil .nil) (.node (o_p13_214 P) .nil .nil)) (.node (o_p12_118 P) (.node (o_p13_182 P) .nil .nil) (.node (o_p13_246 P) .nil .nil)))) (.node (o_block_30 P) (.node (o_p5_46 P) (.node (o_p8_78 P) (.node (o_p13_142 P) .nil .nil) (.node (o_p13_206 P) .nil .nil)) (.node (o_p12_110 P) (.node (o_p13_174 P) .nil .nil) (.node (o_p13_238 P) .nil .nil))) (.node (o_p6_62 P) (.node (o_p8_94 P) (.node (o_p13_158 P) .nil .nil) (.node (o_p13_222 P) .nil .nil)) (.node (o_p12_126 P) (.node (o_p13_190 P) .nil .nil) .nil)))))))
noncomputable def S_p13 (w : World) (os : OsState) : SharedT := SharedT.mk (t_p13 w.params) 254 (Life.mk [] [] [] 0 [] [] false #[] [] 0 false false false 0 [2000, 10, 10] false 0 true [] [] 0 false) #[] (Drawn.mk 0 0 0 0) 2556 os
noncomputable def o_fin_3 : Params → Obj := fun P => Obj.mk (Value.type "dict") none (Data.dict #[DictEntry.mk (PyData.keyHash P (Str.ofString "__name__")) (Value.str (Str.ofString "__name__") 165) (Value.str (Str.ofString "law_wf0096_01") 2556), DictEntry.mk (PyData.keyHash P (Str.ofString "__doc__")) (Value.str (Str.ofString "__doc__") 166) Value.none, DictEntry.mk (PyData.keyHash P (Str.ofString "__package__")) (Value.str (Str.ofString "__package__") 167) Value.none, DictEntry.mk (PyData.keyHash P (Str.ofString "__loader__")) (Value.str (Str.ofString "__loader__") 168) (Value.builtin "__main__.__loader__#opaque"), DictEntry.mk (PyData.keyHash P (Str.ofString "__spec__")) (Value.str (Str.ofString "__spec__") 169) Value.none, DictEntry.mk (PyData.keyHash P (Str.ofString "__annotations__")) (Value.str (Str.ofString "__annotations__") 170) (Value.ref 6), DictEntry.mk (PyData.keyHash P (Str.ofString "__builtins__")) (Value.str (Str.ofString "__builtins__") 171) (Value.ref 4), DictEntry.mk (PyData.keyHash P (Str.ofString "__file__")) (Value.str (Str.ofString "__file__") 173) (Value.str (Str.ofString "/claim/cut.py") 172), DictEntry.mk (PyData.keyHash P (Str.ofString "__cached__")) (Value.str (Str.ofString "__cached__") 174) Value.none, DictEntry.mk (PyData.keyHash P (Str.ofString "_sre")) (Value.str (Str.ofString "_sre") 275) (Value.ref 12), DictEntry.mk (PyData.keyHash P (Str.ofString "_wall")) (Value.str (Str.ofString "_wall") 288) (Value.ref 38), DictEntry.mk (PyData.keyHash P (Str.ofString "_strcoll")) (Value.str (Str.ofString "_strcoll") 298) (Value.ref 45), DictEntry.mk (PyData.keyHash P (Str.ofString "CHAR_MAX")) (Value.str (Str.ofString "CHAR_MAX") 300) (Value.int 127 299), DictEntry.mk (PyData.keyHash P (Str.ofString "_grouping_intervals")) (Value.str (Str.ofString "_grouping_intervals") 309) (Value.ref 52), DictEntry.mk (PyData.keyHash P (Str.ofString "b1_set")) (Value.str (Str.ofString "b1_set") 371) (Value.ref 60), DictEntry.mk (PyData.keyHash P (Str.ofString "in_table_b1")) (Value.str (Str.ofString "in_table_b1") 378) (Value.ref 70), DictEntry.mk (PyData.keyHash P (Str.ofString "b3_exceptions")) (Value.str (Str.ofString "b3_exceptions") 2329) (Value.ref 71), DictEntry.mk (PyData.keyHash P (Str.ofString "map_table_b3")) (Value.str (Str.ofString "map_table_b3") 2337) (Value.ref 116), DictEntry.mk (PyData.keyHash P (Str.ofString "_name_disallowed_re")) (Value.str (Str.ofString "_name_disallowed_re") 2365) (Value.ref 121), DictEntry.mk (PyData.keyHash P (Str.ofString "_value_disallowed_re")) (Value.str (Str.ofString "_value_disallowed_re") 2399) (Value.ref 126), DictEntry.mk (PyData.keyHash P (Str.ofString "Headers")) (Value.str (Str.ofString "Headers") 2555) (Value.ref 249), DictEntry.mk (PyData.keyHash P (Str.ofString "_law_typed")) (Value.str (Str.ofString "_law_typed") 2565) (Value.ref 260), DictEntry.mk (PyData.keyHash P (Str.ofString "_law_plain")) (Value.str (Str.ofString "_law_plain") 2571) (Value.ref 265), DictEntry.mk (PyData.keyHash P (Str.ofString "_law_take")) (Value.str (Str.ofString "_law_take") 2577) (Value.ref 270), DictEntry.mk (PyData.keyHash P (Str.ofString "_law_counts")) (Value.str (Str.ofString "_law_counts") 2583) (Value.ref 275), DictEntry.mk (PyData.keyHash P (Str.ofString "_law_undone")) (Value.str (Str.ofString "_law_undone") 2597) (Value.ref 282), DictEntry.mk (PyData.keyHash P (Str.ofString "law")) (Value.str (Str.ofString "law") 2603) (Value.ref 287)] 27) #[]
noncomputable def o_fin_29 : Params → Obj := fun P => Obj.mk Value.none none (Data.fields #[Value.int 2 0, Value.int 0 0, Value.ref 37, Value.int 6 0, Value.int 0 0, Value.ref 44, Value.int 9 0, Value.int 0 0, Value.ref 51, Value.int 23 0, Value.int 0 0, Value.ref 69, Value.int 26 0, Value.int 0 0, Value.ref 115, Value.int 34 0, Value.int 0 0, Value.ref 132, Value.int 105 0, Value.int 0 0, Value.ref 259, Value.int 113 0, Value.int 0 0, Value.ref 264, Value.int 115 0, Value.int 0 0, Value.ref 269, Value.int 135 0, Value.int 0 0, Value.ref 274, Value.int 144 0, Value.int 0 0, Value.ref 281, Value.int 160 0, Value.int 0 0, Value.ref 286]) #[]
noncomputable def o_fin_254 : Params → Obj := fun P => Obj.mk (Value.type "tuple") none (Data.seq #[]) #[]
noncomputable def o_fin_255 : Params → Obj := fun P => Obj.mk Value.none none (Data.fields #[]) #[]
noncomputable def o_fin_256 : Params → Obj := fun P => Obj.mk (Value.type "tuple") none (Data.seq #[Value.str (Str.ofString "rank") 2561, Value.str (Str.ofString "dress") 2562]) #[]
noncomputable def o_fin_257 : Params → Obj := fun P => Obj.mk (Value.type "tuple") none (Data.seq #[]) #[]
noncomputable def o_fin_258 : Params → Obj := fun P => Obj.mk (Value.none) (none) (Data.func (FuncData.mk (Str.ofString "_law_typed") (Str.ofString "_law_typed") (fPars (stm 16)) (.stmts (fBody (stm 16))) (fScope (stm 16)) (0) ([]) (Value.none) (Value.none) (Value.none) (Value.none) (none) (Value.none) (Value.none) (0))) (#[])
noncomputable def o_fin_259 : Params → Obj := fun P => Obj.mk (Value.type "code") none (Data.fields #[Value.str (Str.ofString "_law_typed") 2558, Value.str (Str.ofString "_law_typed") 2559, Value.str (Str.ofString "/claim/cut.py") 2560, Value.int 105 0, Value.int 2 0, Value.int 0 0, Value.int 0 0, Value.int 3 0, Value.ref 254, Value.bool true, Value.int 276 0, Value.ref 255, Value.none, Value.ref 256, Value.ref 257, Value.ref 258, Value.int 2563 0, Value.int 105 0, Value.str (Str.ofString "/claim/cut.py") 2564]) #[]
noncomputable def o_fin_260 : Params → Obj := fun P => Obj.mk (Value.type "function") (none) (Data.func (FuncData.mk (Str.ofString "_law_typed") (Str.ofString "_law_typed") (fPars (stm 16)) (.stmts (fBody (stm 16))) (fScope (stm 16)) (3) ([]) (Value.none) (Value.none) (Value.none) (Value.str (Str.ofString "law_wf0096_01") 2556) (none) (Value.ref 259) (Value.none) (0))) (#[])
noncomputable def o_fin_261 : Params → Obj := fun P => Obj.mk (Value.type "tuple") none (Data.seq #[]) #[]
noncomputable def o_fin_262 : Params → Obj := fun P => Obj.mk Value.none none (Data.fields #[]) #[]
noncomputable def o_fin_263 : Params → Obj := fun P => Obj.mk (Value.none) (none) (Data.func (FuncData.mk (Str.ofString "_law_plain") (Str.ofString "_law_plain") (fPars (stm 17)) (.stmts (fBody (stm 17))) (fScope (stm 17)) (0) ([]) (Value.none) (Value.none) (Value.none) (Value.none) (none) (Value.none) (Value.none) (0))) (#[])
noncomputable def o_fin_264 : Params → Obj := fun P => Obj.mk (Value.type "code") none (Data.fields #[Value.str (Str.ofString "_law_plain") 2566, Value.str (Str.ofString "_law_plain") 2567, Value.str (Str.ofString "/claim/cut.py") 2568, Value.int 113 0, Value.int 1 0, Value.int 0 0, Value.int 0 0, Value.int 3 0, Value.ref 261, Value.bool true, Value.int 276 0, Value.ref 262, Value.none, Value.none, Value.none, Value.ref 263, Value.int 2569 0, Value.int 113 0, Value.str (Str.ofString "/claim/cut.py") 2570]) #[]
noncomputable def o_fin_265 : Params → Obj := fun P => Obj.mk (Value.type "function") (none) (Data.func (FuncData.mk (Str.ofString "_law_plain") (Str.ofString "_law_plain") (fPars (stm 17)) (.stmts (fBody (stm 17))) (fScope (stm 17)) (3) ([]) (Value.none) (Value.none) (Value.none) (Value.str (Str.ofString "law_wf0096_01") 2556) (none) (Value.ref 264) (Value.none) (0))) (#[])
noncomputable def o_fin_266 : Params → Obj := fun P => Obj.mk (Value.type "tuple") none (Data.seq #[]) #[]
noncomputable def o_fin_267 : Params → Obj := fun P => Obj.mk Value.none none (Data.fields #[]) #[]
noncomputable def o_fin_268 : Params → Obj := fun P => Obj.mk (Value.none) (none) (Data.func (FuncData.mk (Str.ofString "_law_take") (Str.ofString "_law_take") (fPars (stm 18)) (.stmts (fBody (stm 18))) (fScope (stm 18)) (0) ([]) (Value.none) (Value.none) (Value.none) (Value.none) (none) (Value.none) (Value.none) (0))) (#[])
noncomputable def o_fin_269 : Params → Obj := fun P => Obj.mk (Value.type "code") none (Data.fields #[Value.str (Str.ofString "_law_take") 2572, Value.str (Str.ofString "_law_take") 2573, Value.str (Str.ofString "/claim/cut.py") 2574, Value.int 115 0, Value.int 4 0, Value.int 0 0, Value.int 0 0, Value.int 3 0, Value.ref 266, Value.bool true, Value.int 276 0, Value.ref 267, Value.none, Value.none, Value.none, Value.ref 268, Value.int 2575 0, Value.int 115 0, Value.str (Str.ofString "/claim/cut.py") 2576]) #[]
noncomputable def o_fin_270 : Params → Obj := fun P => Obj.mk (Value.type "function") (none) (Data.func (FuncData.mk (Str.ofString "_law_take") (Str.ofString "_law_take") (fPars (stm 18)) (.stmts (fBody (stm 18))) (fScope (stm 18)) (3) ([]) (Value.none) (Value.none) (Value.none) (Value.str (Str.ofString "law_wf0096_01") 2556) (none) (Value.ref 269) (Value.none) (0))) (#[])
noncomputable def o_fin_271 : Params → Obj := fun P => Obj.mk (Value.type "tuple") none (Data.seq #[]) #[]
noncomputable def o_fin_272 : Params → Obj := fun P => Obj.mk Value.none none (Data.fields #[]) #[]
noncomputable def o_fin_273 : Params → Obj := fun P => Obj.mk (Value.none) (none) (Data.func (FuncData.mk (Str.ofString "_law_counts") (Str.ofString "_law_counts") (fPars (stm 19)) (.stmts (fBody (stm 19))) (fScope (stm 19)) (0) ([]) (Value.none) (Value.none) (Value.none) (Value.none) (none) (Value.none) (Value.none) (0))) (#[])
noncomputable def o_fin_274 : Params → Obj := fun P => Obj.mk (Value.type "code") none (Data.fields #[Value.str (Str.ofString "_law_counts") 2578, Value.str (Str.ofString "_law_counts") 2579, Value.str (Str.ofString "/claim/cut.py") 2580, Value.int 135 0, Value.int 2 0, Value.int 0 0, Value.int 0 0, Value.int 3 0, Value.ref 271, Value.bool true, Value.int 276 0, Value.ref 272, Value.none, Value.none, Value.none, Value.ref 273, Value.int 2581 0, Value.int 135 0, Value.str (Str.ofString "/claim/cut.py") 2582]) #[]
noncomputable def o_fin_275 : Params → Obj := fun P => Obj.mk (Value.type "function") (none) (Data.func (FuncData.mk (Str.ofString "_law_counts") (Str.ofString "_law_counts") (fPars (stm 19)) (.stmts (fBody (stm 19))) (fScope (stm 19)) (3) ([]) (Value.none) (Value.none) (Value.none) (Value.str (Str.ofString "law_wf0096_01") 2556) (none) (Value.ref 274) (Value.none) (0))) (#[])
noncomputable def o_fin_276 : Params → Obj := fun P => Obj.mk (Value.type "tuple") none (Data.seq #[]) #[]
noncomputable def o_fin_277 : Params → Obj := fun P => Obj.mk Value.none none (Data.fields #[]) #[]
noncomputable def o_fin_278 : Params → Obj := fun P => Obj.mk (Value.type "tuple") none (Data.seq #[Value.str (Str.ofString "row") 2587, Value.str (Str.ofString "ranks") 2588, Value.str (Str.ofString "left") 2589, Value.str (Str.ofString "back") 2590, Value.str (Str.ofString "last") 2591, Value.str (Str.ofString "parts") 2592, Value.str (Str.ofString "place") 2593, Value.str (Str.ofString "part") 2594]) #[]
noncomputable def o_fin_279 : Params → Obj := fun P => Obj.mk (Value.type "tuple") none (Data.seq #[]) #[]
noncomputable def o_fin_280 : Params → Obj := fun P => Obj.mk (Value.none) (none) (Data.func (FuncData.mk (Str.ofString "_law_undone") (Str.ofString "_law_undone") (fPars (stm 20)) (.stmts (fBody (stm 20))) (fScope (stm 20)) (0) ([]) (Value.none) (Value.none) (Value.none) (Value.none) (none) (Value.none) (Value.none) (0))) (#[])
noncomputable def o_fin_281 : Params → Obj := fun P => Obj.mk (Value.type "code") none (Data.fields #[Value.str (Str.ofString "_law_undone") 2584, Value.str (Str.ofString "_law_undone") 2585, Value.str (Str.ofString "/claim/cut.py") 2586, Value.int 144 0, Value.int 2 0, Value.int 0 0, Value.int 0 0, Value.int 3 0, Value.ref 276, Value.bool true, Value.int 276 0, Value.ref 277, Value.none, Value.ref 278, Value.ref 279, Value.ref 280, Value.int 2595 0, Value.int 144 0, Value.str (Str.ofString "/claim/cut.py") 2596]) #[]
noncomputable def o_fin_282 : Params → Obj := fun P => Obj.mk (Value.type "function") (none) (Data.func (FuncData.mk (Str.ofString "_law_undone") (Str.ofString "_law_undone") (fPars (stm 20)) (.stmts (fBody (stm 20))) (fScope (stm 20)) (3) ([]) (Value.none) (Value.none) (Value.none) (Value.str (Str.ofString "law_wf0096_01") 2556) (none) (Value.ref 281) (Value.none) (0))) (#[])
noncomputable def o_fin_283 : Params → Obj := fun P => Obj.mk (Value.type "tuple") none (Data.seq #[]) #[]
noncomputable def o_fin_284 : Params → Obj := fun P => Obj.mk Value.none none (Data.fields #[]) #[]
noncomputable def o_fin_285 : Params → Obj := fun P => Obj.mk (Value.none) (none) (Data.func (FuncData.mk (Str.ofString "law") (Str.ofString "law") (fPars (stm 21)) (.stmts (fBody (stm 21))) (fScope (stm 21)) (0) ([]) (Value.none) (Value.none) (Value.none) (Value.none) (none) (Value.none) (Value.none) (0))) (#[])
noncomputable def o_fin_286 : Params → Obj := fun P => Obj.mk (Value.type "code") none (Data.fields #[Value.str (Str.ofString "law") 2598, Value.str (Str.ofString "law") 2599, Value.str (Str.ofString "/claim/cut.py") 2600, Value.int 160 0, Value.int 1 0, Value.int 0 0, Value.int 0 0, Value.int 3 0, Value.ref 283, Value.bool true, Value.int 276 0, Value.ref 284, Value.none, Value.none, Value.none, Value.ref 285, Value.int 2601 0, Value.int 160 0, Value.str (Str.ofString "/claim/cut.py") 2602]) #[]
noncomputable def o_fin_287 : Params → Obj := fun P => Obj.mk (Value.type "function") (none) (Data.func (FuncData.mk (Str.ofString "law") (Str.ofString "law") (fPars (stm 21)) (.stmts (fBody (stm 21))) (fScope (stm 21)) (3) ([]) (Value.none) (Value.none) (Value.none) (Value.str (Str.ofString "law_wf0096_01") 2556) (none) (Value.ref 286) (Value.none) (0))) (#[])
noncomputable def t_fin : Params → BT := fun P => (.node (o_s0_0 P) (.node (o_s0_1 P) (.node (o_fin_3 P) (.node (o_s0_7 P) (.node (o_s0_15 P) (.node (o_block_31 P) (.node (o_p6_63 P) (.node (o_p13_127 P) (.node (o_fin_255 P) .nil .nil) .nil) (.node (o_p13_191 P) .nil .nil)) (.node (o_p8_95 P) (.node (o_p13_159 P) (.node (o_fin_287 P) .nil .nil) .nil) (.node (o_p13_223 P) .nil .nil))) (.node (o_p5_47 P) (.node (o_p8_79 P) (.node (o_p13_143 P) (.node (o_fin_271 P) .nil .nil) .nil) (.node (o_p13_207 P) .nil .nil)) (.node (o_p12_111 P) (.node (o_p13_175 P) .nil .nil) (.node (o_p13_239 P) .nil .nil)))) (.node (o_s0_23 P) (.node (o_p5_39 P) (.node (o_p8_71 P) (.node (o_p13_135 P) (.node (o_fin_263 P) .nil .nil) .nil) (.node (o_p13_199 P) .nil .nil)) (.node (o_p8_103 P) (.node (o_p13_167 P) .nil .nil) (.node (o_p13_231 P) .nil .nil))) (.node (o_p6_55 P) (.node (o_p8_87 P) (.node (o_p13_151 P) (.node (o_fin_279 P) .nil .nil) .nil) (.node (o_p13_215 P) .nil .nil)) (.node (o_p12_119 P) (.node (o_p13_183 P) .nil .nil) (.node (o_p13_247 P) .nil .nil))))) (.node (o_s0_11 P) (.node (o_s0_19 P) (.node (o_p5_35 P) (.node (o_p7_67 P) (.node (o_p13_131 P) (.node (o_fin_259 P) .nil .nil) .nil) (.node (o_p13_195 P) .nil .nil)) (.node (o_p8_99 P) (.node (o_p13_163 P) .nil .nil) (.node (o_p13_227 P) .nil .nil))) (.node (o_p5_51 P) (.node (o_p8_83 P) (.node (o_p13_147 P) (.node (o_fin_275 P) .nil .nil) .nil) (.node (o_p13_211 P) .nil .nil)) (.node (o_p12_115 P) (.node (o_p13_179 P) .nil .nil) (.node (o_p13_243 P) .nil .nil)))) (.node (o_s0_27 P) (.node (o_p5_43 P) (.node (o_p8_75 P) (.node (o_p13_139 P) (.node (o_fin_267 P) .nil .nil) .nil) (.node (o_p13_203 P) .nil .nil)) (.node (o_p8_107 P) (.node (o_p13_171 P) .nil .nil) (.node (o_p13_235 P) .nil .nil))) (.node (o_p6_59 P) (.node (o_p8_91 P) (.node (o_p13_155 P) (.node (o_fin_283 P) .nil .nil) .nil) (.node (o_p13_219 P) .nil .nil)) (.node (o_p12_123 P) (.node (o_p13_187 P) .nil .nil) (.node (o_p13_251 P) .nil .nil)))))) (.node (o_s0_5 P) (.node (o_s0_9 P) (.node (o_s0_17 P) (.node (o_p5_33 P) (.node (o_p7_65 P) (.node (o_p13_129 P) (.node (o_fin_257 P) .nil .nil) .nil) (.node (o_p13_193 P) .nil .nil)) (.node (o_p8_97 P) (.node (o_p13_161 P) .nil .nil) (.node (o_p13_225 P) .nil .nil))) (.node (o_p5_49 P) (.node (o_p8_81 P) (.node (o_p13_145 P) (.node (o_fin_273 P) .nil .nil) .nil) (.node (o_p13_209 P) .nil .nil)) (.node (o_p12_113 P) (.node (o_p13_177 P) .nil .nil) (.node (o_p13_241 P) .nil .nil)))) (.node (o_s0_25 P) (.node (o_p5_41 P) (.node (o_p8_73 P) (.node (o_p13_137 P) (.node (o_fin_265 P) .nil .nil) .nil) (.node (o_p13_201 P) .nil .nil)) (.node (o_p8_105 P) (.node (o_p13_169 P) .nil .nil) (.node (o_p13_233 P) .nil .nil))) (.node (o_p6_57 P) (.node (o_p8_89 P) (.node (o_p13_153 P) (.node (o_fin_281 P) .nil .nil) .nil) (.node (o_p13_217 P) .nil .nil)) (.node (o_p12_121 P) (.node (o_p13_185 P) .nil .nil) (.node (o_p13_249 P) .nil .nil))))) (.node (o_s0_13 P) (.node (o_s0_21 P) (.node (o_p5_37 P) (.node (o_p7_69 P) (.node (o_p13_133 P) (.node (o_fin_261 P) .nil .nil) .nil) (.node (o_p13_197 P) .nil .nil)) (.node (o_p8_101 P) (.node (o_p13_165 P) .nil .nil) (.node (o_p13_229 P) .nil .nil))) (.node (o_p6_53 P) (.node (o_p8_85 P) (.node (o_p13_149 P) (.node (o_fin_277 P) .nil .nil) .nil) (.node (o_p13_213 P) .nil .nil)) (.node (o_p12_117 P) (.node (o_p13_181 P) .nil .nil) (.node (o_p13_245 P) .nil .nil)))) (.node (o_fin_29 P) (.node (o_p5_45 P) (.node (o_p8_77 P) (.node (o_p13_141 P) (.node (o_fin_269 P) .nil .nil) .nil) (.node (o_p13_205 P) .nil .nil)) (.node (o_p8_109 P) (.node (o_p13_173 P) .nil .nil) (.node (o_p13_237 P) .nil .nil))) (.node (o_p6_61 P) (.node (o_p8_93 P) (.node (o_p13_157 P) (.node (o_fin_285 P) .nil .nil) .nil) (.node (o_p13_221 P) .nil .nil)) (.node (o_p12_125 P) (.node (o_p13_189 P) .nil .nil) (.node (o_p13_253 P) .nil .nil))))))) (.node (o_s0_2 P) (.node (o_s0_4 P) (.node (o_s0_8 P) (.node (o_s0_16 P) (.node (o_p5_32 P) (.node (o_p7_64 P) (.node (o_p13_128 P) (.node (o_fin_256 P) .nil .nil) .nil) (.node (o_p13_192 P) .nil .nil)) (.node (o_p8_96 P) (.node (o_p13_160 P) .nil .nil) (.node (o_p13_224 P) .nil .nil))) (.node (o_p5_48 P) (.node (o_p8_80 P) (.node (o_p13_144 P) (.node (o_fin_272 P) .nil .nil) .nil) (.node (o_p13_208 P) .nil .nil)) (.node (o_p12_112 P) (.node (o_p13_176 P) .nil .nil) (.node (o_p13_240 P) .nil .nil)))) (.node (o_s0_24 P) (.node (o_p5_40 P) (.node (o_p8_72 P) (.node (o_p13_136 P) (.node (o_fin_264 P) .nil .nil) .nil) (.node (o_p13_200 P) .nil .nil)) (.node (o_p8_104 P) (.node (o_p13_168 P) .nil .nil) (.node (o_p13_232 P) .nil .nil))) (.node (o_p6_56 P) (.node (o_p8_88 P) (.node (o_p13_152 P) (.node (o_fin_280 P) .nil .nil) .nil) (.node (o_p13_216 P) .nil .nil)) (.node (o_p12_120 P) (.node (o_p13_184 P) .nil .nil) (.node (o_p13_248 P) .nil .nil))))) (.node (o_s0_12 P) (.node (o_s0_20 P) (.node (o_p5_36 P) (.node (o_p7_68 P) (.node (o_p13_132 P) (.node (o_fin_260 P) .nil .nil) .nil) (.node (o_p13_196 P) .nil .nil)) (.node (o_p8_100 P) (.node (o_p13_164 P) .nil .nil) (.node (o_p13_228 P) .nil .nil))) (.node (o_p5_52 P) (.node (o_p8_84 P) (.node (o_p13_148 P) (.node (o_fin_276 P) .nil .nil) .nil) (.node (o_p13_212 P) .nil .nil)) (.node (o_p12_116 P) (.node (o_p13_180 P) .nil .nil) (.node (o_p13_244 P) .nil .nil)))) (.node (o_block_28 P) (.node (o_p5_44 P) (.node (o_p8_76 P) (.node (o_p13_140 P) (.node (o_fin_268 P) .nil .nil) .nil) (.node (o_p13_204 P) .nil .nil)) (.node (o_p8_108 P) (.node (o_p13_172 P) .nil .nil) (.node (o_p13_236 P) .nil .nil))) (.node (o_p6_60 P) (.node (o_p8_92 P) (.node (o_p13_156 P) (.node (o_fin_284 P) .nil .nil) .nil) (.node (o_p13_220 P) .nil .nil)) (.node (o_p12_124 P) (.node (o_p13_188 P) .nil .nil) (.node (o_p13_252 P) .nil .nil)))))) (.node (o_s0_6 P) (.node (o_s0_10 P) (.node (o_s0_18 P) (.node (o_p5_34 P) (.node (o_p7_66 P) (.node (o_p13_130 P) (.node (o_fin_258 P) .nil .nil) .nil) (.node (o_p13_194 P) .nil .nil)) (.node (o_p8_98 P) (.node (o_p13_162 P) .nil .nil) (.node (o_p13_226 P) .nil .nil))) (.node (o_p5_50 P) (.node (o_p8_82 P) (.node (o_p13_146 P) (.node (o_fin_274 P) .nil .nil) .nil) (.node (o_p13_210 P) .nil .nil)) (.node (o_p12_114 P) (.node (o_p13_178 P) .nil .nil) (.node (o_p13_242 P) .nil .nil)))) (.node (o_s0_26 P) (.node (o_p5_42 P) (.node (o_p8_74 P) (.node (o_p13_138 P) (.node (o_fin_266 P) .nil .nil) .nil) (.node (o_p13_202 P) .nil .nil)) (.node (o_p8_106 P) (.node (o_p13_170 P) .nil .nil) (.node (o_p13_234 P) .nil .nil))) (.node (o_p6_58 P) (.node (o_p8_90 P) (.node (o_p13_154 P) (.node (o_fin_282 P) .nil .nil) .nil) (.node (o_p13_218 P) .nil .nil)) (.node (o_p12_122 P) (.node (o_p13_186 P) .nil .nil) (.node (o_p13_250 P) .nil .nil))))) (.node (o_s0_14 P) (.node (o_s0_22 P) (.node (o_p5_38 P) (.node (o_p7_70 P) (.node (o_p13_134 P) (.node (o_fin_262 P) .nil .nil) .nil) (.node (o_p13_198 P) .nil .nil)) (.node (o_p8_102 P) (.node (o_p13_166 P) .nil .nil) (.node (o_p13_230 P) .nil .nil))) (.node (o_p6_54 P) (.node (o_p8_86 P) (.node (o_p13_150 P) (.node (o_fin_278 P) .nil .nil) .nil) (.node (o_p13_214 P) .nil .nil)) (.node (o_p12_118 P) (.node (o_p13_182 P) .nil .nil) (.node (o_p13_246 P) .nil .nil)))) (.node (o_block_30 P) (.node (o_p5_46 P) (.node (o_p8_78 P) (.node (o_p13_142 P) (.node (o_fin_270 P) .nil .nil) .nil) (.node (o_p13_206 P) .nil .nil)) (.node (o_p12_110 P) (.node (o_p13_174 P) .nil .nil) (.node (o_p13_238 P) .nil .nil))) (.node (o_p6_62 P) (.node (o_p8_94 P) (.node (o_p13_158 P) (.node (o_fin_286 P) .nil .nil) .nil) (.node (o_p13_222 P) .nil .nil)) (.node (o_p12_126 P) (.node (o_p13_190 P) .nil .nil) (.node (o_fin_254 P) .nil .nil))))))))
noncomputable def S_fin (w : World) (os : OsState) : SharedT := SharedT.mk (t_fin w.params) 288 (Life.mk [] [] [] 0 [] [] false #[] [] 0 false false false 0 [2000, 10, 10] false 0 true [] [] 0 false) #[] (Drawn.mk 0 0 0 0) 2604 os

noncomputable def H_s0 : Params → Heap := fun P => Heap.mk #[o_s0_0 P, o_s0_1 P, o_s0_2 P, o_s0_3 P, o_s0_4 P, o_s0_5 P, o_s0_6 P, o_s0_7 P, o_s0_8 P, o_s0_9 P, o_s0_10 P, o_s0_11 P, o_s0_12 P, o_s0_13 P, o_s0_14 P, o_s0_15 P, o_s0_16 P, o_s0_17 P, o_s0_18 P, o_s0_19 P, o_s0_20 P, o_s0_21 P, o_s0_22 P, o_s0_23 P, o_s0_24 P, o_s0_25 P, o_s0_26 P, o_s0_27 P] (Life.mk [] [] [] 0 [] [] false #[] [] 0 false false false 0 [2000, 10, 10] false 0 true [] [] 0 false)
noncomputable def H_se : Params → Heap := fun P => Heap.mk #[o_s0_0 P, o_s0_1 P, o_s0_2 P, o_s0_3 P, o_s0_4 P, o_s0_5 P, o_s0_6 P, o_s0_7 P, o_s0_8 P, o_s0_9 P, o_s0_10 P, o_se_11 P, o_s0_12 P, o_s0_13 P, o_s0_14 P, o_s0_15 P, o_s0_16 P, o_s0_17 P, o_s0_18 P, o_s0_19 P, o_s0_20 P, o_s0_21 P, o_s0_22 P, o_s0_23 P, o_s0_24 P, o_s0_25 P, o_s0_26 P, o_s0_27 P] (Life.mk [] [] [] 0 [] [] false #[] [] 0 false false false 0 [2000, 10, 10] false 0 true [] [] 0 false)
noncomputable def H_pre : Params → Heap := fun P => Heap.mk #[o_s0_0 P, o_s0_1 P, o_s0_2 P, o_s0_3 P, o_s0_4 P, o_s0_5 P, o_s0_6 P, o_s0_7 P, o_s0_8 P, o_s0_9 P, o_s0_10 P, o_s0_11 P, o_s0_12 P, o_s0_13 P, o_s0_14 P, o_s0_15 P, o_s0_16 P, o_s0_17 P, o_s0_18 P, o_s0_19 P, o_s0_20 P, o_s0_21 P, o_s0_22 P, o_s0_23 P, o_s0_24 P, o_s0_25 P, o_s0_26 P, o_s0_27 P, o_block_28 P, o_block_29 P, o_block_30 P, o_block_31 P] (Life.mk [] [] [] 0 [] [] false #[] [] 0 false false false 0 [2000, 10, 10] false 0 true [] [] 0 false)
end
end FS
end
section
set_option maxRecDepth 1000000
set_option maxHeartbeats 0
namespace FS
open PySem PySem.Calls PySem.W PyProof.Rows
theorem hA (w : World) : (fun os => segRunT treeTable pw w 28 annT 1 118 (S_block w os) (piecesOf [stm 1, stm 2, stm 3, stm 4, stm 5, stm 6] envT codeT ⟨0,0,0,0⟩ BT_)) = fun os => some (.next, S_p5 w os, codeT, ⟨21,0,21,8⟩) := by
  kernel_rfl
theorem hC (w : World) : (fun os => segRunT treeTable pw w 28 annT 1 30 (S_p6 w os) (piecesOf [stm 8] envT codeT ⟨22,0,22,6⟩ BT_)) = fun os => some (.next, S_p7 w os, codeT, ⟨23,0,24,30⟩) := by
  kernel_rfl
theorem hSize (w : World) : ((H_s0 w.params).isNs mainGlobals && (#[] : Array GenState).size == 0, (H_s0 w.params).objs.size, (H_s0 w.params).nsMap mainGlobals "__annotations__") = (true, 28, annT) := by
  kernel_rfl
theorem hPre (w : World) : (fun os => topGo treeTable pw w 28 annT 12 ⟨H_s0 w.params, #[], ⟨0,0,0,0⟩, 276, os⟩ (topStub pw)) = fun os => some (⟨H_pre w.params, #[], ⟨0,0,0,0⟩, 282, os⟩, ⟨denote treeTable codeT, codeT, ⟨0,0,0,0⟩, BT_⟩) := by
  kernel_rfl
theorem hBlk (w : World) : (fun os => segRun treeTable pw w 28 annT 1 1 ⟨H_pre w.params, #[], ⟨0,0,0,0⟩, 282, os⟩ (blockOf bodyT envT codeT ⟨0,0,0,0⟩ BT_)) = fun os => some (.next, (S_block w os).abs, codeT, ⟨0,0,0,0⟩) := by
  kernel_rfl
theorem hFence (w : World) : (fun os => (fenceModules? pw ⟨H_se w.params, #[], ⟨0,0,0,0⟩, 276, os⟩).map (fun s => (s.heap, s.gens, s.drawn, s.toks))) = fun _ => some (H_s0 w.params, #[], ⟨0,0,0,0⟩, 276) := by
  kernel_rfl
end FS
end
section
set_option maxRecDepth 1000000
set_option maxHeartbeats 0
namespace FS
open PySem PySem.Calls PySem.W PyProof.Rows
noncomputable section
/-- the places of a hash, in one walk -/
noncomputable def linPl (h : Int) (l : List DictEntry) : Nat → List Nat :=
  @List.rec DictEntry (fun _ => Nat → List Nat) (fun _ => []) (fun e _ ih i => @Bool.rec (fun _ => List Nat) (ih (i + 1)) (i :: ih (i + 1)) (decide (e.hash = h))) l
theorem linPl_eq (h : Int) : ∀ (l : List DictEntry) (i : Nat), linPl h l i = ((List.range' i l.length).filter fun j => (l[j - i]?.map (·.hash)) == some h)
  | [], i => rfl
  | e :: l, i => by
    have ih := linPl_eq h l (i + 1)
    have e1 : linPl h (e :: l) i = @Bool.rec (fun _ => List Nat) (linPl h l (i + 1)) (i :: linPl h l (i + 1)) (decide (e.hash = h)) := rfl
    rw [e1, ih, List.length_cons, List.range'_succ, List.filter_cons]
    have e2 : (((e :: l)[i - i]?.map (·.hash)) == some h) = decide (e.hash = h) := by
      simp
      rfl
    rw [e2]
    have e3 : ((List.range' (i + 1) l.length).filter fun j => (l[j - (i + 1)]?.map (·.hash)) == some h) = ((List.range' (i + 1) l.length).filter fun j => ((e :: l)[j - i]?.map (·.hash)) == some h) := by
      apply List.filter_congr
      intro j hj
      have hj' := List.mem_range'_1.mp hj
      have : j - i = (j - (i + 1)) + 1 := by omega
      rw [this, List.getElem?_cons_succ]
    rw [e3]
    cases decide (e.hash = h) <;> rfl
theorem places_lin (es : Array DictEntry) (h : Int) : placesWithHash es.size (fun i => es[i]?.map (·.hash)) h = linPl h es.toList 0 := by
  rw [linPl_eq]
  unfold placesWithHash
  rw [List.range_eq_range']
  apply List.filter_congr
  intro j _
  simp
noncomputable abbrev DItem := Option (Sem Value) × Sem Value
noncomputable abbrev DSt := Option Addr × List (Sem Value × Sem Value)
noncomputable def EqB {α : Type} (a b : α) : Prop := a = b
noncomputable def dispQ : { FG : (DItem → DSt → Sem (ForInStep DSt)) × (DSt → Sem Value) // ∀ items : List DItem, EqB (dictDisplay items) (forIn items ((none, []) : DSt) FG.1 >>= FG.2) } :=
  ⟨(_, _), fun items => by
    delta dictDisplay mergeMapping dictPut dictFind
    simp (config := { zeta := false, zetaDelta := false, iota := false, proj := false, eta := false, etaStruct := .none }) only [places_lin]
    try rw [PySem.W.Fast.te12456147031677567982]
    try rw [PySem.W.Fast.te11913375310210876947]
    try rw [PySem.W.Fast.te17359229931016689406]
    try rw [PySem.W.R.onRaiseR_eq]
    try rw [PySem.W.Fast.te6571733998842723752]
    try rw [PySem.W.Fast.te1156441195427279134]
    try rw [PySem.W.Fast.te8314933798227046258]
    try rw [PySem.W.R.allR_eq]
    try rw [PySem.W.Fast.te17029171927554795714]
    try rw [PySem.W.Fast.te13926502685295537346]
    try rw [PySem.W.Fast.te7966671052430208091]
    try rw [PySem.W.Fast.te11445937954039399578]
    try rw [PySem.W.Fast.te16073574877836486461]
    try rw [PySem.W.Fast.te55756146738185829]
    try rw [PySem.W.Fast.te11826078720135083572]
    try rw [PySem.W.Fast.te2398297429280069960]
    try rw [PySem.W.Fast.te11364817496384490316]
    try rw [PySem.W.Fast.te17609497360097468838]
    try rw [PySem.W.Fast.te4214721358667687652]
    try rw [PySem.W.Fast.te9876569995065107414]
    try rw [PySem.W.Fast.te4926136581373384958]
    try rw [PySem.W.Fast.te11478286150595567475]
    try rw [PySem.W.Fast.te14684505520029207082]
    try rw [PySem.W.Fast.te12194477576918160588]
    try rw [PySem.W.Fast.te7254205825966637223]
    try rw [PySem.W.Fast.te270919826475788053]
    try rw [PySem.W.Fast.te11925912800584824493]
    try rw [PySem.W.Fast.te10540108854288196387]
    try rw [PySem.W.Fast.te15056007747304108558]
    try rw [PySem.W.R.catchR_eq]
    try rw [PySem.W.Fast.te16348484164971924005]
    try rw [PySem.W.Fast.te8349319619548498818]
    try rw [PySem.W.Fast.te4082907035670056827]
    try rw [PySem.W.Fast.te9309626314029892736]
    try rw [PySem.W.Fast.te17215822245053049158]
    try rw [PySem.W.SL.e14018661285674007319x4]
    try rw [PySem.W.SL.e9573561611428980916x13]
    try rw [PySem.W.SL.e1688129525768580628x8]
    try rw [PySem.W.SL.e9825170513990073786x13]
    try rw [PySem.W.SL.e9222952809800978799x4]
    try rw [PySem.W.SL.e8396586369407113907x16]
    try rw [PySem.W.SL.e5095943308957502883x13]
    try rw [PySem.W.SL.e5953569945196450387x12]
    try rw [PySem.W.SL.e9001593270443806431x14]
    try rw [PySem.W.SL.e2804747833354056582x9]
    exact Eq.refl _⟩
theorem st9 : stm 9 = .Assign [.Name "b3_exceptions" ⟨25, 0, 25, 13⟩] (.Dict ks9 vs9 ⟨25, 16, 25, 8704⟩) ⟨25, 0, 25, 8704⟩ := by kernel_rfl
theorem ex9 : exec (stm 9) envT = (do
    standAt ⟨25, 0, 25, 8704⟩
    let v ← eval (.Dict ks9 vs9 ⟨25, 16, 25, 8704⟩) envT
    standAt ⟨25, 0, 25, 13⟩
    bindName envT "b3_exceptions" v
    pure .next) := by
  conv => lhs; rw [st9]
  exact exec_Assign_Name envT _ _ _ _ (by kernel_rfl)
noncomputable def treeB (k : Nat) (P : Params) : BT := (List.range (k - 1)).foldl (fun t j => t.ins (72 + j) (dictO ((ents9.drop (17 * (j + 1))).take 17))) ((t_p7 P).ins 71 (dictO (ents9.take (17 * k))))
noncomputable def S_b (k : Nat) (w : World) (os : OsState) : SharedT := SharedT.mk (treeB k w.params) (71 + k) (Life.mk [] [] [] 0 [] [] false #[] [] 0 false false false 0 [2000, 10, 10] false 0 true [] [] 0 false) #[] ⟨0, 0, 0, 0⟩ (379 + 51 * k) os
noncomputable def items9 : List DItem := (evalEachOpt ks9 envT).zip ((evalEach vs9 envT).map fun v => do let x ← v; standAt ⟨25, 16, 25, 8704⟩; pure x)
noncomputable def after9 : Sem Value → Sem Flow := fun d => do
    let v ← d
    standAt ⟨25, 0, 25, 13⟩
    bindName envT "b3_exceptions" v
    pure .next
noncomputable def wrap9 (t : Sem Flow) (p : Pos) : Thread := ⟨t.wrap (fun f => match f with | .next => (execs [] envT).wrap doneF deadEnd id id | f => doneF f) deadEnd id id, codeT, p, BT_⟩
noncomputable def T_b (k : Nat) : Thread := wrap9 (after9 (forIn (items9.drop (17 * k)) ((some 71, []) : DSt) dispQ.1.1 >>= dispQ.1.2)) ⟨25, 16, 25, 8704⟩
noncomputable def T_0 : Thread := wrap9 (after9 (forIn items9 ((none, []) : DSt) dispQ.1.1 >>= dispQ.1.2)) ⟨25, 16, 25, 8704⟩
noncomputable def T_00 : Thread := wrap9 (do standAt ⟨25, 0, 25, 8704⟩; after9 (do standAt ⟨25, 16, 25, 8704⟩; (forIn items9 ((none, []) : DSt) dispQ.1.1 >>= dispQ.1.2))) ⟨23, 0, 24, 30⟩
end
theorem thr9 : piecesOf [stm 9] envT codeT ⟨23, 0, 24, 30⟩ BT_ = T_00 := by
  unfold piecesOf
  rw [execs_cons_wrap, ex9, arm_eval_Dict, show dictDisplay _ = _ from dispQ.2 _]
  rfl
noncomputable abbrev fl (b : Bool) (w : World) : World := w.withFollow "special-get-raises" b
theorem b3_00 (w : World) : (fun os => segGoT treeTable pw w 28 annT 1 2 (S_p7 w os) T_00) = fun os => some (S_p7 w os, T_0) := by kernel_rfl
theorem b3_0_false (w : World) : (fun os => segGoT treeTable pw (fl false w) 28 annT 1 223 (S_p7 (fl false w) os) T_0) = fun os => some (S_b 1 (fl false w) os, T_b 1) := by
  rw [Fast.te10295753902157049106, Fast.te14364793385576792824]
  kernel_rfl
theorem b3_0_true (w : World) : (fun os => segGoT treeTable pw (fl true w) 28 annT 1 223 (S_p7 (fl true w) os) T_0) = fun os => some (S_b 1 (fl true w) os, T_b 1) := by
  rw [Fast.te10295753902157049106, Fast.te14364793385576792824]
  kernel_rfl
theorem b3_0 (w : World) : (fun os => segGoT treeTable pw w 28 annT 1 223 (S_p7 w os) T_0) = fun os => some (S_b 1 w os, T_b 1) := byRow2 "special-get-raises" (P := fun w => (fun os => segGoT treeTable pw w 28 annT 1 223 (S_p7 w os) T_0) = fun os => some (S_b 1 w os, T_b 1)) b3_0_false b3_0_true w
theorem b3_1_false (w : World) : (fun os => segGoT treeTable pw (fl false w) 28 annT 1 330 (S_b 1 (fl false w) os) (T_b 1)) = fun os => some (S_b 2 (fl false w) os, T_b 2) := by
  rw [Fast.te10295753902157049106, Fast.te14364793385576792824]
  kernel_rfl
theorem b3_1_true (w : World) : (fun os => segGoT treeTable pw (fl true w) 28 annT 1 330 (S_b 1 (fl true w) os) (T_b 1)) = fun os => some (S_b 2 (fl true w) os, T_b 2) := by
  rw [Fast.te10295753902157049106, Fast.te14364793385576792824]
  kernel_rfl
theorem b3_1 (w : World) : (fun os => segGoT treeTable pw w 28 annT 1 330 (S_b 1 w os) (T_b 1)) = fun os => some (S_b 2 w os, T_b 2) := byRow2 "special-get-raises" (P := fun w => (fun os => segGoT treeTable pw w 28 annT 1 330 (S_b 1 w os) (T_b 1)) = fun os => some (S_b 2 w os, T_b 2)) b3_1_false b3_1_true w
theorem b3_2_false (w : World) : (fun os => segGoT treeTable pw (fl false w) 28 annT 1 330 (S_b 2 (fl false w) os) (T_b 2)) = fun os => some (S_b 3 (fl false w) os, T_b 3) := by
  rw [Fast.te10295753902157049106, Fast.te14364793385576792824]
  kernel_rfl
theorem b3_2_true (w : World) : (fun os => segGoT treeTable pw (fl true w) 28 annT 1 330 (S_b 2 (fl true w) os) (T_b 2)) = fun os => some (S_b 3 (fl true w) os, T_b 3) := by
  rw [Fast.te10295753902157049106, Fast.te14364793385576792824]
  kernel_rfl
theorem b3_2 (w : World) : (fun os => segGoT treeTable pw w 28 annT 1 330 (S_b 2 w os) (T_b 2)) = fun os => some (S_b 3 w os, T_b 3) := byRow2 "special-get-raises" (P := fun w => (fun os => segGoT treeTable pw w 28 annT 1 330 (S_b 2 w os) (T_b 2)) = fun os => some (S_b 3 w os, T_b 3)) b3_2_false b3_2_true w
theorem b3_3_false (w : World) : (fun os => segGoT treeTable pw (fl false w) 28 annT 1 330 (S_b 3 (fl false w) os) (T_b 3)) = fun os => some (S_b 4 (fl false w) os, T_b 4) := by
  rw [Fast.te10295753902157049106, Fast.te14364793385576792824]
  kernel_rfl
theorem b3_3_true (w : World) : (fun os => segGoT treeTable pw (fl true w) 28 annT 1 330 (S_b 3 (fl true w) os) (T_b 3)) = fun os => some (S_b 4 (fl true w) os, T_b 4) := by
  rw [Fast.te10295753902157049106, Fast.te14364793385576792824]
  kernel_rfl
theorem b3_3 (w : World) : (fun os => segGoT treeTable pw w 28 annT 1 330 (S_b 3 w os) (T_b 3)) = fun os => some (S_b 4 w os, T_b 4) := byRow2 "special-get-raises" (P := fun w => (fun os => segGoT treeTable pw w 28 annT 1 330 (S_b 3 w os) (T_b 3)) = fun os => some (S_b 4 w os, T_b 4)) b3_3_false b3_3_true w
theorem b3_4_false (w : World) : (fun os => segGoT treeTable pw (fl false w) 28 annT 1 330 (S_b 4 (fl false w) os) (T_b 4)) = fun os => some (S_b 5 (fl false w) os, T_b 5) := by
  rw [Fast.te10295753902157049106, Fast.te14364793385576792824]
  kernel_rfl
theorem b3_4_true (w : World) : (fun os => segGoT treeTable pw (fl true w) 28 annT 1 330 (S_b 4 (fl true w) os) (T_b 4)) = fun os => some (S_b 5 (fl true w) os, T_b 5) := by
  rw [Fast.te10295753902157049106, Fast.te14364793385576792824]
  kernel_rfl
theorem b3_4 (w : World) : (fun os => segGoT treeTable pw w 28 annT 1 330 (S_b 4 w os) (T_b 4)) = fun os => some (S_b 5 w os, T_b 5) := byRow2 "special-get-raises" (P := fun w => (fun os => segGoT treeTable pw w 28 annT 1 330 (S_b 4 w os) (T_b 4)) = fun os => some (S_b 5 w os, T_b 5)) b3_4_false b3_4_true w
theorem b3_5_false (w : World) : (fun os => segGoT treeTable pw (fl false w) 28 annT 1 330 (S_b 5 (fl false w) os) (T_b 5)) = fun os => some (S_b 6 (fl false w) os, T_b 6) := by
  rw [Fast.te10295753902157049106, Fast.te14364793385576792824]
  kernel_rfl
theorem b3_5_true (w : World) : (fun os => segGoT treeTable pw (fl true w) 28 annT 1 330 (S_b 5 (fl true w) os) (T_b 5)) = fun os => some (S_b 6 (fl true w) os, T_b 6) := by
  rw [Fast.te10295753902157049106, Fast.te14364793385576792824]
  kernel_rfl
theorem b3_5 (w : World) : (fun os => segGoT treeTable pw w 28 annT 1 330 (S_b 5 w os) (T_b 5)) = fun os => some (S_b 6 w os, T_b 6) := byRow2 "special-get-raises" (P := fun w => (fun os => segGoT treeTable pw w 28 annT 1 330 (S_b 5 w os) (T_b 5)) = fun os => some (S_b 6 w os, T_b 6)) b3_5_false b3_5_true w
theorem b3_6_false (w : World) : (fun os => segGoT treeTable pw (fl false w) 28 annT 1 330 (S_b 6 (fl false w) os) (T_b 6)) = fun os => some (S_b 7 (fl false w) os, T_b 7) := by
  rw [Fast.te10295753902157049106, Fast.te14364793385576792824]
  kernel_rfl
theorem b3_6_true (w : World) : (fun os => segGoT treeTable pw (fl true w) 28 annT 1 330 (S_b 6 (fl true w) os) (T_b 6)) = fun os => some (S_b 7 (fl true w) os, T_b 7) := by
  rw [Fast.te10295753902157049106, Fast.te14364793385576792824]
  kernel_rfl
theorem b3_6 (w : World) : (fun os => segGoT treeTable pw w 28 annT 1 330 (S_b 6 w os) (T_b 6)) = fun os => some (S_b 7 w os, T_b 7) := byRow2 "special-get-raises" (P := fun w => (fun os => segGoT treeTable pw w 28 annT 1 330 (S_b 6 w os) (T_b 6)) = fun os => some (S_b 7 w os, T_b 7)) b3_6_false b3_6_true w
theorem b3_7_false (w : World) : (fun os => segGoT treeTable pw (fl false w) 28 annT 1 330 (S_b 7 (fl false w) os) (T_b 7)) = fun os => some (S_b 8 (fl false w) os, T_b 8) := by
  rw [Fast.te10295753902157049106, Fast.te14364793385576792824]
  kernel_rfl
theorem b3_7_true (w : World) : (fun os => segGoT treeTable pw (fl true w) 28 annT 1 330 (S_b 7 (fl true w) os) (T_b 7)) = fun os => some (S_b 8 (fl true w) os, T_b 8) := by
  rw [Fast.te10295753902157049106, Fast.te14364793385576792824]
  kernel_rfl
theorem b3_7 (w : World) : (fun os => segGoT treeTable pw w 28 annT 1 330 (S_b 7 w os) (T_b 7)) = fun os => some (S_b 8 w os, T_b 8) := byRow2 "special-get-raises" (P := fun w => (fun os => segGoT treeTable pw w 28 annT 1 330 (S_b 7 w os) (T_b 7)) = fun os => some (S_b 8 w os, T_b 8)) b3_7_false b3_7_true w
theorem b3_8_false (w : World) : (fun os => segGoT treeTable pw (fl false w) 28 annT 1 330 (S_b 8 (fl false w) os) (T_b 8)) = fun os => some (S_b 9 (fl false w) os, T_b 9) := by
  rw [Fast.te10295753902157049106, Fast.te14364793385576792824]
  kernel_rfl
theorem b3_8_true (w : World) : (fun os => segGoT treeTable pw (fl true w) 28 annT 1 330 (S_b 8 (fl true w) os) (T_b 8)) = fun os => some (S_b 9 (fl true w) os, T_b 9) := by
  rw [Fast.te10295753902157049106, Fast.te14364793385576792824]
  kernel_rfl
theorem b3_8 (w : World) : (fun os => segGoT treeTable pw w 28 annT 1 330 (S_b 8 w os) (T_b 8)) = fun os => some (S_b 9 w os, T_b 9) := byRow2 "special-get-raises" (P := fun w => (fun os => segGoT treeTable pw w 28 annT 1 330 (S_b 8 w os) (T_b 8)) = fun os => some (S_b 9 w os, T_b 9)) b3_8_false b3_8_true w
theorem b3_9_false (w : World) : (fun os => segGoT treeTable pw (fl false w) 28 annT 1 330 (S_b 9 (fl false w) os) (T_b 9)) = fun os => some (S_b 10 (fl false w) os, T_b 10) := by
  rw [Fast.te10295753902157049106, Fast.te14364793385576792824]
  kernel_rfl
theorem b3_9_true (w : World) : (fun os => segGoT treeTable pw (fl true w) 28 annT 1 330 (S_b 9 (fl true w) os) (T_b 9)) = fun os => some (S_b 10 (fl true w) os, T_b 10) := by
  rw [Fast.te10295753902157049106, Fast.te14364793385576792824]
  kernel_rfl
theorem b3_9 (w : World) : (fun os => segGoT treeTable pw w 28 annT 1 330 (S_b 9 w os) (T_b 9)) = fun os => some (S_b 10 w os, T_b 10) := byRow2 "special-get-raises" (P := fun w => (fun os => segGoT treeTable pw w 28 annT 1 330 (S_b 9 w os) (T_b 9)) = fun os => some (S_b 10 w os, T_b 10)) b3_9_false b3_9_true w
theorem b3_10_false (w : World) : (fun os => segGoT treeTable pw (fl false w) 28 annT 1 330 (S_b 10 (fl false w) os) (T_b 10)) = fun os => some (S_b 11 (fl false w) os, T_b 11) := by
  rw [Fast.te10295753902157049106, Fast.te14364793385576792824]
  kernel_rfl
theorem b3_10_true (w : World) : (fun os => segGoT treeTable pw (fl true w) 28 annT 1 330 (S_b 10 (fl true w) os) (T_b 10)) = fun os => some (S_b 11 (fl true w) os, T_b 11) := by
  rw [Fast.te10295753902157049106, Fast.te14364793385576792824]
  kernel_rfl
theorem b3_10 (w : World) : (fun os => segGoT treeTable pw w 28 annT 1 330 (S_b 10 w os) (T_b 10)) = fun os => some (S_b 11 w os, T_b 11) := byRow2 "special-get-raises" (P := fun w => (fun os => segGoT treeTable pw w 28 annT 1 330 (S_b 10 w os) (T_b 10)) = fun os => some (S_b 11 w os, T_b 11)) b3_10_false b3_10_true w
theorem b3_11_false (w : World) : (fun os => segGoT treeTable pw (fl false w) 28 annT 1 330 (S_b 11 (fl false w) os) (T_b 11)) = fun os => some (S_b 12 (fl false w) os, T_b 12) := by
  rw [Fast.te10295753902157049106, Fast.te14364793385576792824]
  kernel_rfl
theorem b3_11_true (w : World) : (fun os => segGoT treeTable pw (fl true w) 28 annT 1 330 (S_b 11 (fl true w) os) (T_b 11)) = fun os => some (S_b 12 (fl true w) os, T_b 12) := by
  rw [Fast.te10295753902157049106, Fast.te14364793385576792824]
  kernel_rfl
theorem b3_11 (w : World) : (fun os => segGoT treeTable pw w 28 annT 1 330 (S_b 11 w os) (T_b 11)) = fun os => some (S_b 12 w os, T_b 12) := byRow2 "special-get-raises" (P := fun w => (fun os => segGoT treeTable pw w 28 annT 1 330 (S_b 11 w os) (T_b 11)) = fun os => some (S_b 12 w os, T_b 12)) b3_11_false b3_11_true w
theorem b3_12_false (w : World) : (fun os => segGoT treeTable pw (fl false w) 28 annT 1 330 (S_b 12 (fl false w) os) (T_b 12)) = fun os => some (S_b 13 (fl false w) os, T_b 13) := by
  rw [Fast.te10295753902157049106, Fast.te14364793385576792824]
  kernel_rfl
theorem b3_12_true (w : World) : (fun os => segGoT treeTable pw (fl true w) 28 annT 1 330 (S_b 12 (fl true w) os) (T_b 12)) = fun os => some (S_b 13 (fl true w) os, T_b 13) := by
  rw [Fast.te10295753902157049106, Fast.te14364793385576792824]
  kernel_rfl
theorem b3_12 (w : World) : (fun os => segGoT treeTable pw w 28 annT 1 330 (S_b 12 w os) (T_b 12)) = fun os => some (S_b 13 w os, T_b 13) := byRow2 "special-get-raises" (P := fun w => (fun os => segGoT treeTable pw w 28 annT 1 330 (S_b 12 w os) (T_b 12)) = fun os => some (S_b 13 w os, T_b 13)) b3_12_false b3_12_true w
theorem b3_13_false (w : World) : (fun os => segGoT treeTable pw (fl false w) 28 annT 1 330 (S_b 13 (fl false w) os) (T_b 13)) = fun os => some (S_b 14 (fl false w) os, T_b 14) := by
  rw [Fast.te10295753902157049106, Fast.te14364793385576792824]
  kernel_rfl
theorem b3_13_true (w : World) : (fun os => segGoT treeTable pw (fl true w) 28 annT 1 330 (S_b 13 (fl true w) os) (T_b 13)) = fun os => some (S_b 14 (fl true w) os, T_b 14) := by
  rw [Fast.te10295753902157049106, Fast.te14364793385576792824]
  kernel_rfl
theorem b3_13 (w : World) : (fun os => segGoT treeTable pw w 28 annT 1 330 (S_b 13 w os) (T_b 13)) = fun os => some (S_b 14 w os, T_b 14) := byRow2 "special-get-raises" (P := fun w => (fun os => segGoT treeTable pw w 28 annT 1 330 (S_b 13 w os) (T_b 13)) = fun os => some (S_b 14 w os, T_b 14)) b3_13_false b3_13_true w
theorem b3_14_false (w : World) : (fun os => segGoT treeTable pw (fl false w) 28 annT 1 330 (S_b 14 (fl false w) os) (T_b 14)) = fun os => some (S_b 15 (fl false w) os, T_b 15) := by
  rw [Fast.te10295753902157049106, Fast.te14364793385576792824]
  kernel_rfl
theorem b3_14_true (w : World) : (fun os => segGoT treeTable pw (fl true w) 28 annT 1 330 (S_b 14 (fl true w) os) (T_b 14)) = fun os => some (S_b 15 (fl true w) os, T_b 15) := by
  rw [Fast.te10295753902157049106, Fast.te14364793385576792824]
  kernel_rfl
theorem b3_14 (w : World) : (fun os => segGoT treeTable pw w 28 annT 1 330 (S_b 14 w os) (T_b 14)) = fun os => some (S_b 15 w os, T_b 15) := byRow2 "special-get-raises" (P := fun w => (fun os => segGoT treeTable pw w 28 annT 1 330 (S_b 14 w os) (T_b 14)) = fun os => some (S_b 15 w os, T_b 15)) b3_14_false b3_14_true w
theorem b3_15_false (w : World) : (fun os => segGoT treeTable pw (fl false w) 28 annT 1 330 (S_b 15 (fl false w) os) (T_b 15)) = fun os => some (S_b 16 (fl false w) os, T_b 16) := by
  rw [Fast.te10295753902157049106, Fast.te14364793385576792824]
  kernel_rfl
theorem b3_15_true (w : World) : (fun os => segGoT treeTable pw (fl true w) 28 annT 1 330 (S_b 15 (fl true w) os) (T_b 15)) = fun os => some (S_b 16 (fl true w) os, T_b 16) := by
  rw [Fast.te10295753902157049106, Fast.te14364793385576792824]
  kernel_rfl
theorem b3_15 (w : World) : (fun os => segGoT treeTable pw w 28 annT 1 330 (S_b 15 w os) (T_b 15)) = fun os => some (S_b 16 w os, T_b 16) := byRow2 "special-get-raises" (P := fun w => (fun os => segGoT treeTable pw w 28 annT 1 330 (S_b 15 w os) (T_b 15)) = fun os => some (S_b 16 w os, T_b 16)) b3_15_false b3_15_true w
theorem b3_16_false (w : World) : (fun os => segGoT treeTable pw (fl false w) 28 annT 1 330 (S_b 16 (fl false w) os) (T_b 16)) = fun os => some (S_b 17 (fl false w) os, T_b 17) := by
  rw [Fast.te10295753902157049106, Fast.te14364793385576792824]
  kernel_rfl
theorem b3_16_true (w : World) : (fun os => segGoT treeTable pw (fl true w) 28 annT 1 330 (S_b 16 (fl true w) os) (T_b 16)) = fun os => some (S_b 17 (fl true w) os, T_b 17) := by
  rw [Fast.te10295753902157049106, Fast.te14364793385576792824]
  kernel_rfl
theorem b3_16 (w : World) : (fun os => segGoT treeTable pw w 28 annT 1 330 (S_b 16 w os) (T_b 16)) = fun os => some (S_b 17 w os, T_b 17) := byRow2 "special-get-raises" (P := fun w => (fun os => segGoT treeTable pw w 28 annT 1 330 (S_b 16 w os) (T_b 16)) = fun os => some (S_b 17 w os, T_b 17)) b3_16_false b3_16_true w
theorem b3_17_false (w : World) : (fun os => segGoT treeTable pw (fl false w) 28 annT 1 330 (S_b 17 (fl false w) os) (T_b 17)) = fun os => some (S_b 18 (fl false w) os, T_b 18) := by
  rw [Fast.te10295753902157049106, Fast.te14364793385576792824]
  kernel_rfl
theorem b3_17_true (w : World) : (fun os => segGoT treeTable pw (fl true w) 28 annT 1 330 (S_b 17 (fl true w) os) (T_b 17)) = fun os => some (S_b 18 (fl true w) os, T_b 18) := by
  rw [Fast.te10295753902157049106, Fast.te14364793385576792824]
  kernel_rfl
theorem b3_17 (w : World) : (fun os => segGoT treeTable pw w 28 annT 1 330 (S_b 17 w os) (T_b 17)) = fun os => some (S_b 18 w os, T_b 18) := byRow2 "special-get-raises" (P := fun w => (fun os => segGoT treeTable pw w 28 annT 1 330 (S_b 17 w os) (T_b 17)) = fun os => some (S_b 18 w os, T_b 18)) b3_17_false b3_17_true w
theorem b3_18_false (w : World) : (fun os => segGoT treeTable pw (fl false w) 28 annT 1 330 (S_b 18 (fl false w) os) (T_b 18)) = fun os => some (S_b 19 (fl false w) os, T_b 19) := by
  rw [Fast.te10295753902157049106, Fast.te14364793385576792824]
  kernel_rfl
theorem b3_18_true (w : World) : (fun os => segGoT treeTable pw (fl true w) 28 annT 1 330 (S_b 18 (fl true w) os) (T_b 18)) = fun os => some (S_b 19 (fl true w) os, T_b 19) := by
  rw [Fast.te10295753902157049106, Fast.te14364793385576792824]
  kernel_rfl
theorem b3_18 (w : World) : (fun os => segGoT treeTable pw w 28 annT 1 330 (S_b 18 w os) (T_b 18)) = fun os => some (S_b 19 w os, T_b 19) := byRow2 "special-get-raises" (P := fun w => (fun os => segGoT treeTable pw w 28 annT 1 330 (S_b 18 w os) (T_b 18)) = fun os => some (S_b 19 w os, T_b 19)) b3_18_false b3_18_true w
theorem b3_19_false (w : World) : (fun os => segGoT treeTable pw (fl false w) 28 annT 1 330 (S_b 19 (fl false w) os) (T_b 19)) = fun os => some (S_b 20 (fl false w) os, T_b 20) := by
  rw [Fast.te10295753902157049106, Fast.te14364793385576792824]
  kernel_rfl
theorem b3_19_true (w : World) : (fun os => segGoT treeTable pw (fl true w) 28 annT 1 330 (S_b 19 (fl true w) os) (T_b 19)) = fun os => some (S_b 20 (fl true w) os, T_b 20) := by
  rw [Fast.te10295753902157049106, Fast.te14364793385576792824]
  kernel_rfl
theorem b3_19 (w : World) : (fun os => segGoT treeTable pw w 28 annT 1 330 (S_b 19 w os) (T_b 19)) = fun os => some (S_b 20 w os, T_b 20) := byRow2 "special-get-raises" (P := fun w => (fun os => segGoT treeTable pw w 28 annT 1 330 (S_b 19 w os) (T_b 19)) = fun os => some (S_b 20 w os, T_b 20)) b3_19_false b3_19_true w
theorem b3_20_false (w : World) : (fun os => segGoT treeTable pw (fl false w) 28 annT 1 330 (S_b 20 (fl false w) os) (T_b 20)) = fun os => some (S_b 21 (fl false w) os, T_b 21) := by
  rw [Fast.te10295753902157049106, Fast.te14364793385576792824]
  kernel_rfl
theorem b3_20_true (w : World) : (fun os => segGoT treeTable pw (fl true w) 28 annT 1 330 (S_b 20 (fl true w) os) (T_b 20)) = fun os => some (S_b 21 (fl true w) os, T_b 21) := by
  rw [Fast.te10295753902157049106, Fast.te14364793385576792824]
  kernel_rfl
theorem b3_20 (w : World) : (fun os => segGoT treeTable pw w 28 annT 1 330 (S_b 20 w os) (T_b 20)) = fun os => some (S_b 21 w os, T_b 21) := byRow2 "special-get-raises" (P := fun w => (fun os => segGoT treeTable pw w 28 annT 1 330 (S_b 20 w os) (T_b 20)) = fun os => some (S_b 21 w os, T_b 21)) b3_20_false b3_20_true w
theorem b3_21_false (w : World) : (fun os => segGoT treeTable pw (fl false w) 28 annT 1 330 (S_b 21 (fl false w) os) (T_b 21)) = fun os => some (S_b 22 (fl false w) os, T_b 22) := by
  rw [Fast.te10295753902157049106, Fast.te14364793385576792824]
  kernel_rfl
theorem b3_21_true (w : World) : (fun os => segGoT treeTable pw (fl true w) 28 annT 1 330 (S_b 21 (fl true w) os) (T_b 21)) = fun os => some (S_b 22 (fl true w) os, T_b 22) := by
  rw [Fast.te10295753902157049106, Fast.te14364793385576792824]
  kernel_rfl
theorem b3_21 (w : World) : (fun os => segGoT treeTable pw w 28 annT 1 330 (S_b 21 w os) (T_b 21)) = fun os => some (S_b 22 w os, T_b 22) := byRow2 "special-get-raises" (P := fun w => (fun os => segGoT treeTable pw w 28 annT 1 330 (S_b 21 w os) (T_b 21)) = fun os => some (S_b 22 w os, T_b 22)) b3_21_false b3_21_true w
theorem b3_22_false (w : World) : (fun os => segGoT treeTable pw (fl false w) 28 annT 1 330 (S_b 22 (fl false w) os) (T_b 22)) = fun os => some (S_b 23 (fl false w) os, T_b 23) := by
  rw [Fast.te10295753902157049106, Fast.te14364793385576792824]
  kernel_rfl
theorem b3_22_true (w : World) : (fun os => segGoT treeTable pw (fl true w) 28 annT 1 330 (S_b 22 (fl true w) os) (T_b 22)) = fun os => some (S_b 23 (fl true w) os, T_b 23) := by
  rw [Fast.te10295753902157049106, Fast.te14364793385576792824]
  kernel_rfl
theorem b3_22 (w : World) : (fun os => segGoT treeTable pw w 28 annT 1 330 (S_b 22 w os) (T_b 22)) = fun os => some (S_b 23 w os, T_b 23) := byRow2 "special-get-raises" (P := fun w => (fun os => segGoT treeTable pw w 28 annT 1 330 (S_b 22 w os) (T_b 22)) = fun os => some (S_b 23 w os, T_b 23)) b3_22_false b3_22_true w
theorem b3_23_false (w : World) : (fun os => segGoT treeTable pw (fl false w) 28 annT 1 330 (S_b 23 (fl false w) os) (T_b 23)) = fun os => some (S_b 24 (fl false w) os, T_b 24) := by
  rw [Fast.te10295753902157049106, Fast.te14364793385576792824]
  kernel_rfl
theorem b3_23_true (w : World) : (fun os => segGoT treeTable pw (fl true w) 28 annT 1 330 (S_b 23 (fl true w) os) (T_b 23)) = fun os => some (S_b 24 (fl true w) os, T_b 24) := by
  rw [Fast.te10295753902157049106, Fast.te14364793385576792824]
  kernel_rfl
theorem b3_23 (w : World) : (fun os => segGoT treeTable pw w 28 annT 1 330 (S_b 23 w os) (T_b 23)) = fun os => some (S_b 24 w os, T_b 24) := byRow2 "special-get-raises" (P := fun w => (fun os => segGoT treeTable pw w 28 annT 1 330 (S_b 23 w os) (T_b 23)) = fun os => some (S_b 24 w os, T_b 24)) b3_23_false b3_23_true w
theorem b3_24_false (w : World) : (fun os => segGoT treeTable pw (fl false w) 28 annT 1 330 (S_b 24 (fl false w) os) (T_b 24)) = fun os => some (S_b 25 (fl false w) os, T_b 25) := by
  rw [Fast.te10295753902157049106, Fast.te14364793385576792824]
  kernel_rfl
theorem b3_24_true (w : World) : (fun os => segGoT treeTable pw (fl true w) 28 annT 1 330 (S_b 24 (fl true w) os) (T_b 24)) = fun os => some (S_b 25 (fl true w) os, T_b 25) := by
  rw [Fast.te10295753902157049106, Fast.te14364793385576792824]
  kernel_rfl
theorem b3_24 (w : World) : (fun os => segGoT treeTable pw w 28 annT 1 330 (S_b 24 w os) (T_b 24)) = fun os => some (S_b 25 w os, T_b 25) := byRow2 "special-get-raises" (P := fun w => (fun os => segGoT treeTable pw w 28 annT 1 330 (S_b 24 w os) (T_b 24)) = fun os => some (S_b 25 w os, T_b 25)) b3_24_false b3_24_true w
theorem b3_25_false (w : World) : (fun os => segGoT treeTable pw (fl false w) 28 annT 1 330 (S_b 25 (fl false w) os) (T_b 25)) = fun os => some (S_b 26 (fl false w) os, T_b 26) := by
  rw [Fast.te10295753902157049106, Fast.te14364793385576792824]
  kernel_rfl
theorem b3_25_true (w : World) : (fun os => segGoT treeTable pw (fl true w) 28 annT 1 330 (S_b 25 (fl true w) os) (T_b 25)) = fun os => some (S_b 26 (fl true w) os, T_b 26) := by
  rw [Fast.te10295753902157049106, Fast.te14364793385576792824]
  kernel_rfl
theorem b3_25 (w : World) : (fun os => segGoT treeTable pw w 28 annT 1 330 (S_b 25 w os) (T_b 25)) = fun os => some (S_b 26 w os, T_b 26) := byRow2 "special-get-raises" (P := fun w => (fun os => segGoT treeTable pw w 28 annT 1 330 (S_b 25 w os) (T_b 25)) = fun os => some (S_b 26 w os, T_b 26)) b3_25_false b3_25_true w
theorem b3_26_false (w : World) : (fun os => segGoT treeTable pw (fl false w) 28 annT 1 330 (S_b 26 (fl false w) os) (T_b 26)) = fun os => some (S_b 27 (fl false w) os, T_b 27) := by
  rw [Fast.te10295753902157049106, Fast.te14364793385576792824]
  kernel_rfl
theorem b3_26_true (w : World) : (fun os => segGoT treeTable pw (fl true w) 28 annT 1 330 (S_b 26 (fl true w) os) (T_b 26)) = fun os => some (S_b 27 (fl true w) os, T_b 27) := by
  rw [Fast.te10295753902157049106, Fast.te14364793385576792824]
  kernel_rfl
theorem b3_26 (w : World) : (fun os => segGoT treeTable pw w 28 annT 1 330 (S_b 26 w os) (T_b 26)) = fun os => some (S_b 27 w os, T_b 27) := byRow2 "special-get-raises" (P := fun w => (fun os => segGoT treeTable pw w 28 annT 1 330 (S_b 26 w os) (T_b 26)) = fun os => some (S_b 27 w os, T_b 27)) b3_26_false b3_26_true w
theorem b3_27_false (w : World) : (fun os => segGoT treeTable pw (fl false w) 28 annT 1 330 (S_b 27 (fl false w) os) (T_b 27)) = fun os => some (S_b 28 (fl false w) os, T_b 28) := by
  rw [Fast.te10295753902157049106, Fast.te14364793385576792824]
  kernel_rfl
theorem b3_27_true (w : World) : (fun os => segGoT treeTable pw (fl true w) 28 annT 1 330 (S_b 27 (fl true w) os) (T_b 27)) = fun os => some (S_b 28 (fl true w) os, T_b 28) := by
  rw [Fast.te10295753902157049106, Fast.te14364793385576792824]
  kernel_rfl
theorem b3_27 (w : World) : (fun os => segGoT treeTable pw w 28 annT 1 330 (S_b 27 w os) (T_b 27)) = fun os => some (S_b 28 w os, T_b 28) := byRow2 "special-get-raises" (P := fun w => (fun os => segGoT treeTable pw w 28 annT 1 330 (S_b 27 w os) (T_b 27)) = fun os => some (S_b 28 w os, T_b 28)) b3_27_false b3_27_true w
theorem b3_28_false (w : World) : (fun os => segGoT treeTable pw (fl false w) 28 annT 1 330 (S_b 28 (fl false w) os) (T_b 28)) = fun os => some (S_b 29 (fl false w) os, T_b 29) := by
  rw [Fast.te10295753902157049106, Fast.te14364793385576792824]
  kernel_rfl
theorem b3_28_true (w : World) : (fun os => segGoT treeTable pw (fl true w) 28 annT 1 330 (S_b 28 (fl true w) os) (T_b 28)) = fun os => some (S_b 29 (fl true w) os, T_b 29) := by
  rw [Fast.te10295753902157049106, Fast.te14364793385576792824]
  kernel_rfl
theorem b3_28 (w : World) : (fun os => segGoT treeTable pw w 28 annT 1 330 (S_b 28 w os) (T_b 28)) = fun os => some (S_b 29 w os, T_b 29) := byRow2 "special-get-raises" (P := fun w => (fun os => segGoT treeTable pw w 28 annT 1 330 (S_b 28 w os) (T_b 28)) = fun os => some (S_b 29 w os, T_b 29)) b3_28_false b3_28_true w
theorem b3_29_false (w : World) : (fun os => segGoT treeTable pw (fl false w) 28 annT 1 330 (S_b 29 (fl false w) os) (T_b 29)) = fun os => some (S_b 30 (fl false w) os, T_b 30) := by
  rw [Fast.te10295753902157049106, Fast.te14364793385576792824]
  kernel_rfl
theorem b3_29_true (w : World) : (fun os => segGoT treeTable pw (fl true w) 28 annT 1 330 (S_b 29 (fl true w) os) (T_b 29)) = fun os => some (S_b 30 (fl true w) os, T_b 30) := by
  rw [Fast.te10295753902157049106, Fast.te14364793385576792824]
  kernel_rfl
theorem b3_29 (w : World) : (fun os => segGoT treeTable pw w 28 annT 1 330 (S_b 29 w os) (T_b 29)) = fun os => some (S_b 30 w os, T_b 30) := byRow2 "special-get-raises" (P := fun w => (fun os => segGoT treeTable pw w 28 annT 1 330 (S_b 29 w os) (T_b 29)) = fun os => some (S_b 30 w os, T_b 30)) b3_29_false b3_29_true w
theorem b3_30_false (w : World) : (fun os => segGoT treeTable pw (fl false w) 28 annT 1 330 (S_b 30 (fl false w) os) (T_b 30)) = fun os => some (S_b 31 (fl false w) os, T_b 31) := by
  rw [Fast.te10295753902157049106, Fast.te14364793385576792824]
  kernel_rfl
theorem b3_30_true (w : World) : (fun os => segGoT treeTable pw (fl true w) 28 annT 1 330 (S_b 30 (fl true w) os) (T_b 30)) = fun os => some (S_b 31 (fl true w) os, T_b 31) := by
  rw [Fast.te10295753902157049106, Fast.te14364793385576792824]
  kernel_rfl
theorem b3_30 (w : World) : (fun os => segGoT treeTable pw w 28 annT 1 330 (S_b 30 w os) (T_b 30)) = fun os => some (S_b 31 w os, T_b 31) := byRow2 "special-get-raises" (P := fun w => (fun os => segGoT treeTable pw w 28 annT 1 330 (S_b 30 w os) (T_b 30)) = fun os => some (S_b 31 w os, T_b 31)) b3_30_false b3_30_true w
theorem b3_31_false (w : World) : (fun os => segGoT treeTable pw (fl false w) 28 annT 1 330 (S_b 31 (fl false w) os) (T_b 31)) = fun os => some (S_b 32 (fl false w) os, T_b 32) := by
  rw [Fast.te10295753902157049106, Fast.te14364793385576792824]
  kernel_rfl
theorem b3_31_true (w : World) : (fun os => segGoT treeTable pw (fl true w) 28 annT 1 330 (S_b 31 (fl true w) os) (T_b 31)) = fun os => some (S_b 32 (fl true w) os, T_b 32) := by
  rw [Fast.te10295753902157049106, Fast.te14364793385576792824]
  kernel_rfl
theorem b3_31 (w : World) : (fun os => segGoT treeTable pw w 28 annT 1 330 (S_b 31 w os) (T_b 31)) = fun os => some (S_b 32 w os, T_b 32) := byRow2 "special-get-raises" (P := fun w => (fun os => segGoT treeTable pw w 28 annT 1 330 (S_b 31 w os) (T_b 31)) = fun os => some (S_b 32 w os, T_b 32)) b3_31_false b3_31_true w
theorem b3_32_false (w : World) : (fun os => segGoT treeTable pw (fl false w) 28 annT 1 330 (S_b 32 (fl false w) os) (T_b 32)) = fun os => some (S_b 33 (fl false w) os, T_b 33) := by
  rw [Fast.te10295753902157049106, Fast.te14364793385576792824]
  kernel_rfl
theorem b3_32_true (w : World) : (fun os => segGoT treeTable pw (fl true w) 28 annT 1 330 (S_b 32 (fl true w) os) (T_b 32)) = fun os => some (S_b 33 (fl true w) os, T_b 33) := by
  rw [Fast.te10295753902157049106, Fast.te14364793385576792824]
  kernel_rfl
theorem b3_32 (w : World) : (fun os => segGoT treeTable pw w 28 annT 1 330 (S_b 32 w os) (T_b 32)) = fun os => some (S_b 33 w os, T_b 33) := byRow2 "special-get-raises" (P := fun w => (fun os => segGoT treeTable pw w 28 annT 1 330 (S_b 32 w os) (T_b 32)) = fun os => some (S_b 33 w os, T_b 33)) b3_32_false b3_32_true w
theorem b3_33_false (w : World) : (fun os => segGoT treeTable pw (fl false w) 28 annT 1 330 (S_b 33 (fl false w) os) (T_b 33)) = fun os => some (S_b 34 (fl false w) os, T_b 34) := by
  rw [Fast.te10295753902157049106, Fast.te14364793385576792824]
  kernel_rfl
theorem b3_33_true (w : World) : (fun os => segGoT treeTable pw (fl true w) 28 annT 1 330 (S_b 33 (fl true w) os) (T_b 33)) = fun os => some (S_b 34 (fl true w) os, T_b 34) := by
  rw [Fast.te10295753902157049106, Fast.te14364793385576792824]
  kernel_rfl
theorem b3_33 (w : World) : (fun os => segGoT treeTable pw w 28 annT 1 330 (S_b 33 w os) (T_b 33)) = fun os => some (S_b 34 w os, T_b 34) := byRow2 "special-get-raises" (P := fun w => (fun os => segGoT treeTable pw w 28 annT 1 330 (S_b 33 w os) (T_b 33)) = fun os => some (S_b 34 w os, T_b 34)) b3_33_false b3_33_true w
theorem b3_34_false (w : World) : (fun os => segGoT treeTable pw (fl false w) 28 annT 1 330 (S_b 34 (fl false w) os) (T_b 34)) = fun os => some (S_b 35 (fl false w) os, T_b 35) := by
  rw [Fast.te10295753902157049106, Fast.te14364793385576792824]
  kernel_rfl
theorem b3_34_true (w : World) : (fun os => segGoT treeTable pw (fl true w) 28 annT 1 330 (S_b 34 (fl true w) os) (T_b 34)) = fun os => some (S_b 35 (fl true w) os, T_b 35) := by
  rw [Fast.te10295753902157049106, Fast.te14364793385576792824]
  kernel_rfl
theorem b3_34 (w : World) : (fun os => segGoT treeTable pw w 28 annT 1 330 (S_b 34 w os) (T_b 34)) = fun os => some (S_b 35 w os, T_b 35) := byRow2 "special-get-raises" (P := fun w => (fun os => segGoT treeTable pw w 28 annT 1 330 (S_b 34 w os) (T_b 34)) = fun os => some (S_b 35 w os, T_b 35)) b3_34_false b3_34_true w
theorem b3_35_false (w : World) : (fun os => segGoT treeTable pw (fl false w) 28 annT 1 330 (S_b 35 (fl false w) os) (T_b 35)) = fun os => some (S_b 36 (fl false w) os, T_b 36) := by
  rw [Fast.te10295753902157049106, Fast.te14364793385576792824]
  kernel_rfl
theorem b3_35_true (w : World) : (fun os => segGoT treeTable pw (fl true w) 28 annT 1 330 (S_b 35 (fl true w) os) (T_b 35)) = fun os => some (S_b 36 (fl true w) os, T_b 36) := by
  rw [Fast.te10295753902157049106, Fast.te14364793385576792824]
  kernel_rfl
theorem b3_35 (w : World) : (fun os => segGoT treeTable pw w 28 annT 1 330 (S_b 35 w os) (T_b 35)) = fun os => some (S_b 36 w os, T_b 36) := byRow2 "special-get-raises" (P := fun w => (fun os => segGoT treeTable pw w 28 annT 1 330 (S_b 35 w os) (T_b 35)) = fun os => some (S_b 36 w os, T_b 36)) b3_35_false b3_35_true w
theorem b3_36_false (w : World) : (fun os => segGoT treeTable pw (fl false w) 28 annT 1 330 (S_b 36 (fl false w) os) (T_b 36)) = fun os => some (S_b 37 (fl false w) os, T_b 37) := by
  rw [Fast.te10295753902157049106, Fast.te14364793385576792824]
  kernel_rfl
theorem b3_36_true (w : World) : (fun os => segGoT treeTable pw (fl true w) 28 annT 1 330 (S_b 36 (fl true w) os) (T_b 36)) = fun os => some (S_b 37 (fl true w) os, T_b 37) := by
  rw [Fast.te10295753902157049106, Fast.te14364793385576792824]
  kernel_rfl
theorem b3_36 (w : World) : (fun os => segGoT treeTable pw w 28 annT 1 330 (S_b 36 w os) (T_b 36)) = fun os => some (S_b 37 w os, T_b 37) := byRow2 "special-get-raises" (P := fun w => (fun os => segGoT treeTable pw w 28 annT 1 330 (S_b 36 w os) (T_b 36)) = fun os => some (S_b 37 w os, T_b 37)) b3_36_false b3_36_true w
theorem b3_37_false (w : World) : (fun os => segGoT treeTable pw (fl false w) 28 annT 1 330 (S_b 37 (fl false w) os) (T_b 37)) = fun os => some (S_b 38 (fl false w) os, T_b 38) := by
  rw [Fast.te10295753902157049106, Fast.te14364793385576792824]
  kernel_rfl
theorem b3_37_true (w : World) : (fun os => segGoT treeTable pw (fl true w) 28 annT 1 330 (S_b 37 (fl true w) os) (T_b 37)) = fun os => some (S_b 38 (fl true w) os, T_b 38) := by
  rw [Fast.te10295753902157049106, Fast.te14364793385576792824]
  kernel_rfl
theorem b3_37 (w : World) : (fun os => segGoT treeTable pw w 28 annT 1 330 (S_b 37 w os) (T_b 37)) = fun os => some (S_b 38 w os, T_b 38) := byRow2 "special-get-raises" (P := fun w => (fun os => segGoT treeTable pw w 28 annT 1 330 (S_b 37 w os) (T_b 37)) = fun os => some (S_b 38 w os, T_b 38)) b3_37_false b3_37_true w
theorem b3_38_false (w : World) : (fun os => segRunT treeTable pw (fl false w) 28 annT 1 90 (S_b 38 (fl false w) os) (T_b 38)) = fun os => some (.next, S_p8 (fl false w) os, codeT, ⟨25, 0, 25, 13⟩) := by
  rw [Fast.te10110043849684766642, Fast.te14364793385576792824]
  kernel_rfl
theorem b3_38_true (w : World) : (fun os => segRunT treeTable pw (fl true w) 28 annT 1 90 (S_b 38 (fl true w) os) (T_b 38)) = fun os => some (.next, S_p8 (fl true w) os, codeT, ⟨25, 0, 25, 13⟩) := by
  rw [Fast.te10110043849684766642, Fast.te14364793385576792824]
  kernel_rfl
theorem b3_38 (w : World) : (fun os => segRunT treeTable pw w 28 annT 1 90 (S_b 38 w os) (T_b 38)) = fun os => some (.next, S_p8 w os, codeT, ⟨25, 0, 25, 13⟩) := byRow2 "special-get-raises" (P := fun w => (fun os => segRunT treeTable pw w 28 annT 1 90 (S_b 38 w os) (T_b 38)) = fun os => some (.next, S_p8 w os, codeT, ⟨25, 0, 25, 13⟩)) b3_38_false b3_38_true w
end FS
end
section
set_option maxRecDepth 1000000
set_option maxHeartbeats 0
namespace FS
open PySem PySem.Calls PySem.W PyProof.Rows
theorem hOpen (w : World) : importEnds treeTable (opening pw) w 900 (start (opening pw)).1 (start (opening pw)).2 = some ⟨H_se w.params, #[], ⟨0,0,0,0⟩, 276, (start (opening pw)).1.os⟩ := by
  rw [Fast.te10274390034422433532, Fast.te14364793385576792824]
  kernel_rfl
end FS
end
section
set_option maxRecDepth 1000000
set_option maxHeartbeats 0
namespace FS
open PySem PySem.Calls PySem.W PyProof.Rows
theorem hE1 (w : World) : (fun os => segRunT treeTable pw w 28 annT 1 186 (S_p8 w os) (piecesOf [stm 10, stm 11, stm 12, stm 13] envT codeT ⟨25,0,25,13⟩ BT_)) = fun os => some (.next, S_p12 w os, codeT, ⟨33,0,33,20⟩) := by
  rw [Fast.te10110043849684766642, Fast.te14364793385576792824]
  kernel_rfl
theorem hE2 (w : World) : (fun os => segRunT treeTable pw w 28 annT 1 728 (S_p12 w os) (piecesOf [stm 14] envT codeT ⟨33,0,33,20⟩ BT_)) = fun os => some (.next, S_p13 w os, codeT, ⟨34,0,103,16⟩) := by
  rw [Fast.te10110043849684766642, Fast.te14364793385576792824]
  kernel_rfl
theorem hE3 (w : World) : (fun os => segRunT treeTable pw w 28 annT 1 180 (S_p13 w os) (piecesOf [stm 15, stm 16, stm 17, stm 18, stm 19, stm 20, stm 21] envT codeT ⟨34,0,103,16⟩ BT_)) = fun os => some (.next, S_fin w os, codeT, ⟨160,0,178,89⟩) := by
  kernel_rfl
theorem hFin (w : World) : (fun os => topRun treeTable pw w 28 annT 2 (S_fin w os).abs ⟨doneF .next, codeT, ⟨160,0,178,89⟩, BT_⟩) = fun os => some (S_fin w os).abs := by
  kernel_rfl
end FS
end
section
set_option maxRecDepth 1000000
set_option maxHeartbeats 0
namespace FS
open PySem PySem.Calls PySem.W PyProof.Rows
theorem b1_ff (w : World) : (fun os => segRunT treeTable pw ((w.withFollow "special-get-raises" false).withFollow "set-order" false) 28 annT 1 1300 (S_p5 ((w.withFollow "special-get-raises" false).withFollow "set-order" false) os) (piecesOf [stm 7] envT codeT ⟨21,0,21,8⟩ BT_)) = fun os => some (.next, S_p6 ((w.withFollow "special-get-raises" false).withFollow "set-order" false) os, codeT, ⟨22,0,22,6⟩) := by
  rw [Fast.te10110043849684766642, Fast.te14364793385576792824]
  kernel_rfl
theorem b1_ft (w : World) : (fun os => segRunT treeTable pw ((w.withFollow "special-get-raises" false).withFollow "set-order" true) 28 annT 1 1300 (S_p5 ((w.withFollow "special-get-raises" false).withFollow "set-order" true) os) (piecesOf [stm 7] envT codeT ⟨21,0,21,8⟩ BT_)) = fun os => some (.next, S_p6 ((w.withFollow "special-get-raises" false).withFollow "set-order" true) os, codeT, ⟨22,0,22,6⟩) := by
  rw [Fast.te10110043849684766642, Fast.te14364793385576792824]
  kernel_rfl
theorem b1_tf (w : World) : (fun os => segRunT treeTable pw ((w.withFollow "special-get-raises" true).withFollow "set-order" false) 28 annT 1 1300 (S_p5 ((w.withFollow "special-get-raises" true).withFollow "set-order" false) os) (piecesOf [stm 7] envT codeT ⟨21,0,21,8⟩ BT_)) = fun os => some (.next, S_p6 ((w.withFollow "special-get-raises" true).withFollow "set-order" false) os, codeT, ⟨22,0,22,6⟩) := by
  rw [Fast.te10110043849684766642, Fast.te14364793385576792824]
  kernel_rfl
theorem b1_tt (w : World) : (fun os => segRunT treeTable pw ((w.withFollow "special-get-raises" true).withFollow "set-order" true) 28 annT 1 1300 (S_p5 ((w.withFollow "special-get-raises" true).withFollow "set-order" true) os) (piecesOf [stm 7] envT codeT ⟨21,0,21,8⟩ BT_)) = fun os => some (.next, S_p6 ((w.withFollow "special-get-raises" true).withFollow "set-order" true) os, codeT, ⟨22,0,22,6⟩) := by
  rw [Fast.te10110043849684766642, Fast.te14364793385576792824]
  kernel_rfl
theorem hB1 (w : World) : (fun os => segRunT treeTable pw w 28 annT 1 1300 (S_p5 w os) (piecesOf [stm 7] envT codeT ⟨21,0,21,8⟩ BT_)) = fun os => some (.next, S_p6 w os, codeT, ⟨22,0,22,6⟩) :=
  byRow2 "set-order" (P := fun w => (fun os => segRunT treeTable pw w 28 annT 1 1300 (S_p5 w os) (piecesOf [stm 7] envT codeT ⟨21,0,21,8⟩ BT_)) = fun os => some (.next, S_p6 w os, codeT, ⟨22,0,22,6⟩))
    (fun w => byRow2 "special-get-raises" (P := fun w => (fun os => segRunT treeTable pw (w.withFollow "set-order" false) 28 annT 1 1300 (S_p5 (w.withFollow "set-order" false) os) (piecesOf [stm 7] envT codeT ⟨21,0,21,8⟩ BT_)) = fun os => some (.next, S_p6 (w.withFollow "set-order" false) os, codeT, ⟨22,0,22,6⟩)) b1_ff b1_tf w)
    (fun w => byRow2 "special-get-raises" (P := fun w => (fun os => segRunT treeTable pw (w.withFollow "set-order" true) 28 annT 1 1300 (S_p5 (w.withFollow "set-order" true) os) (piecesOf [stm 7] envT codeT ⟨21,0,21,8⟩ BT_)) = fun os => some (.next, S_p6 (w.withFollow "set-order" true) os, codeT, ⟨22,0,22,6⟩)) b1_ft b1_tt w) w
end FS
end
section
set_option maxRecDepth 1000000
set_option maxHeartbeats 0
namespace FS
open PySem PySem.Calls PySem.W PyProof.Rows
theorem hB3 (w : World) (os : OsState) : segRun treeTable pw w 28 annT 1 (2 + (223 + (330 + (330 + (330 + (330 + (330 + (330 + (330 + (330 + (330 + (330 + (330 + (330 + (330 + (330 + (330 + (330 + (330 + (330 + (330 + (330 + (330 + (330 + (330 + (330 + (330 + (330 + (330 + (330 + (330 + (330 + (330 + (330 + (330 + (330 + (330 + (330 + (330 + (90)))))))))))))))))))))))))))))))))))))))) (S_p7 w os).abs (piecesOf [stm 9] envT codeT ⟨23,0,24,30⟩ BT_) = some (.next, (S_p8 w os).abs, codeT, ⟨25,0,25,13⟩) := by
  rw [thr9]
  exact seg_go (segGo_of (congrFun (b3_00 w) os)) (seg_go (segGo_of (congrFun (b3_0 w) os)) (seg_go (segGo_of (congrFun (b3_1 w) os)) (seg_go (segGo_of (congrFun (b3_2 w) os)) (seg_go (segGo_of (congrFun (b3_3 w) os)) (seg_go (segGo_of (congrFun (b3_4 w) os)) (seg_go (segGo_of (congrFun (b3_5 w) os)) (seg_go (segGo_of (congrFun (b3_6 w) os)) (seg_go (segGo_of (congrFun (b3_7 w) os)) (seg_go (segGo_of (congrFun (b3_8 w) os)) (seg_go (segGo_of (congrFun (b3_9 w) os)) (seg_go (segGo_of (congrFun (b3_10 w) os)) (seg_go (segGo_of (congrFun (b3_11 w) os)) (seg_go (segGo_of (congrFun (b3_12 w) os)) (seg_go (segGo_of (congrFun (b3_13 w) os)) (seg_go (segGo_of (congrFun (b3_14 w) os)) (seg_go (segGo_of (congrFun (b3_15 w) os)) (seg_go (segGo_of (congrFun (b3_16 w) os)) (seg_go (segGo_of (congrFun (b3_17 w) os)) (seg_go (segGo_of (congrFun (b3_18 w) os)) (seg_go (segGo_of (congrFun (b3_19 w) os)) (seg_go (segGo_of (congrFun (b3_20 w) os)) (seg_go (segGo_of (congrFun (b3_21 w) os)) (seg_go (segGo_of (congrFun (b3_22 w) os)) (seg_go (segGo_of (congrFun (b3_23 w) os)) (seg_go (segGo_of (congrFun (b3_24 w) os)) (seg_go (segGo_of (congrFun (b3_25 w) os)) (seg_go (segGo_of (congrFun (b3_26 w) os)) (seg_go (segGo_of (congrFun (b3_27 w) os)) (seg_go (segGo_of (congrFun (b3_28 w) os)) (seg_go (segGo_of (congrFun (b3_29 w) os)) (seg_go (segGo_of (congrFun (b3_30 w) os)) (seg_go (segGo_of (congrFun (b3_31 w) os)) (seg_go (segGo_of (congrFun (b3_32 w) os)) (seg_go (segGo_of (congrFun (b3_33 w) os)) (seg_go (segGo_of (congrFun (b3_34 w) os)) (seg_go (segGo_of (congrFun (b3_35 w) os)) (seg_go (segGo_of (congrFun (b3_36 w) os)) (seg_go (segGo_of (congrFun (b3_37 w) os)) (segRun_of (congrFun (b3_38 w) os))))))))))))))))))))))))))))))))))))))))
theorem body_eq : bodyT = [stm 1, stm 2, stm 3, stm 4, stm 5, stm 6] ++ ([stm 7] ++ ([stm 8] ++ ([stm 9] ++ ([stm 10, stm 11, stm 12, stm 13] ++ ([stm 14] ++ ([stm 15, stm 16, stm 17, stm 18, stm 19, stm 20, stm 21] ++ [])))))) := by kernel_rfl
theorem hRun (w : World) (os : OsState) : topRun treeTable pw w 28 annT (12 + (1 + (118 + (1300 + (30 + ((2 + (223 + (330 + (330 + (330 + (330 + (330 + (330 + (330 + (330 + (330 + (330 + (330 + (330 + (330 + (330 + (330 + (330 + (330 + (330 + (330 + (330 + (330 + (330 + (330 + (330 + (330 + (330 + (330 + (330 + (330 + (330 + (330 + (330 + (330 + (330 + (330 + (330 + (330 + (90)))))))))))))))))))))))))))))))))))))))) + (186 + (728 + (180 + 2))))))))) ⟨H_s0 w.params, #[], ⟨0,0,0,0⟩, 276, os⟩ (topStub pw) = some (S_fin w os).abs := by
  have f0 : topRun treeTable pw w 28 annT 2 (S_fin w os).abs (restOf [] envT codeT ⟨160,0,178,89⟩ BT_) = some (S_fin w os).abs := congrFun (hFin w) os
  have f1 := piece_app (segRun_of (congrFun (hE3 w) os)) f0
  have f2 := piece_app (segRun_of (congrFun (hE2 w) os)) f1
  have f3 := piece_app (segRun_of (congrFun (hE1 w) os)) f2
  have f4 := piece_app (hB3 w os) f3
  have f5 := piece_app (segRun_of (congrFun (hC w) os)) f4
  have f6 := piece_app (segRun_of (congrFun (hB1 w) os)) f5
  have f7 := piece_app (segRun_of (congrFun (hA w) os)) f6
  rw [← body_eq] at f7
  have f8 := piece_block (congrFun (hBlk w) os) f7
  exact go_top (congrFun (hPre w) os) f8
theorem hOpen2 : ∀ w : World, (fencedOpening treeTable pw w 20000).map (fun s => (s.heap, s.gens, s.drawn, s.toks)) = some (H_s0 w.params, #[], ⟨0,0,0,0⟩, 276) :=
  open_cut hOpen (by decide) hFence
end FS
end
section
set_option maxRecDepth 1000000
set_option maxHeartbeats 0
namespace FS
open PySem PySem.Calls PySem.W PyProof.Rows
noncomputable section
noncomputable def qT : Program := { pw with main := { pw.main with body := [stm 0, stm 1, stm 3, stm 4, stm 5, stm 7, stm 8, stm 9, stm 10, stm 12, stm 13, stm 14, stm 16, stm 17, stm 18, stm 19, stm 20, stm 21] } }
noncomputable def looseT : List Str := [Str.ofString "b1_set", Str.ofString "b3_exceptions", Str.ofString "_name_disallowed_re", Str.ofString "_value_disallowed_re"]
noncomputable def KT : Params → Frag := fun P => [(0, o_s0_0 P), (1, o_s0_1 P), (2, o_s0_2 P), (3, o_fin_3 P), (4, o_s0_4 P), (5, o_s0_5 P), (6, o_s0_6 P), (7, o_s0_7 P), (8, o_s0_8 P), (9, o_s0_9 P), (10, o_s0_10 P), (11, o_s0_11 P), (12, o_s0_12 P), (13, o_s0_13 P), (14, o_s0_14 P), (15, o_s0_15 P), (16, o_s0_16 P), (17, o_s0_17 P), (18, o_s0_18 P), (19, o_s0_19 P), (20, o_s0_20 P), (21, o_s0_21 P), (22, o_s0_22 P), (23, o_s0_23 P), (24, o_s0_24 P), (25, o_s0_25 P), (26, o_s0_26 P), (27, o_s0_27 P), (28, o_block_28 P), (29, o_fin_29 P), (30, o_block_30 P), (31, o_block_31 P), (32, o_p5_32 P), (33, o_p5_33 P), (34, o_p5_34 P), (35, o_p5_35 P), (36, o_p5_36 P), (37, o_p5_37 P), (38, o_p5_38 P), (39, o_p5_39 P), (40, o_p5_40 P), (41, o_p5_41 P), (42, o_p5_42 P), (43, o_p5_43 P), (44, o_p5_44 P), (45, o_p5_45 P), (46, o_p5_46 P), (47, o_p5_47 P), (48, o_p5_48 P), (49, o_p5_49 P), (50, o_p5_50 P), (51, o_p5_51 P), (52, o_p5_52 P), (53, o_p6_53 P), (54, o_p6_54 P), (55, o_p6_55 P), (56, o_p6_56 P), (57, o_p6_57 P), (58, o_p6_58 P), (59, o_p6_59 P), (60, o_p6_60 P), (61, o_p6_61 P), (62, o_p6_62 P), (63, o_p6_63 P), (64, o_p7_64 P), (65, o_p7_65 P), (66, o_p7_66 P), (67, o_p7_67 P), (68, o_p7_68 P), (69, o_p7_69 P), (70, o_p7_70 P), (71, o_p8_71 P), (72, o_p8_72 P), (73, o_p8_73 P), (74, o_p8_74 P), (75, o_p8_75 P), (76, o_p8_76 P), (77, o_p8_77 P), (78, o_p8_78 P), (79, o_p8_79 P), (80, o_p8_80 P), (81, o_p8_81 P), (82, o_p8_82 P), (83, o_p8_83 P), (84, o_p8_84 P), (85, o_p8_85 P), (86, o_p8_86 P), (87, o_p8_87 P), (88, o_p8_88 P), (89, o_p8_89 P), (90, o_p8_90 P), (91, o_p8_91 P), (92, o_p8_92 P), (93, o_p8_93 P), (94, o_p8_94 P), (95, o_p8_95 P), (96, o_p8_96 P), (97, o_p8_97 P), (98, o_p8_98 P), (99, o_p8_99 P), (100, o_p8_100 P), (101, o_p8_101 P), (102, o_p8_102 P), (103, o_p8_103 P), (104, o_p8_104 P), (105, o_p8_105 P), (106, o_p8_106 P), (107, o_p8_107 P), (108, o_p8_108 P), (109, o_p8_109 P), (110, o_p12_110 P), (111, o_p12_111 P), (112, o_p12_112 P), (113, o_p12_113 P), (114, o_p12_114 P), (115, o_p12_115 P), (116, o_p12_116 P), (117, o_p12_117 P), (118, o_p12_118 P), (119, o_p12_119 P), (120, o_p12_120 P), (121, o_p12_121 P), (122, o_p12_122 P), (123, o_p12_123 P), (124, o_p12_124 P), (125, o_p12_125 P), (126, o_p12_126 P), (127, o_p13_127 P), (128, o_p13_128 P), (129, o_p13_129 P), (130, o_p13_130 P), (131, o_p13_131 P), (132, o_p13_132 P), (133, o_p13_133 P), (134, o_p13_134 P), (135, o_p13_135 P), (136, o_p13_136 P), (137, o_p13_137 P), (138, o_p13_138 P), (139, o_p13_139 P), (140, o_p13_140 P), (141, o_p13_141 P), (142, o_p13_142 P), (143, o_p13_143 P), (144, o_p13_144 P), (145, o_p13_145 P), (146, o_p13_146 P), (147, o_p13_147 P), (148, o_p13_148 P), (149, o_p13_149 P), (150, o_p13_150 P), (151, o_p13_151 P), (152, o_p13_152 P), (153, o_p13_153 P), (154, o_p13_154 P), (155, o_p13_155 P), (156, o_p13_156 P), (157, o_p13_157 P), (158, o_p13_158 P), (159, o_p13_159 P), (160, o_p13_160 P), (161, o_p13_161 P), (162, o_p13_162 P), (163, o_p13_163 P), (164, o_p13_164 P), (165, o_p13_165 P), (166, o_p13_166 P), (167, o_p13_167 P), (168, o_p13_168 P), (169, o_p13_169 P), (170, o_p13_170 P), (171, o_p13_171 P), (172, o_p13_172 P), (173, o_p13_173 P), (174, o_p13_174 P), (175, o_p13_175 P), (176, o_p13_176 P), (177, o_p13_177 P), (178, o_p13_178 P), (179, o_p13_179 P), (180, o_p13_180 P), (181, o_p13_181 P), (182, o_p13_182 P), (183, o_p13_183 P), (184, o_p13_184 P), (185, o_p13_185 P), (186, o_p13_186 P), (187, o_p13_187 P), (188, o_p13_188 P), (189, o_p13_189 P), (190, o_p13_190 P), (191, o_p13_191 P), (192, o_p13_192 P), (193, o_p13_193 P), (194, o_p13_194 P), (195, o_p13_195 P), (196, o_p13_196 P), (197, o_p13_197 P), (198, o_p13_198 P), (199, o_p13_199 P), (200, o_p13_200 P), (201, o_p13_201 P), (202, o_p13_202 P), (203, o_p13_203 P), (204, o_p13_204 P), (205, o_p13_205 P), (206, o_p13_206 P), (207, o_p13_207 P), (208, o_p13_208 P), (209, o_p13_209 P), (210, o_p13_210 P), (211, o_p13_211 P), (212, o_p13_212 P), (213, o_p13_213 P), (214, o_p13_214 P), (215, o_p13_215 P), (216, o_p13_216 P), (217, o_p13_217 P), (218, o_p13_218 P), (219, o_p13_219 P), (220, o_p13_220 P), (221, o_p13_221 P), (222, o_p13_222 P), (223, o_p13_223 P), (224, o_p13_224 P), (225, o_p13_225 P), (226, o_p13_226 P), (227, o_p13_227 P), (228, o_p13_228 P), (229, o_p13_229 P), (230, o_p13_230 P), (231, o_p13_231 P), (232, o_p13_232 P), (233, o_p13_233 P), (234, o_p13_234 P), (235, o_p13_235 P), (236, o_p13_236 P), (237, o_p13_237 P), (238, o_p13_238 P), (239, o_p13_239 P), (240, o_p13_240 P), (241, o_p13_241 P), (242, o_p13_242 P), (243, o_p13_243 P), (244, o_p13_244 P), (245, o_p13_245 P), (246, o_p13_246 P), (247, o_p13_247 P), (248, o_p13_248 P), (249, o_p13_249 P), (250, o_p13_250 P), (251, o_p13_251 P), (252, o_p13_252 P), (253, o_p13_253 P), (254, o_fin_254 P), (255, o_fin_255 P), (256, o_fin_256 P), (257, o_fin_257 P), (258, o_fin_258 P), (259, o_fin_259 P), (260, o_fin_260 P), (261, o_fin_261 P), (262, o_fin_262 P), (263, o_fin_263 P), (264, o_fin_264 P), (265, o_fin_265 P), (266, o_fin_266 P), (267, o_fin_267 P), (268, o_fin_268 P), (269, o_fin_269 P), (270, o_fin_270 P), (271, o_fin_271 P), (272, o_fin_272 P), (273, o_fin_273 P), (274, o_fin_274 P), (275, o_fin_275 P), (276, o_fin_276 P), (277, o_fin_277 P), (278, o_fin_278 P), (279, o_fin_279 P), (280, o_fin_280 P), (281, o_fin_281 P), (282, o_fin_282 P), (283, o_fin_283 P), (284, o_fin_284 P), (285, o_fin_285 P), (286, o_fin_286 P), (287, o_fin_287 P)]
noncomputable def KA : List Nat := [0, 1, 2, 3, 4, 5, 6, 7, 8, 9, 10, 11, 12, 13, 14, 15, 16, 17, 18, 19, 20, 21, 22, 23, 24, 25, 26, 27, 28, 29, 30, 31, 32, 33, 34, 35, 36, 37, 38, 39, 40, 41, 42, 43, 44, 45, 46, 47, 48, 49, 50, 51, 52, 53, 54, 55, 56, 57, 58, 59, 60, 61, 62, 63, 64, 65, 66, 67, 68, 69, 70, 71, 72, 73, 74, 75, 76, 77, 78, 79, 80, 81, 82, 83, 84, 85, 86, 87, 88, 89, 90, 91, 92, 93, 94, 95, 96, 97, 98, 99, 100, 101, 102, 103, 104, 105, 106, 107, 108, 109, 110, 111, 112, 113, 114, 115, 116, 117, 118, 119, 120, 121, 122, 123, 124, 125, 126, 127, 128, 129, 130, 131, 132, 133, 134, 135, 136, 137, 138, 139, 140, 141, 142, 143, 144, 145, 146, 147, 148, 149, 150, 151, 152, 153, 154, 155, 156, 157, 158, 159, 160, 161, 162, 163, 164, 165, 166, 167, 168, 169, 170, 171, 172, 173, 174, 175, 176, 177, 178, 179, 180, 181, 182, 183, 184, 185, 186, 187, 188, 189, 190, 191, 192, 193, 194, 195, 196, 197, 198, 199, 200, 201, 202, 203, 204, 205, 206, 207, 208, 209, 210, 211, 212, 213, 214, 215, 216, 217, 218, 219, 220, 221, 222, 223, 224, 225, 226, 227, 228, 229, 230, 231, 232, 233, 234, 235, 236, 237, 238, 239, 240, 241, 242, 243, 244, 245, 246, 247, 248, 249, 250, 251, 252, 253, 254, 255, 256, 257, 258, 259, 260, 261, 262, 263, 264, 265, 266, 267, 268, 269, 270, 271, 272, 273, 274, 275, 276, 277, 278, 279, 280, 281, 282, 283, 284, 285, 286, 287]
noncomputable def HT : Hook := kHook KT KA (fun _ => by kernel_rfl)
noncomputable def H_fin (P : Params) : Heap := absHeap (t_fin P) 288 (Life.mk [] [] [] 0 [] [] false #[] [] 0 false false false 0 [2000, 10, 10] false 0 true [] [] 0 false)
noncomputable abbrev s_fin (w : World) (os : OsState) : Shared := ⟨H_fin w.params, #[], ⟨0,0,0,0⟩, 2604, os⟩
end
theorem fin_eq (w : World) (os : OsState) : (S_fin w os).abs = s_fin w os := rfl
end FS
end
section
set_option maxRecDepth 1000000
set_option maxHeartbeats 0
namespace FS
open PySem PySem.Calls PySem.W PyProof.Rows
theorem look1 (w : World) : (fun os => (staticsOk (importedModules pw.main.body) (H_s0 w.params) (H_fin w.params) && namesBound pw (H_fin w.params) && gensDone (s_fin w os) && laidKept (H_s0 w.params) (H_fin w.params))) = fun _ => true := by
  kernel_rfl
theorem look3 (w : World) : (fun os => HT.obs (s_fin w os)) = fun _ => HT.val w := by
  kernel_rfl
end FS
end
section
set_option maxRecDepth 1000000
set_option maxHeartbeats 0
namespace FS
open PySem PySem.Calls PySem.W PyProof.Rows
noncomputable section
noncomputable def q1 : Program := { pw with main := { pw.main with body := [stm 21] } }
noncomputable def loose1 : List Str := ["_sre", "_wall", "_strcoll", "CHAR_MAX", "_grouping_intervals", "b1_set", "in_table_b1", "b3_exceptions", "map_table_b3", "_name_disallowed_re", "_value_disallowed_re", "Headers", "_law_typed", "_law_plain", "_law_take", "_law_counts", "_law_undone"]
end
theorem lk1 (w : World) : (fun os => seen ((recsOf q1).map (·.name)) (ownsOf q1) [] { (s_fin w os) with gens := #[] }) = fun _ => expectedOf q1 := by kernel_rfl
theorem lk2 (w : World) : (fun os => (s_fin w os).heap.bltView) = fun _ => bltViewBooted := by kernel_rfl
theorem lk3 (w : World) : (fun os => (s_fin w os).heap.keysOk (looseW q1 loose1) ((recsOf q1).map (·.name)) ((litsOf q1).map (·.1)) ((clssOf q1 (looseW q1 loose1)).map (·.name))) = fun _ => true := by kernel_rfl
theorem lk4 (w : World) : (fun os => (s_fin w os).heap.accountedOkI (importedModules pw.main.body) && (s_fin w os).heap.isNs mainGlobals && (s_fin w os).heap.isNs builtinsNs) = fun _ => true := by kernel_rfl
theorem lk5 (w : World) : (fun os => tablesOk q1 (s_fin w os).heap && ((s_fin w os).gens.size == 0)) = fun _ => true := by kernel_rfl
theorem lk6 (w : World) : (fun os => tabsOk q1 (s_fin w os)) = fun _ => true := by kernel_rfl
theorem lk7 (w : World) : (fun os => pinSeenD q1 (drecsOf q1) (s_fin w os)) = fun _ => pinGoodD (drecsOf q1) := by kernel_rfl
theorem lk8 (w : World) : (fun os => plainSeenE q1 (looseW q1 loose1) (s_fin w os)) = fun _ => plainGoodE q1 (looseW q1 loose1) := by kernel_rfl
theorem lk9 (w : World) : (fun os => plainSeenD q1 loose1 (s_fin w os)) = fun _ => plainGoodD q1 loose1 := by kernel_rfl
theorem lk10 (w : World) : (fun os => wideSeen q1 (s_fin w os)) = fun _ => wideGood q1 := by kernel_rfl
theorem lk11 (w : World) : (fun os => clsSeenW q1 loose1 (s_fin w os)) = fun _ => clsGoodW q1 loose1 := by kernel_rfl
end FS
end
section
set_option maxRecDepth 1000000
set_option maxHeartbeats 0
namespace FS
open PySem PySem.Calls PySem.W PyProof.Rows
noncomputable section
noncomputable def fPos : Stmt → Pos
  | .FunctionDef _ _ _ _ _ _ _ _ _ p => p
  | _ => ⟨0, 0, 0, 0⟩
noncomputable def dLaw : DefRec := ⟨Str.ofString "law", fPars (stm 21), fBody (stm 21), fScope (stm 21), fPos (stm 21)⟩
end
/-- what is seen, out of what each look tells -/
theorem seen_good {q : Program} {loose mods : List Str} {s : Shared} (e1 : seen ((recsOf q).map (·.name)) (ownsOf q) [] { s with gens := #[] } = expectedOf q) (e2 : s.heap.bltView = bltViewBooted)
    (e3 : s.heap.keysOk (looseW q loose) ((recsOf q).map (·.name)) ((litsOf q).map (·.1)) ((clssOf q (looseW q loose)).map (·.name)) = true)
    (e4 : (s.heap.accountedOkI mods && s.heap.isNs mainGlobals && s.heap.isNs builtinsNs) = true) (e5 : (tablesOk q s.heap && (s.gens.size == 0)) = true) (e6 : tabsOk q s = true)
    (e7 : pinSeenD q (drecsOf q) s = pinGoodD (drecsOf q)) (e8 : plainSeenE q (looseW q loose) s = plainGoodE q (looseW q loose)) (e9 : plainSeenD q loose s = plainGoodD q loose)
    (e10 : wideSeen q s = wideGood q) (e11 : clsSeenW q loose s = clsGoodW q loose) : openSeen q loose mods (fun _ => true) true s = openGood q loose := by
  unfold openSeen openGood
  simp only [Bool.and_eq_true] at e4 e5
  rw [e1, e2, e3, e4.1.1, e4.1.2, e4.2, e5.1, if_pos rfl, e5.2, e6, e7, e8, e9, e10, e11]
  rfl
theorem three_eq {α β γ : Type _} {a a' : α} {b b' : β} {c c' : γ} (h1 : a = a') (h2 : b = b') (h3 : c = c') : (a, b, c) = (a', b', c') := by rw [h1, h2, h3]
theorem lkAll (w : World) (os : OsState) : openSeen q1 loose1 (importedModules pw.main.body) (fun _ => true) true (s_fin w os) = openGood q1 loose1 :=
  seen_good (congrFun (lk1 w) os) (congrFun (lk2 w) os) (congrFun (lk3 w) os) (congrFun (lk4 w) os) (congrFun (lk5 w) os) (congrFun (lk6 w) os) (congrFun (lk7 w) os) (congrFun (lk8 w) os) (congrFun (lk9 w) os) (congrFun (lk10 w) os) (congrFun (lk11 w) os)
theorem looksT (w : World) : (fun os => ((staticsOk (importedModules pw.main.body) (H_s0 w.params) (H_fin w.params) && namesBound pw (H_fin w.params) && gensDone (s_fin w os) && laidKept (H_s0 w.params) (H_fin w.params)),
        openSeen q1 loose1 (importedModules pw.main.body) (fun _ => true) true (s_fin w os), HT.obs (s_fin w os))) = fun _ => (true, openGood q1 loose1, HT.val w) := by
  funext os
  exact three_eq (congrFun (look1 w) os) (lkAll w os) (congrFun (look3 w) os)
noncomputable abbrev rowL : RowW := PySem.Challenge.rw_wf0096_01.row.toRowW
theorem hRunS (w : World) (os : OsState) : topRun treeTable pw w 28 annT (12 + (1 + (118 + (1300 + (30 + ((2 + (223 + (330 + (330 + (330 + (330 + (330 + (330 + (330 + (330 + (330 + (330 + (330 + (330 + (330 + (330 + (330 + (330 + (330 + (330 + (330 + (330 + (330 + (330 + (330 + (330 + (330 + (330 + (330 + (330 + (330 + (330 + (330 + (330 + (330 + (330 + (330 + (330 + (330 + (90)))))))))))))))))))))))))))))))))))))))) + (186 + (728 + (180 + 2))))))))) ⟨H_s0 w.params, #[], ⟨0,0,0,0⟩, 276, os⟩ (topStub pw) = some (s_fin w os) := (hRun w os).trans (congrArg some (fin_eq w os))
theorem hSizeS : ∀ w : World, ((H_s0 w.params).isNs mainGlobals && (#[] : Array GenState).size == 0, (H_s0 w.params).objs.size, (H_s0 w.params).nsMap mainGlobals "__annotations__") = (true, 28, annT) := hSize
theorem leftT : LeftO pw q1 loose1 (fun _ => true) HT.obs HT.val 20000 true :=
  LeftO.of_pieces hOpen2 hSizeS hRunS (by kernel_rfl) looksT
theorem both {a b : Bool} (h : a = true) (k : b = true) : (a && b) = true := by rw [h, k]; rfl
theorem said0 : looksOpen PySem.Challenge.rw_wf0096_01.row.prog = true := by
  unfold looksOpen
  repeat' with_reducible apply both
  all_goals decide +kernel
theorem said1 : PySem.Challenge.rw_wf0096_01.row.partSaid = true := by
  unfold OpenRow.partSaid
  repeat' with_reducible apply both
  · exact said0
  all_goals decide +kernel
theorem said2 : PySem.Challenge.rw_wf0096_01.row.wellSaid = true := by
  unfold OpenRow.wellSaid
  exact both (both said1 (by decide +kernel)) (by decide +kernel)
theorem said3 : PySem.Challenge.rw_wf0096_01.wellSaid = true := by
  unfold OpenLaw.wellSaid
  repeat' with_reducible apply both
  · exact said2
  all_goals decide +kernel
theorem top_law (call : WalkO q1 loose1 (fun _ _ => True) HT.says rowL dLaw [] fun f vs => PySem.call f vs) : PySem.Challenge.rw_wf0096_01.Holds := by
  w_on
  refine holds_law said3 fun said => ?_
  refine holds_open (q := q1) (loose := loose1) (Xt := fun _ => true) (XP := fun _ _ => True) (Yf := HT.obs) (Ya := HT.val) (YP := HT.says) (N := 20000) leftT HT.of HT.keeps (fun _ _ => trivial) (fun _ _ _ _ _ => trivial) (d := dLaw) (kwd := []) (by kernel_rfl) (by kernel_rfl) (by kernel_rfl) (fun _ _ => recFacts_nil rfl) rfl
    (by first | assumption | decide +kernel) (by decide +kernel) ⟨rfl, rfl, rfl, rfl, rfl, by decide +kernel⟩ (by w_witness2) call
end FS
end
section
set_option linter.unusedVariables false
namespace FS
open PySem PySem.Calls PySem.W PyProof.Rows

section
variable {prog : Program} {w : World} {A : Around} {I : View → Heap → Prop} {env : Env} {d d1 d2 : D}
theorem PE.item {value slice : Expr} {pos : Pos} (st : Stable I) (h1 : PE (model prog w) A I (eval value env) d1) (h2 : PE (model prog w) A I (eval slice env) d2) (h : Op2 (model prog w) A I (subscriptTail value slice) d1 d2 d) :
    PE (model prog w) A I (eval (.Subscript value slice pos) env) d :=
  fun V s on i Q E k => Subscript_ (h1 V s on i _ E fun v1 V1 s1 t1 g1 r1 => h2 V1 _ g1.on (st _ _ _ _ i g1) _ E fun v2 V2 s2 t2 g2 r2 =>
    h V2 _ g2.on (st _ _ _ _ (st _ _ _ _ i g1) g2) v1 v2 (r1.mono g2.sub) r2 _ E fun v V3 s3 t3 g3 r3 => k v V3 s3 t3 ((g1.trans g2).trans g3) r3)
/-- an index that is no slice -/
noncomputable def NoSlice (slice : Expr) : Prop := ∀ a k u, subscripted slice false (.ref a) (.int k u) = operate [.ref a, .int k u] (getItem (.ref a) (.int k u))
theorem op_item_list {value slice : Expr} {ds : List D} {k : Int} (h0 : 0 ≤ k) (hk : k < 2 ^ 62) (hx : ds[k.toNat]? = some d) (hs : NoSlice slice := by intro _ _ _; with_unfolding_all rfl) :
    Op2 (model prog w) A I (subscriptTail value slice) (.list ds) (.int k) d := fun V s on i v1 v2 r1 r2 Q E q => by
  obtain ⟨a, items, rfl, hl, rl⟩ := r1.isList on
  cases r2
  obtain ⟨v, hv, rv⟩ := rl.get hx
  exact tail_any hl.typeIs slot_list_getitem.lookup (wpAny_getItem_list hl h0 (by omega) (by simpa using hv) (q v V s.heap s.toks (.refl on) rv)) (hs _ _ _)
theorem op_item_listNeg {value slice : Expr} {ds : List D} {k : Int} (h0 : k < 0) (hk : -(ds.length : Int) ≤ k) (hb : -2 ^ 62 ≤ k) (hx : ds[(k + ds.length).toNat]? = some d) (hs : NoSlice slice := by intro _ _ _; with_unfolding_all rfl) :
    Op2 (model prog w) A I (subscriptTail value slice) (.list ds) (.int k) d := fun V s on i v1 v2 r1 r2 Q E q => by
  obtain ⟨a, items, rfl, hl, rl⟩ := r1.isList on
  cases r2
  obtain ⟨v, hv, rv⟩ := rl.get hx
  have hz : items.toArray.size = ds.length := by simp [rl.length]
  exact tail_any hl.typeIs slot_list_getitem.lookup (wpAny_getItem_list_neg hl h0 (by rw [hz]; exact hk) (by omega) (by rw [hz]; simpa using hv) (q v V s.heap s.toks (.refl on) rv)) (hs _ _ _)
theorem op_item_tup {value slice : Expr} {ds : List D} {k : Int} (h0 : 0 ≤ k) (hk : k < 2 ^ 62) (hx : ds[k.toNat]? = some d) (hs : NoSlice slice := by intro _ _ _; with_unfolding_all rfl) :
    Op2 (model prog w) A I (subscriptTail value slice) (.tup ds) (.int k) d := fun V s on i v1 v2 r1 r2 Q E q => by
  obtain ⟨a, items, rfl, hl, rl⟩ := r1.isTup on
  cases r2
  obtain ⟨v, hv, rv⟩ := rl.get hx
  have hlt : k.toNat < items.length := by
    rw [rl.length]
    rcases Nat.lt_or_ge k.toNat ds.length with h | h
    · exact h
    · rw [List.getElem?_eq_none h] at hx; cases hx
  refine item_tupleT hl (by omega) (by omega) (j := k.toNat) ?_ (by simpa using hv) (q v V s.heap s.toks (.refl on) rv) (hs _ _ _)
  unfold seqIndex?
  first
    | rw [if_pos (by omega)]
    | (simp only []; omega)
    | (split <;> first | rfl | omega | simp_all)
end
end FS
end
section
set_option linter.unusedVariables false
namespace FS
open PySem PySem.Calls PySem.W PyProof.Rows

/-- an iterator's object -/
noncomputable def IsFlds (h : Heap) (a : Addr) : Prop := ∃ o vs, h.get? a = some o ∧ o.data = .fields vs
theorem IsFlds.noCell {h : Heap} {a : Addr} (x : IsFlds h a) (v : Option Value) : ¬ h.IsCell a v := by
  rintro ⟨o', ho', hd'⟩
  obtain ⟨o, vs, ho, hd⟩ := x
  rw [ho] at ho'; cases ho'; rw [hd] at hd'; cases hd'
theorem IsFlds.noNs {h : Heap} {a : Addr} (x : IsFlds h a) (m : Str → Option Value) : ¬ h.Ns a m := by
  rintro ⟨o', es, ep, ho', hd', _⟩
  obtain ⟨o, vs, ho, hd⟩ := x
  rw [ho] at ho'; cases ho'; rw [hd] at hd'; cases hd'
theorem IsFlds.noList {h : Heap} {a : Addr} (x : IsFlds h a) (items : Array Value) : ¬ h.IsList a items := by
  rintro ⟨o', ho', _, n, hd'⟩
  obtain ⟨o, vs, ho, hd⟩ := x
  rw [ho] at ho'; cases ho'; rw [hd] at hd'; cases hd'

/-- an iterator I whose items read as ds -/
structure ItrP (P : List Addr) (prog : Program) (w : World) (A : Around) (I : Addr) (ds : List D) (W : View) (St : Nat → Heap → Prop) : Prop where
  frameP : ∀ i h h', St i h → (∀ b ∈ I :: P, ∀ o, h.get? b = some o → h'.get? b = some o) → St i h'
  flds : ∀ i h, St i h → IsFlds h I
  item : ∀ i V (s : Shared) (Q : Option Value → Shared → Prop) (E : Value → Shared → Prop), i < ds.length → On V s.heap → (∀ b o, W b = some o → V b = some o) → St i s.heap →
    (∀ v h' tk d, ds[i]? = some d → Rd V v d → St (i + 1) h' → Heap.ExtBut I s.heap h' → Q (some v) { s with heap := h', toks := tk }) → wpAny (model prog w) A (pyNext (.ref I)) Q E s
  done : ∀ V (s : Shared) (Q : Option Value → Shared → Prop) (E : Value → Shared → Prop), On V s.heap → (∀ b o, W b = some o → V b = some o) → St ds.length s.heap →
    (∀ h' tk, Heap.ExtBut I s.heap h' → Q none { s with heap := h', toks := tk }) → wpAny (model prog w) A (pyNext (.ref I)) Q E s
  self : ∀ i (s : Shared) (Q : Value → Shared → Prop) (E : Value → Shared → Prop), St i s.heap → Q (.ref I) s → wpAny (model prog w) A (pyIter (.ref I)) Q E s

noncomputable abbrev Itr := ItrP []
theorem ItrP.frame {prog : Program} {w : World} {A : Around} {I : Addr} {ds : List D} {W : View} {St : Nat → Heap → Prop} (it : Itr prog w A I ds W St) : ∀ i h h', St i h → (∀ o, h.get? I = some o → h'.get? I = some o) → St i h' :=
  fun i h h' st k => it.frameP i h h' st fun b hb o e => by
    have : b = I := by simpa using hb
    subst this; exact k o e
/-- data that iter() takes, by what holds -/
noncomputable def ItbG (prog : Program) (w : World) (A : Around) (J : View → Heap → Prop) (dx : D) (ds : List D) : Prop :=
  ∀ V (s : Shared) v, On V s.heap → J V s.heap → Rd V v dx → ∀ (Q : Value → Shared → Prop) (E : Value → Shared → Prop),
    (∀ o St P, o.isFreed = false → ItrP P prog w A s.heap.objs.size ds V St → (∀ b ∈ P, ∃ o, s.heap.get? b = some o) → St 0 (s.heap.push o) → Q (.ref s.heap.objs.size) { s with heap := s.heap.push o }) → wpAny (model prog w) A (pyIter v) Q E s
/-- data that iter() takes -/
noncomputable def Itb (prog : Program) (w : World) (A : Around) (dx : D) (ds : List D) : Prop :=
  ∀ V (s : Shared) v, On V s.heap → Rd V v dx → ∀ (Q : Value → Shared → Prop) (E : Value → Shared → Prop),
    (∀ o St, o.isFreed = false → Itr prog w A s.heap.objs.size ds V St → St 0 (s.heap.push o) → Q (.ref s.heap.objs.size) { s with heap := s.heap.push o }) → wpAny (model prog w) A (pyIter v) Q E s

theorem Itb.toG {prog : Program} {w : World} {A : Around} {J : View → Heap → Prop} {dx : D} {ds : List D} (h : Itb prog w A dx ds) : ItbG prog w A J dx ds := fun V s v on j r Q E k =>
  h V s v on r Q E fun o St hf it st => k o St [] hf it (fun _ h => nomatch h) st
theorem extBut_wr {I : Addr} {h h' : Heap} (k : ∀ b o, b ∉ [I] → h.get? b = some o → h'.get? b = some o) : Heap.ExtBut I h h' := fun b o hb e => k b o (by simpa using hb) e

section
variable {prog : Program} {w : World} {A : Around}
theorem Itb.list (hh : A.handled = none) {ds : List D} : Itb prog w A (.list ds) ds := fun V s v on r Q E k => by
  obtain ⟨a, items, rfl, hl, rl⟩ := r.isList on
  cases r with
  | list e q =>
    rename_i its n
    refine wpAny_pyIter_list hl (k _ (fun i h => h.IsListIter s.heap.objs.size a i) rfl ?_ ⟨_, Heap.get?_push_size _ rfl, rfl, rfl⟩)
    have hlt : a < s.heap.objs.size := on.lt e
    have W := Walks.list (prog := prog) (w := w) (A := A) hh s.heap.objs.size a (Nat.ne_of_lt hlt) its.toArray
    have isL : ∀ V' (h' : Heap), On V' h' → (∀ b o, V b = some o → V' b = some o) → h'.IsList a its.toArray := fun V' h' on' sub => ⟨_, on' _ _ (sub _ _ e), rfl, _, rfl⟩
    exact
      { frameP := fun i h h' st hk => st.at fun o e => hk _ (.head _) o e
        flds := fun i h st => by obtain ⟨o, ho, _, hd⟩ := st; exact ⟨o, _, ho, hd⟩
        item := fun i V' s' Q' E' hi on' sub st k' => W.item i s' Q' E' (by simpa [q.length] using hi) ⟨st, isL V' _ on' sub⟩ fun v h' tk hv st' hk' => by
          have hi' : its[i]? = some v := by simpa using hv
          obtain ⟨v', hv', rv⟩ := q.get (i := i) (d := ds[i]) (by simp [hi])
          rw [hi'] at hv'; cases hv'
          exact k' v h' tk ds[i] (by simp [hi]) (rv.mono sub) st'.1 (extBut_wr hk')
        done := fun V' s' Q' E' on' sub st k' => W.done s' Q' E' ⟨by simpa [q.length] using st, isL V' _ on' sub⟩ fun h' tk hk' => k' h' tk (extBut_wr hk')
        self := fun i s' Q' E' st hQ => wpAny_pyIter_listiter st hQ }
/-- a list that is being changed -/
theorem ItbG.mut (hh : A.handled = none) {G : Gd} {env : Env} {ρ : Vars} {μ : List (Addr × List D)} {l : Addr} {ds : List D} (hm : (l, ds) ∈ μ) : ItbG prog w A (Cx G env ρ μ) (.val (.ref l)) ds := fun V s v on cx r Q E k => by
  cases r
  obtain ⟨items, hpl, q, hV⟩ := cx.mu _ hm
  dsimp only at hpl q hV
  obtain ⟨o, ho⟩ := id hpl
  refine wpAny_pyIter_list hpl.isList (k _ (fun i h => h.IsListIter s.heap.objs.size l i ∧ h.IsList l items.toArray) [l] rfl ?_ (fun b hb => ?_) ⟨⟨_, Heap.get?_push_size _ rfl, rfl, rfl⟩, ?_⟩)
  · have hlt : l < s.heap.objs.size := Heap.lt_size ho
    have W := Walks.list (prog := prog) (w := w) (A := A) hh s.heap.objs.size l (Nat.ne_of_lt hlt) items.toArray
    exact
      { frameP := fun i h h' st hk => by
          obtain ⟨s1, o1, ho1, s2⟩ := st
          exact ⟨s1.at fun o e => hk _ (.head _) o e, o1, hk _ (.tail _ (.head _)) _ ho1, s2⟩
        flds := fun i h st => by obtain ⟨⟨o, ho, _, hd⟩, _⟩ := st; exact ⟨o, _, ho, hd⟩
        item := fun i V' s' Q' E' hi on' sub st k' => W.item i s' Q' E' (by simpa [q.length] using hi) st fun v h' tk hv st' hk' => by
          have hi' : items[i]? = some v := by simpa using hv
          obtain ⟨v', hv', rv⟩ := q.get (i := i) (d := ds[i]) (by simp [hi])
          rw [hi'] at hv'; cases hv'
          exact k' v h' tk ds[i] (by simp [hi]) (rv.mono sub) st' (extBut_wr hk')
        done := fun V' s' Q' E' on' sub st k' => W.done s' Q' E' ⟨by simpa [q.length] using st.1, st.2⟩ fun h' tk hk' => k' h' tk (extBut_wr hk')
        self := fun i s' Q' E' st hQ => wpAny_pyIter_listiter st.1 hQ }
  · have : b = l := by simpa using hb
    subst this; exact ⟨_, ho⟩
  · exact ⟨_, Heap.get?_push_of_some _ ho, rfl, _, rfl⟩
/-- a range, as data -/
noncomputable def rangeD (a : Int) (n : Nat) : List D := (List.range n).map fun i : Nat => .int (a + (i : Int))
theorem Itb.strA (hh : A.handled = none) {x : Str} (ha : strIterType x = "str_ascii_iterator" ∨ strIterType x = "str_iterator") : Itb prog w A (.str x) (x.cps.toList.map fun c => .str ⟨#[c]⟩) := fun V s v on r Q E k => by
  cases r with
  | str _ t =>
    have mk : ∀ ty, (Walks prog w A s.heap.objs.size [s.heap.objs.size] [s.heap.objs.size] x.cps.size (SignAt x) (fun i h => h.IsStrIter s.heap.objs.size ty x t i)) →
        Itr prog w A s.heap.objs.size (x.cps.toList.map fun c => .str ⟨#[c]⟩) V (fun i h => h.IsStrIter s.heap.objs.size ty x t i) := fun ty W =>
      { frameP := fun i h h' st hk => W.frame i h h' st fun b hb o e => by
          have : b = s.heap.objs.size := by simpa using hb
          subst this; exact hk _ (.head _) o e
        flds := fun i h st => by obtain ⟨o, ho, _, hd⟩ := st; exact ⟨o, _, ho, hd⟩
        item := fun i V' s' Q' E' hi on' sub st k' => W.item i s' Q' E' (by simpa using hi) st fun v h' tk hv st' hk' => by
          obtain ⟨c, u, hc, rfl⟩ := hv
          refine k' _ h' tk (.str ⟨#[c]⟩) ?_ (.str _ _) st' (extBut_wr hk')
          rw [List.getElem?_map]
          have : x.cps.toList[i]? = some c := by simpa using hc
          rw [this]; rfl
        done := fun V' s' Q' E' on' sub st k' => W.done s' Q' E' (by simpa using st) fun h' tk hk' => k' h' tk (extBut_wr hk')
        self := fun i s' Q' E' st hQ => W.self i s' Q' E' st hQ }
    refine wpAny_pyIter_strU ?_
    rcases ha with ha | ha
    · refine k _ (fun i h => h.IsStrIter s.heap.objs.size "str_ascii_iterator" x t i) rfl (mk _ (Walks.strAscii hh _ x t)) ⟨_, Heap.get?_push_size _ rfl, by rw [← ha], rfl⟩
    · refine k _ (fun i h => h.IsStrIter s.heap.objs.size "str_iterator" x t i) rfl (mk _ (Walks.strWide hh _ x t)) ⟨_, Heap.get?_push_size _ rfl, by rw [← ha], rfl⟩
theorem Itb.str (hh : A.handled = none) {x : Str} : Itb prog w A (.str x) (x.cps.toList.map fun c => .str ⟨#[c]⟩) := Itb.strA hh (by unfold strIterType; split <;> simp)
theorem small_of {a b : Int} (h0 : -1000 ≤ a) (h1 : a ≤ 1000) (h2 : -1000 ≤ b) (h3 : b ≤ 1000) : Builtin.Range.small a b 1 = true := by
  have f : ∀ x : Int, -2000 ≤ x → x ≤ 2000 → Builtin.Range.rangeFitsLong x = true := fun x p q => by
    unfold Builtin.Range.rangeFitsLong
    simp
    omega
  have e1 : Builtin.Range.rangeSize a b 1 = ((b - a).toNat : Int) := by
    rw [rangeSize_one]
    split <;> omega
  unfold Builtin.Range.small
  rw [f a (by omega) (by omega), f b (by omega) (by omega), f 1 (by omega) (by omega), e1, f _ (by omega) (by omega)]
  simp
  exact .inr (f b (by omega) (by omega))
theorem Itb.range (hh : A.handled = none) {a b : Int} (h0 : 0 ≤ a) (h1 : a ≤ 1000) (h2 : 0 ≤ b) (h3 : b ≤ 1000) : Itb prog w A (.rng a b) (rangeD a (b - a).toNat) := fun V s v on r Q E k => by
  cases r with
  | rng e =>
    rename_i r t u v
    have hr : IsRange s.heap r a b 1 t u v := on _ _ e
    refine wpAny_pyIter_range hr (small_of (by omega) h1 (by omega) h3) (k _ (fun i h => IsRangeIter h s.heap.objs.size (a + (i : Int) * 1) (((b - a).toNat : Int) - (i : Int)) 1) rfl ?_ ?_)
    · have W := Walks.range (prog := prog) (w := w) (A := A) hh s.heap.objs.size a 1 (b - a).toNat
      exact
        { frameP := fun i h h' st hk => hk _ (.head _) _ st
          flds := fun i h st => ⟨_, _, st, rfl⟩
          item := fun i V' s' Q' E' hi on' sub st k' => W.item i s' Q' E' (by simpa [rangeD] using hi) st fun v h' tk hv st' hk' => by
            obtain ⟨t, rfl⟩ := hv
            refine k' _ h' tk (.int (a + (i : Int))) ?_ (by have := Rd.int (V := V') (a + (i : Int)) t; simpa using this) st' (extBut_wr hk')
            have hi' : i < (b - a).toNat := by simpa [rangeD] using hi
            show ((List.range (b - a).toNat).map fun i : Nat => D.int (a + (i : Int)))[i]? = _
            rw [List.getElem?_map, List.getElem?_range hi']
            rfl
          done := fun V' s' Q' E' on' sub st k' => W.done s' Q' E' (by simpa [rangeD] using st) fun h' tk hk' => k' h' tk (extBut_wr hk')
          self := fun i s' Q' E' st hQ => W.self i s' Q' E' st hQ }
    · show Heap.get? _ _ = _
      have e1 : Builtin.Range.rangeSize a b 1 = ((b - a).toNat : Int) := by
        rw [rangeSize_one]
        split <;> omega
      rw [e1]
      simpa using Heap.get?_push_size s.heap rfl
end
end FS
end
section
set_option linter.unusedVariables false
namespace FS
open PySem PySem.Calls PySem.W PyProof.Rows

/-- an object that none of the frame's things is, is changed -/
theorem Cx.change {G : Gd} {env : Env} {ρ : Vars} {μ : List (Addr × List D)} {V : View} {h h' : Heap} {a : Addr} (c : Cx G env ρ μ V h) (hs : Heap.ExtBut a h h') (hl : a ≠ env.locals) (hc : ∀ v, ¬ h.IsCell a v) (hm : ∀ p ∈ μ, p.1 ≠ a) : Cx G env ρ μ V h' where
  base := c.base
  fm := fun p hp => by
    obtain ⟨v, at', r⟩ := c.fm p hp
    refine ⟨v, ?_, r⟩
    rcases at' with ⟨e, m, n, q⟩ | ⟨e, x, l, q⟩
    · exact .inl ⟨e, m, n.at' fun o ho => hs _ o (fun z => hl z.symm) ho, q⟩
    · refine .inr ⟨e, x, l, cell_extBut q hs fun z => ?_⟩
      subst z; exact hc _ q
  mu := fun p hp => (c.mu p hp).change hs (hm p hp)

noncomputable def PT (M : Model) (A : Around) (I : View → Heap → Prop) (ifs : List Expr) (env : Env) (b : Bool) : Prop :=
  PB M A I (forIn ifs true fun c r => if r = true then do let ok ← isTrue c env (eval c env); pure (ForInStep.yield ok) else pure (ForInStep.yield r)) b
section
variable {prog : Program} {w : World} {A : Around} {I : View → Heap → Prop} {env : Env}
theorem PT.nil : PT (model prog w) A I [] env true := fun V s on i Q E k => wpAny_tests_nil (k V s.heap s.toks (.refl on))
theorem PT.one {c : Expr} {b : Bool} (h : PB (model prog w) A I (isTrue c env (eval c env)) b) : PT (model prog w) A I [c] env b := fun V s on i Q E k => wpAny_tests_one (h V s on i Q E k)
end

/-- the names that a comprehension takes from the frame around -/
noncomputable def FreeOk (scope : Scope) (cl : List (Str × Addr)) (env : Env) (x : Str) (ρ ρ' : Vars) : Prop :=
  ∀ p ∈ ρ', p ∈ ρ ∧ (env.kindOf p.1 = some .cell ∨ env.kindOf p.1 = some .free) ∧ (∀ C, (compEnvC scope cl C env).kindOf p.1 = some .cell ∨ (compEnvC scope cl C env).kindOf p.1 = some .free) ∧ cl.lookup p.1 = env.cells.lookup p.1

section
variable {prog : Program} {w : World} {A : Around} {G : Gd} {env : Env} {ρ ρ' : Vars} {μ : List (Addr × List D)}

theorem comp_block {elt iter : Expr} {x : Str} {px : Pos} {ifs : List Expr} {scope : Scope} {cl : List (Str × Addr)} {pos : Pos} {s₂ : Shared} {I : Addr} {zs : List (D × Option D)} {St : Nat → Heap → Prop} {he : View} {V0 V : View}
    {E : Value → Shared → Prop} {RR : Value → Addr → Result → Shared → Prop}
    {P : List Addr} (it : ItrP P prog w A I (zs.map Prod.fst) V St) (hP : ∀ b ∈ P, ∃ o, s₂.heap.get? b = some o) (st : St 0 s₂.heap) (on : On V s₂.heap) (gr : GrowK he V0 V s₂.heap) (hI : he I = none) (hVI : V I = none) (cx : Cx G env ρ μ V s₂.heap) (hsz : zs.length ≤ 1000)
    (hcell : ∀ y ∈ scope.names, y.2 ≠ .cell) (hkind : scope.kind = .function) (hx : scope.names.lookup x = some .local) (hfree : FreeOk scope cl env x ρ ρ')
    (htest : ∀ C z, z ∈ zs → PT (model prog w) A (Cx G (compEnvC scope cl C env) ((x, z.1) :: ρ') μ) ifs (compEnvC scope cl C env) z.2.isSome)
    (helt : ∀ C z d, z ∈ zs → z.2 = some d → PE (model prog w) A (Cx G (compEnvC scope cl C env) ((x, z.1) :: ρ') μ) (eval elt (compEnvC scope cl C env)) d)
    (hRR : ∀ D' C V' h' tk m' ys, GrowK he V0 V' h' → s₂.heap.get? D' = none → V' D' = none → s₂.heap.get? C = none → V' C = none → he D' = none → he C = none → D' ≠ C → h'.Ns C m' → h'.PlainList D' ys →
      RdL V' ys.toList (zs.filterMap Prod.snd) → (∀ b o, V b = some o → V' b = some o) → (∀ b o, b ≠ I → s₂.heap.get? b = some o → h'.get? b = some o) → (∀ b, b ≠ I → (∃ o, s₂.heap.get? b = some o) → V b = none → V' b = none) → RR (.ref D') C (.ok .next) { s₂ with heap := h', toks := tk }) :
    wpAny (model prog w) A (newList []) (fun acc s₃ => wpAny (model prog w) A (newFunctionEnv scope env.globals cl [] env.qual none .none (some env)) (fun cenv s₄ =>
      codeAny (model prog w) A (.compStart (.ListComp elt [⟨.Name x px, iter, ifs, 0⟩] scope pos) 0 (.ref I) acc { cenv with scope := relabel scope env }) (RR acc cenv.locals) s₄) E s₃) E s₂ := by
  have hIf := it.flds _ _ st
  have hIlt : I < s₂.heap.objs.size := by obtain ⟨o, vs, ho, _⟩ := hIf; exact Heap.lt_size ho
  refine wpAny_newObj_type (wpAny_newFunctionEnv hcell (by intro y hy; simp at hy) (fun h₁ hns₁ hsb₁ => ?_) hkind)
  dsimp only at hns₁ hsb₁ ⊢
  generalize hH2 : s₂.heap.push { cls := .type "list", dict := none, data := .seq ([] : List Value).toArray } = H2 at hns₁ hsb₁ ⊢
  have hC : H2.objs.size = s₂.heap.objs.size + 1 := by rw [← hH2, Heap.size_push]
  generalize hCC : H2.objs.size = C at hns₁ hsb₁ hC ⊢
  generalize hDD : s₂.heap.objs.size = D' at hC hIlt ⊢
  have hDC : D' ≠ C := by omega
  have hID : I ≠ D' := Nat.ne_of_lt hIlt
  have hIC : I ≠ C := hC ▸ Nat.ne_of_lt (Nat.lt_succ_of_lt hIlt)
  have low : ∀ b o, s₂.heap.get? b = some o → b ≠ C ∧ b ≠ D' := fun b o e => by
    have hb : b < D' := hDD ▸ Heap.lt_size e
    exact ⟨hC ▸ Nat.ne_of_lt (Nat.lt_succ_of_lt hb), Nat.ne_of_lt hb⟩
  have hPl : ∀ b ∈ I :: P, b ≠ C ∧ b ≠ D' := fun b hb => by
    cases hb with
    | head => exact ⟨hIC, hID⟩
    | tail _ hb => obtain ⟨o, e⟩ := hP b hb; exact low b o e
  have fresh : ∀ a, D' ≤ a → s₂.heap.get? a = none := fun a ha => none_ge a (by omega)
  have old : ∀ b o, s₂.heap.get? b = some o → h₁.get? b = some o := fun b o e => by
    exact hsb₁.extBut b o (low b o e).1 (Heap.get?_push_of_some _ (hH2 ▸ Heap.get?_push_of_some _ e))
  have hacc : h₁.PlainList D' #[] := ⟨_, hsb₁.extBut _ _ hDC (Heap.get?_push_of_some _ (hH2 ▸ hDD ▸ Heap.get?_push_size _ rfl))⟩
  have leC : D' ≤ C := hC ▸ Nat.le_succ _
  have heN : ∀ b, s₂.heap.get? b = none → he b = none := fun b hb => by
    cases q : he b with
    | none => rfl
    | some o => rw [gr.keep b o q] at hb; cases hb
  have VN : ∀ b, s₂.heap.get? b = none → V b = none := fun b hb => on.none hb
  have hcxI : ∀ p ∈ μ, p.1 ≠ I := fun p hp z => by
    obtain ⟨items, hl, _⟩ := cx.mu p hp
    exact hIf.noList _ (z ▸ hl.isList)
  -- the frame within
  have cells : ∀ p ∈ ρ', ∃ v c, cl.lookup p.1 = some c ∧ s₂.heap.IsCell c (some v) ∧ Rd V v p.2 := fun p hp => by
    obtain ⟨h1, h2, h3, h4⟩ := hfree p hp
    obtain ⟨v, at', r⟩ := cx.fm p h1
    rcases at' with ⟨e, _⟩ | ⟨_, c, l, q⟩
    · rcases h2 with h2 | h2 <;> (rw [h2] at e; cases e)
    · exact ⟨v, c, h4.trans l, q, r⟩
  have start : ∀ s₃ : Shared, s₃ = { s₂ with heap := h₁, toks := s₂.toks + ([] : List (Str × Value)).length } →
      codeAny (model prog w) A (.compLoop (.ListComp elt [⟨.Name x px, iter, ifs, 0⟩] scope pos) 0 (.ref I) (.ref D') (compEnvC scope cl C env)) (RR (.ref D') C) s₃ := by
    rintro s₃ rfl
    refine codeAny_compLoop_tests
      (fun k s' => ∃ i V' h' tk m' ys, s' = { s₂ with heap := h', toks := tk } ∧ i ≤ zs.length ∧ k = zs.length + 1 - i ∧ GrowK he V0 V' h' ∧ (∀ b o, V b = some o → V' b = some o) ∧ V' C = none ∧ V' D' = none ∧ V' I = none ∧
        St i h' ∧ h'.Ns C m' ∧ h'.PlainList D' ys ∧ RdL V' ys.toList ((zs.take i).filterMap Prod.snd) ∧ (∀ b o, b ≠ I → s₂.heap.get? b = some o → h'.get? b = some o) ∧ (∀ b, b ≠ I → (∃ o, s₂.heap.get? b = some o) → V b = none → V' b = none)) ?_ (zs.length + 1)
      ⟨0, V, h₁, _, _, #[], rfl, Nat.zero_le _, rfl, gr.trans (.skip on old), fun _ _ e => e, VN _ (fresh _ (by omega)), VN _ (fresh _ (Nat.le_refl _)), hVI,
        it.frameP _ _ _ st fun b _ o e => old _ o e, hns₁, hacc, .nil, fun b o _ e => old b o e, fun b _ _ q => q⟩
    rintro k s' ⟨i, V1, h1, tk1, m1, ys, rfl, hi, rfl, g1, sub1, vC1, vD1, vI1, st1, ns1, pl1, rd1, keep1, out1⟩
    have cellI : ∀ {i h}, St i h → ∀ v, ¬ h.IsCell I v := fun st => (it.flds _ _ st).noCell
    rcases Nat.lt_or_ge i zs.length with hlt | hge
    · refine it.item i V1 _ _ _ (by simpa using hlt) g1.on sub1 st1 fun v h2 tk2 d hd rv st2 ex2 => ?_
      have hz : ∃ z, zs[i]? = some z ∧ z.1 = d := by
        rw [List.getElem?_map] at hd
        cases q : zs[i]? with
        | none => rw [q] at hd; cases hd
        | some z => rw [q] at hd; exact ⟨z, rfl, by simpa using hd⟩
      obtain ⟨z, hz, rfl⟩ := hz
      have hzm : z ∈ zs := List.mem_of_getElem? hz
      have g2 : GrowK he V0 V1 h2 := g1.change ex2 hI vI1
      have ns2 : h2.Ns C m1 := ns1.at' fun o e => ex2 C o (Ne.symm hIC) e
      refine wpAny_assign_Name (wpAny_storeName_local (env := compEnvC scope cl C env) (lookup_relabel_local hx) ns2 (fun h3 ns3 sb3 => ?_) (by simp [compEnvC, relabel, hkind]))
      have g3 : GrowK he V0 V1 h3 := g2.change sb3.extBut (heN _ (fresh _ leC)) vC1
      have keep3 : ∀ b o, b ≠ I → s₂.heap.get? b = some o → h3.get? b = some o := fun b o hb e =>
        sb3.extBut b o (low b o e).1 (ex2 b o hb (keep1 b o hb e))
      have st3 : St (i + 1) h3 := it.frameP _ _ _ st2 fun b hb o e => sb3.extBut _ o (hPl b hb).1 e
      have pl3 : h3.PlainList D' ys := (pl1.extBut ex2 (Ne.symm hID)).extBut sb3.extBut hDC
      have cx3 : Cx G (compEnvC scope cl C env) ((x, z.1) :: ρ') μ V1 h3 :=
        { base := fun b o e => sub1 b o (cx.base b o e)
          fm := fun p hp => by
            cases hp with
            | head => exact ⟨v, .inl ⟨lookup_relabel_local hx, _, ns3, by simp⟩, rv⟩
            | tail _ hp =>
              obtain ⟨u, c, l, q, r⟩ := cells p hp
              refine ⟨u, .inr ⟨(hfree p hp).2.2.1 C, c, l, ?_⟩, r.mono sub1⟩
              obtain ⟨o, ho, hd'⟩ := q
              refine ⟨o, keep3 c o (fun z => ?_) ho, hd'⟩
              subst z
              exact hIf.noCell _ ⟨o, ho, hd'⟩
          mu := fun p hp => by
            obtain ⟨items, hl, rl, vn⟩ := cx.mu p hp
            have : p.1 ≠ I := hcxI p hp
            obtain ⟨o, ho⟩ := hl
            refine ⟨items, ⟨o, keep3 _ _ this ho⟩, rl.mono sub1, ?_⟩
            exact out1 p.1 this ⟨_, ho⟩ vn }
      refine htest C z hzm V1 _ g3.on cx3 _ _ fun V4 h4 tk4 g4 => ?_
      have sub4 : ∀ b o, V b = some o → V4 b = some o := fun b o e => g4.sub b o (sub1 b o e)
      have keep4 : ∀ b o, b ≠ I → s₂.heap.get? b = some o → h4.get? b = some o := fun b o hb e => g4.keep b o (keep3 b o hb e)
      have out4 : ∀ b, b ≠ I → (∃ o, s₂.heap.get? b = some o) → V b = none → V4 b = none := fun b hb ⟨o, e⟩ q => g4.out (keep3 b o hb e) (out1 b hb ⟨o, e⟩ q)
      obtain ⟨oC, esC, epC, hoC, hrC⟩ := ns3
      have vC4 : V4 C = none := g4.out hoC vC1
      have vD4 : V4 D' = none := by obtain ⟨n, e⟩ := pl3; exact g4.out e vD1
      have vI4 : V4 I = none := by obtain ⟨o, vs, ho, _⟩ := it.flds _ _ st3; exact g4.out ho vI1
      have ns4 := Heap.Ns.keeps ⟨oC, esC, epC, hoC, hrC⟩ g4.keep
      have st4 : St (i + 1) h4 := it.frameP _ _ _ st3 fun b _ o e => g4.keep _ o e
      have pl4 : h4.PlainList D' ys := pl3.at fun o e => g4.keep _ o e
      have rd4 : RdL V4 ys.toList ((zs.take i).filterMap Prod.snd) := rd1.mono g4.sub
      have tk : zs.take (i + 1) = zs.take i ++ [z] := by rw [List.take_add_one, hz]; rfl
      cases hz2 : z.2 with
      | none =>
        simp only [Option.isSome_none, Bool.false_eq_true, if_false]
        refine ⟨zs.length + 1 - (i + 1), by omega, i + 1, V4, h4, tk4, (fun y => if y = x then some v else m1 y), ys, rfl, hlt, rfl, g3.trans g4, sub4, vC4, vD4, vI4, st4, ns4, pl4, ?_, keep4, out4⟩
        rw [tk, List.filterMap_append]
        simpa [hz2] using rd4
      | some d =>
        simp only [Option.isSome_some, if_true]
        refine helt C z d hzm hz2 V4 _ g4.on (cx3.stable _ _ _ _ g4) _ _ fun y V5 h5 tk5 g5 r5 => ?_
        have hys : ys.size ≤ sizeLine := by
          have e1 := rd1.length
          have e2 : ((zs.take i).filterMap Prod.snd).length ≤ (zs.take i).length := List.length_filterMap_le _ _
          have e3 : (zs.take i).length ≤ zs.length := by rw [List.length_take]; omega
          have e4 : ys.toList.length = ys.size := by simp
          rw [sizeLine_eq]
          omega
        refine wpAny_list_append_plain (hsz := hys) (pl4.at fun o e => g5.keep _ o e) fun h6 pl6 sb6 => ?_
        have vD5 : V5 D' = none := by obtain ⟨n, e⟩ := pl4; exact g5.out e vD4
        obtain ⟨oC4, esC4, epC4, hoC4, hrC4⟩ := ns4
        refine ⟨zs.length + 1 - (i + 1), by omega, i + 1, V5, h6, tk5, (fun y => if y = x then some v else m1 y), ys.push y, rfl, hlt, rfl, ((g3.trans g4).trans g5).change sb6.extBut (heN _ (fresh _ (Nat.le_refl _))) vD5, fun b o e => g5.sub b o (sub4 b o e), g5.out hoC4 vC4, vD5, ?_, ?_, ?_, pl6, ?_, ?_, ?_⟩
        · obtain ⟨o, vs, ho, _⟩ := it.flds _ _ st4; exact g5.out ho vI4
        · exact it.frameP _ _ _ st4 fun b hb o e => sb6.extBut _ o (hPl b hb).2 (g5.keep _ o e)
        · exact (Heap.Ns.keeps ⟨oC4, esC4, epC4, hoC4, hrC4⟩ g5.keep).sameBut sb6 (Ne.symm hDC)
        · rw [tk, List.filterMap_append]
          simpa [hz2] using (rd4.mono g5.sub).append (RdL.cons r5 .nil)
        · exact fun b o hb e => sb6.extBut b o (low b o e).2 (g5.keep b o (keep4 b o hb e))
        · exact fun b hb ⟨o, e⟩ q => g5.out (keep4 b o hb e) (out4 b hb ⟨o, e⟩ q)
    · have hin : i = zs.length := by omega
      subst hin
      refine it.done V1 _ _ _ g1.on sub1 (by simpa using st1) fun h2 tk2 ex2 => ?_
      exact hRR D' C V1 h2 tk2 m1 ys (g1.change ex2 hI vI1) (fresh _ (Nat.le_refl _)) vD1 (fresh _ (by omega)) vC1 (heN _ (fresh _ (Nat.le_refl _))) (heN _ (fresh _ (by omega))) hDC (ns1.at' fun o e => ex2 C o (Ne.symm hIC) e) (pl1.extBut ex2 (Ne.symm hID))
        (by simpa using rd1) sub1 (fun b o hb e => ex2 b o hb (keep1 b o hb e)) out1
  exact codeAny_compStart_list (start _ rfl) (it.self 0 _ _ _ (it.frameP _ _ _ st fun b _ o e => old _ o e) (start _ rfl))
end
end FS
end
section
set_option linter.unusedVariables false
namespace FS
open PySem PySem.Calls PySem.W PyProof.Rows

theorem Sa.change {G : Gd} {env : Env} {he V0 V : View} {s0 s : Shared} {ρ : Vars} {μ : List (Addr × List D)} {a : Addr} {h' : Heap} (p : Sa G env he V0 s0 ρ μ V s) (hs : Heap.ExtBut a s.heap h') (hn : he a = none) (hV : V a = none)
    (hl : a ≠ env.locals) (hc : ∀ x c, env.cells.lookup x = some c → a ≠ c) (hm : ∀ q ∈ μ, q.1 ≠ a) : Sa G env he V0 s0 ρ μ V { s with heap := h' } where
  on := (p.gr.change hs hn hV).on
  cx :=
    { base := p.cx.base
      fm := fun q hq => by
        obtain ⟨v, at', r⟩ := p.cx.fm q hq
        refine ⟨v, ?_, r⟩
        rcases at' with ⟨e, m, n, q⟩ | ⟨e, x, l, q⟩
        · exact .inl ⟨e, m, n.at' fun o ho => hs _ o (fun z => hl z.symm) ho, q⟩
        · exact .inr ⟨e, x, l, cell_extBut q hs fun z => hc _ _ l z.symm⟩
      mu := fun q hq => (p.cx.mu q hq).change hs (hm q hq) }
  gr := p.gr.change hs hn hV
  rest := by rw [p.rest]
  loc := p.loc
  locNs := let ⟨m, n⟩ := p.locNs; ⟨m, n.at' fun o ho => hs _ o (fun z => hl z.symm) ho⟩
  cel := fun x q hq => by
    obtain ⟨a', b, v, c⟩ := p.cel x q hq
    exact ⟨a', b, v, cell_extBut c hs fun z => hc _ _ hq z.symm⟩
  apart := p.apart
  muOwn := p.muOwn
  muApart := p.muApart
theorem Sa.weaken {G : Gd} {env : Env} {he V0 V : View} {s0 s : Shared} {ρ ρ' : Vars} {μ : List (Addr × List D)} (p : Sa G env he V0 s0 ρ μ V s) (h : ∀ q ∈ ρ', q ∈ ρ) : Sa G env he V0 s0 ρ' μ V s :=
  { on := p.on, cx := ⟨p.cx.base, fun q hq => p.cx.fm q (h q hq), p.cx.mu⟩, gr := p.gr, rest := p.rest, loc := p.loc, locNs := p.locNs, cel := p.cel, apart := p.apart, muOwn := p.muOwn, muApart := p.muApart }

theorem View.put_sub {V : View} {a : Addr} (o : Obj) (hV : V a = none) : ∀ b o', V b = some o' → V.put a o b = some o' := fun b o' q => by
  unfold View.put
  by_cases hb : b = a
  · subst hb; rw [q] at hV; cases hV
  · rw [if_neg hb]; exact q
theorem rd_plain {V : View} {a : Addr} {ys : Array Value} {n : Nat} {ds : List D} (rd : RdL V ys.toList ds) (hV : V a = none) : Rd (V.put a { cls := .type "list", data := .seq ys n }) (.ref a) (.list ds) :=
  by
  have := View.put_self V a { cls := .type "list", data := .seq ys n }
  exact .list (items := ys.toList) (n := n) (by simpa using this) (rd.mono (View.put_sub _ hV))

structure ScOk (scope : Scope) (cl : List (Str × Addr)) (env : Env) (x : Str) : Prop where
  clos : closureFor scope env = pure cl
  cell : ∀ y ∈ scope.names, y.2 ≠ .cell
  kind : scope.kind = .function
  names : ∀ y ∈ scope.names, y.2 = .local → scope.names.lookup y.1 = some .local
  x : scope.names.lookup x = some .local

section
variable {prog : Program} {w : World} {A : Around} {G : Gd} {env : Env} {ρ ρ' : Vars} {μ : List (Addr × List D)} {dx : D}

theorem comp_run {elt iter : Expr} {x : Str} {px : Pos} {ifs : List Expr} {scope : Scope} {cl : List (Str × Addr)} {pos p1 : Pos} {zs : List (D × Option D)} {use : Option (Value → Sem Unit)} {V : View} {s : Shared} {Q : Value → Shared → Prop} {E : Value → Shared → Prop}
    (sc : ScOk scope cl env x) (hfree : FreeOk scope cl env x ρ ρ') (hit : PE (model prog w) A (Cx G env ρ μ) (eval iter env) dx) (hib : ItbG prog w A (Cx G env ρ μ) dx (zs.map Prod.fst)) (hsz : zs.length ≤ 1000)
    (htest : ∀ C z, z ∈ zs → PT (model prog w) A (Cx G (compEnvC scope cl C env) ((x, z.1) :: ρ') μ) ifs (compEnvC scope cl C env) z.2.isSome)
    (helt : ∀ C z d, z ∈ zs → z.2 = some d → PE (model prog w) A (Cx G (compEnvC scope cl C env) ((x, z.1) :: ρ') μ) (eval elt (compEnvC scope cl C env)) d)
    (hs : ∀ x, foldedSetIterable iter env x = pure x) (on : On V s.heap) (cx : Cx G env ρ μ V s.heap)
    (k : ∀ D' C V' h' tk m' ys, Grow s.heap V V' h' → s.heap.get? D' = none → V' D' = none → s.heap.get? C = none → V' C = none → D' ≠ C → h'.Ns C m' → h'.PlainList D' ys → RdL V' ys.toList (zs.filterMap Prod.snd) →
      compPost (model prog w) A E use Q (.ref D') C (.ok .next) { s with heap := h', toks := tk }) :
    wpAny (model prog w) A (comprehension (.ListComp elt [⟨.Name x px, iter, ifs, 0⟩] scope pos) scope env p1 (newList []) false (eval iter env) use) Q E s := by
  refine wpAny_comprehension_free rfl hs sc.clos sc.kind sc.names (hit V s on cx _ E fun v V1 h1 t1 g1 r1 => hib V1 _ v g1.on (cx.stable _ _ _ _ g1) r1 _ E fun o St P hf it hP st => ?_)
  have gp : Grow h1 V1 V1 (h1.push o) := Grow.pushSkip g1.on o
  have hI : h1.get? h1.objs.size = none := none_ge _ (Nat.le_refl _)
  refine comp_block (RR := fun acc C => compPost (model prog w) A E use Q acc C) it (fun b hb => let ⟨o', e⟩ := hP b hb; ⟨o', Heap.get?_push_of_some _ e⟩) st gp.on gp hI (g1.on.none hI) ((cx.stable _ _ _ _ g1).stable _ _ _ _ gp) hsz sc.cell sc.kind sc.x hfree htest helt ?_
  intro D' C V' h' tk m' ys g hD hVD hC hVC hD1 hC1 hDC hns hpl rd sub keep out
  have back : ∀ b, h1.get? b = none → s.heap.get? b = none := fun b hb => by
    cases q : s.heap.get? b with
    | none => rfl
    | some o => rw [g1.keep b o q] at hb; cases hb
  exact k D' C V' h' tk m' ys (g1.trans g) (back _ hD1) hVD (back _ hC1) hVC hDC hns hpl rd

theorem PE.comp {elt iter : Expr} {x : Str} {px : Pos} {ifs : List Expr} {scope : Scope} {cl : List (Str × Addr)} {pos : Pos} (zs : List (D × Option D))
    (sc : ScOk scope cl env x) (hfree : FreeOk scope cl env x ρ ρ') (hit : PE (model prog w) A (Cx G env ρ μ) (eval iter env) dx) (hib : ItbG prog w A (Cx G env ρ μ) dx (zs.map Prod.fst)) (hsz : zs.length ≤ 1000)
    (htest : ∀ C z, z ∈ zs → PT (model prog w) A (Cx G (compEnvC scope cl C env) ((x, z.1) :: ρ') μ) ifs (compEnvC scope cl C env) z.2.isSome)
    (helt : ∀ C z d, z ∈ zs → z.2 = some d → PE (model prog w) A (Cx G (compEnvC scope cl C env) ((x, z.1) :: ρ') μ) (eval elt (compEnvC scope cl C env)) d)
    (hs : ∀ x, foldedSetIterable iter env x = pure x := by intro _; rfl) :
    PE (model prog w) A (Cx G env ρ μ) (eval (.ListComp elt [⟨.Name x px, iter, ifs, 0⟩] scope pos) env) (.list (zs.filterMap Prod.snd)) := fun V s on cx Q E k => by
  rw [eval_ListComp]
  refine comp_run (use := none) sc hfree hit hib hsz htest helt hs on cx fun D' C V' h' tk m' ys g hD hVD hC hVC hDC hns hpl rd => ?_
  refine ⟨m', hns, fun h'' sb => ?_⟩
  have g2 : GrowK s.heap.get? V V' h'' := g.change sb.extBut hC hVC
  obtain ⟨n, e⟩ := hpl.extBut sb.extBut hDC
  exact k _ _ _ _ (g2.freeze e hD hVD) (rd_plain rd hVD)

variable {he V0 : View} {s0 : Shared} {R : Value → Asn}
theorem SaT.assignComp {elt iter : Expr} {x y : Str} {px py : Pos} {ifs : List Expr} {scope : Scope} {cl : List (Str × Addr)} {pos spos : Pos} (zs : List (D × Option D)) {ρ'' : Vars}
    (hk : env.scope.kind = .function) (hy : env.kindOf y = some .local ∨ (env.kindOf y = some .cell ∧ (env.cells.lookup y).isSome = true)) (hsub : Sub y ρ ρ'')
    (sc : ScOk scope cl env x) (hfree : FreeOk scope cl env x ρ ρ') (hit : PE (model prog w) A (Cx G env ρ μ) (eval iter env) dx) (hib : ItbG prog w A (Cx G env ρ μ) dx (zs.map Prod.fst)) (hsz : zs.length ≤ 1000)
    (htest : ∀ C z, z ∈ zs → PT (model prog w) A (Cx G (compEnvC scope cl C env) ((x, z.1) :: ρ') μ) ifs (compEnvC scope cl C env) z.2.isSome)
    (helt : ∀ C z d, z ∈ zs → z.2 = some d → PE (model prog w) A (Cx G (compEnvC scope cl C env) ((x, z.1) :: ρ') μ) (eval elt (compEnvC scope cl C env)) d)
    (hsw : swapsWith (.ListComp elt [⟨.Name x px, iter, ifs, 0⟩] scope pos) (some (.Name y py)) spos.line env = pure true)
    (hs : ∀ x, foldedSetIterable iter env x = pure x := by intro _; rfl) :
    SaT (model prog w) A G env he V0 s0 ρ μ (exec (.Assign [.Name y py] (.ListComp elt [⟨.Name x px, iter, ifs, 0⟩] scope pos) spos) env) ((y, .list (zs.filterMap Prod.snd)) :: ρ'') μ R := fun V s p Q E n r => by
  rw [exec_Assign_Name_used _ _ _ _ hsw]
  refine wpAny_bind (wpAny_standAt (wpAny_bind ?_))
  show wpAny _ A (do let _ ← comprehension (.ListComp elt [⟨.Name x px, iter, ifs, 0⟩] scope pos) scope env _ (newList []) false (eval iter env) (some (PySem.assign (.Name y py) env))) _ _ s
  refine wpAny_bind (wpAny_mono (comp_run (use := some (PySem.assign (.Name y py) env)) (Q := fun _ s' => Q .next s') sc hfree hit hib hsz htest helt hs p.on p.cx fun D' C V' h' tk m' ys g hD hVD hC hVC hDC hns hpl rd => ?_) (fun _ s' hq => wpAny_pure (wpAny_pure hq)) fun _ _ e => e)
  show wpAny _ A (PySem.assign (.Name y py) env (.ref D')) _ _ _
  obtain ⟨nn, e⟩ := hpl
  have g2 : Grow s.heap V _ h' := GrowK.freeze g e hD hVD
  have p2 := p.grow (tk := tk) g2
  obtain ⟨mL, oL, esL, epL, hoL, hrL⟩ := p.locNs
  have hCL : C ≠ env.locals := by rintro rfl; rw [hC] at hoL; cases hoL
  have hCc : ∀ x c, env.cells.lookup x = some c → C ≠ c := by
    rintro x c hc rfl
    obtain ⟨_, _, v, o, ho, _⟩ := p.cel x _ hc
    rw [hC] at ho; cases ho
  refine wpAny_assign_Name (p2.store hk hy (rd_plain rd hVD) hsub fun h3 tk3 p3 kp => ?_)
  refine ⟨m', hns.at' fun o e => kp C o hCL hCc e, fun h4 sb4 => ?_⟩
  refine n _ _ (p3.change (a := C) sb4.extBut ?_ ?_ hCL hCc ?_)
  · cases q : he C with
    | none => rfl
    | some o => rw [p.gr.keep C o q] at hC; cases hC
  · unfold View.put; rw [if_neg (Ne.symm hDC)]; exact hVC
  · rintro q hq rfl
    obtain ⟨items, ⟨o, ho⟩, _⟩ := p.cx.mu q hq
    rw [hC] at ho; cases ho
end
end FS
end
section
set_option linter.unusedVariables false
namespace FS
open PySem PySem.Calls PySem.W PyProof.Rows

section
variable {G : Gd} {env : Env} {he he' V0 V V' : View} {s0 s s' : Shared} {ρ ρ' : Vars} {μ μ' : List (Addr × List D)}
/-- one more object is held fast -/
theorem Sa.rebase {I : Addr} {o : Obj} (p : Sa G env he V0 s0 ρ μ V s) (hI : s.heap.get? I = some o) (hl : I ≠ env.locals) (hc : ∀ x c, env.cells.lookup x = some c → I ≠ c) (hm : ∀ q ∈ μ, q.1 ≠ I) : Sa G env (View.put he I o) V s0 ρ μ V s :=
  { on := p.on, cx := p.cx
    gr := ⟨fun b o' e => by
        unfold View.put at e
        by_cases hb : b = I
        · rw [if_pos hb] at e; cases e; subst hb; exact hI
        · rw [if_neg hb] at e; exact p.gr.keep b o' e, fun _ _ e => e, p.on, fun _ _ e => .inl e⟩
    rest := p.rest
    loc := ⟨p.loc.1, by unfold View.put; rw [if_neg (Ne.symm hl)]; exact p.loc.2⟩
    locNs := p.locNs
    cel := fun x c hx => let ⟨a, b, r⟩ := p.cel x c hx; ⟨a, by unfold View.put; rw [if_neg (Ne.symm (hc x c hx))]; exact b, r⟩
    apart := p.apart
    muOwn := fun q hq => by unfold View.put; rw [if_neg (hm q hq)]; exact p.muOwn q hq
    muApart := p.muApart }
theorem Sa.unbase (q : Sa G env he' V s0 ρ' μ' V' s') (p : Sa G env he V0 s0 ρ μ V s) (hk : ∀ b o, he b = some o → he' b = some o) : Sa G env he V0 s0 ρ' μ' V' s' :=
  have dn : ∀ b, he' b = none → he b = none := fun b hb => by
    cases z : he b with
    | none => rfl
    | some o => rw [hk b o z] at hb; cases hb
  { on := q.on, cx := q.cx
    gr := p.gr.behind q.gr hk
    rest := q.rest
    loc := ⟨q.loc.1, dn _ q.loc.2⟩
    locNs := q.locNs
    cel := fun x c hx => let ⟨a, b, r⟩ := q.cel x c hx; ⟨a, dn _ b, r⟩
    apart := q.apart
    muOwn := fun y hy => dn _ (q.muOwn y hy)
    muApart := q.muApart }
theorem View.put_old {I : Addr} {o : Obj} (hn : he I = none) : ∀ b o', he b = some o' → View.put he I o b = some o' := View.put_sub o hn
end

section
variable {prog : Program} {w : World} {A : Around} {G : Gd} {env : Env} {he V0 : View} {s0 : Shared} {R : Value → Asn} {dx : D}
theorem SaT.for_ {α : Type} {t : Str} {iter : Expr} {body : List Stmt} {px pos : Pos} (ds : List D) (J : Nat → α → Prop) (ρf : Nat → α → Vars) (μf : Nat → α → List (Addr × List D)) (a0 : α) (RR : View → View → Value → Asn)
    (hk : env.scope.kind = .function) (ht : env.kindOf t = some .local ∨ (env.kindOf t = some .cell ∧ (env.cells.lookup t).isSome = true)) (hJ0 : J 0 a0)
    (hit : PE (model prog w) A (Cx G env (ρf 0 a0) (μf 0 a0)) (eval iter env) dx) (hib : Itb prog w A dx ds) (hsub : ∀ i a, Sub t (ρf i a) (ρf i a))
    (hR : ∀ he' V' v V s, (∀ b o, he b = some o → he' b = some o) → (∀ b o, V0 b = some o → V' b = some o) → (∀ b o, V' b = some o → V0 b = some o ∨ he b = none) → RR he' V' v V s → R v V s)
    (hbody : ∀ he' V' i a d, J i a → ds[i]? = some d → Tr (model prog w) A (Sa G env he' V' s0 ((t, d) :: ρf i a) (μf i a)) (execs body env) (fun V s => ∃ a', J (i + 1) a' ∧ Sa G env he' V' s0 (ρf (i + 1) a') (μf (i + 1) a') V s) (RR he' V'))
    (hs : ∀ x, foldedSetIterable iter env x = pure x := by intro _; rfl) :
    Tr (model prog w) A (Sa G env he V0 s0 (ρf 0 a0) (μf 0 a0)) (exec (.For (.Name t px) iter body [] pos) env) (fun V s => ∃ a', J ds.length a' ∧ Sa G env he V0 s0 (ρf ds.length a') (μf ds.length a') V s) R := fun V s p Q E n r => by
  refine wpAny_For (hit V s p.on p.cx _ E fun v V1 h1 t1 g1 r1 => hib V1 _ v g1.on r1 _ E fun o St hf it st => ?_) hs
  have p1 := p.grow (tk := t1) g1
  have hI1 : h1.get? h1.objs.size = none := none_ge _ (Nat.le_refl _)
  have hV1I : V1 h1.objs.size = none := g1.on.none hI1
  have heI : he h1.objs.size = none := by
    cases q : he h1.objs.size with
    | none => rfl
    | some o => rw [p1.gr.keep _ o q] at hI1; cases hI1
  have hIl : h1.objs.size ≠ env.locals := by
    obtain ⟨m, o', es, ep, ho, _⟩ := p1.locNs
    rintro z; rw [← z] at ho; exact absurd ho (by rw [show _ = h1.get? h1.objs.size from rfl, hI1]; simp)
  have hIc : ∀ x c, env.cells.lookup x = some c → h1.objs.size ≠ c := by
    rintro x c hc rfl
    obtain ⟨_, _, u, o', ho, _⟩ := p1.cel x _ hc
    exact absurd ho (by rw [show _ = h1.get? h1.objs.size from rfl, hI1]; simp)
  have hIm : ∀ q ∈ μf 0 a0, q.1 ≠ h1.objs.size := by
    rintro q hq z
    obtain ⟨items, ⟨o', ho⟩, _⟩ := p1.cx.mu q hq
    rw [z] at ho
    exact absurd ho (by rw [show _ = h1.get? h1.objs.size from rfl, hI1]; simp)
  have p2 := p1.grow (tk := t1) (Grow.pushSkip g1.on o)
  generalize h1.objs.size = I at *
  generalize h1.push o = h2 at *
  refine codeAny_forLoop
    (fun k s' => ∃ i V' a, s' = { s with heap := s'.heap, toks := s'.toks } ∧ i ≤ ds.length ∧ k = ds.length + 1 - i ∧ J i a ∧ Sa G env he V0 s0 (ρf i a) (μf i a) V' s' ∧ (∀ b o, V1 b = some o → V' b = some o) ∧ V' I = none ∧ St i s'.heap ∧ (∀ q ∈ μf i a, q.1 ≠ I)) ?_ (ds.length + 1)
    ⟨0, V1, a0, rfl, Nat.zero_le _, rfl, hJ0, p2, fun _ _ e => e, hV1I, st, hIm⟩
  rintro k s' ⟨i, V', a, hs', hi, rfl, hJ, p3, sub, vI, st3, hm3⟩
  obtain ⟨oI, vsI, hoI, hdI⟩ := it.flds _ _ st3
  rcases Nat.lt_or_ge i ds.length with hlt | hge
  · refine it.item i V' s' _ _ hlt p3.on sub st3 fun v h4 tk4 d hd rv st4 ex4 => ?_
    have p4 : Sa G env he V0 s0 (ρf i a) (μf i a) V' { s' with heap := h4, toks := tk4 } := (p3.change ex4 heI vI hIl hIc hm3).grow (tk := tk4) (Grow.refl (p3.change ex4 heI vI hIl hIc hm3).on)
    refine wpAny_assign_Name (p4.store hk ht rv (hsub i a) fun h5 tk5 p5 kp => ?_)
    have st5 : St (i + 1) h5 := it.frame _ _ _ st4 fun o e => kp I o hIl hIc e
    obtain ⟨o5, vs5, ho5, hd5⟩ := it.flds _ _ st5
    have q5 := p5.rebase (I := I) (o := o5) ho5 hIl hIc hm3
    refine hbody _ _ i a d hJ hd V' _ q5 _ _ (fun V6 s6 ⟨a', hJ', q6⟩ => ?_) (fun v V6 s6 hr => ?_)
    · have ex : ∀ b o', he b = some o' → View.put he I o5 b = some o' := View.put_old heI
      have p6 := q6.unbase p5 ex
      have pI : View.put he I o5 I = some o5 := View.put_self _ _ _
      refine ⟨ds.length + 1 - (i + 1), by omega, i + 1, V6, a', ?_, hlt, rfl, hJ', p6, fun b o' e => q6.gr.sub b o' (sub b o' e), ?_, ?_, ?_⟩
      · rw [p6.rest, p.rest]
      · cases z : V6 I with
        | none => rfl
        | some o' =>
          rcases q6.gr.new I o' z with e | e
          · rw [vI] at e; cases e
          · rw [pI] at e; cases e
      · exact it.frame _ _ _ st5 fun o' e => by
          have : o' = o5 := by rw [ho5] at e; cases e; rfl
          subst this
          exact q6.gr.keep I _ pI
      · rintro q hq rfl
        have := q6.muOwn q hq
        rw [pI] at this; cases this
    · exact r _ _ _ (hR _ _ _ _ _ (View.put_old heI) p3.gr.sub (fun b o' e => p3.gr.new b o' e) hr)
  · have hin : i = ds.length := by omega
    subst hin
    refine it.done V' s' _ _ p3.on sub st3 fun h4 tk4 ex4 => ?_
    refine wpAny_execs_nil ?_
    exact n V' _ ⟨a, hJ, (p3.change ex4 heI vI hIl hIc hm3).grow (tk := tk4) (Grow.refl (p3.change ex4 heI vI hIl hIc hm3).on)⟩
end
end FS
end
section
set_option linter.unusedVariables false
namespace FS
open PySem PySem.Calls PySem.W PyProof.Rows

section
variable {prog : Program} {w : World} {A : Around} {I : View → Heap → Prop} {env : Env} {d d0 : D} {ds : List D}

/-- a built-in method of a datum -/
noncomputable def Mth (prog : Program) (w : World) (A : Around) (I : View → Heap → Prop) (d0 : D) (name : Str) (id : String) : Prop :=
  ∀ V (s : Shared) v0, On V s.heap → I V s.heap → Rd V v0 d0 → ∀ (pl : Sem Bool) (Q : Value × List Value → Shared → Prop) (E : Value → Shared → Prop), Q (.builtin id, [v0]) s → wpAny (model prog w) A (getMethod v0 name pl) Q E s
noncomputable def OpM (prog : Program) (w : World) (A : Around) (I : View → Heap → Prop) (id : String) (d0 : D) (ds : List D) (d : D) : Prop :=
  ∀ V (s : Shared) v0 vs, On V s.heap → I V s.heap → Rd V v0 d0 → RdL V vs ds → Ev (model prog w) A (call (.builtin id) (v0 :: vs)) V s d
theorem PE.meth1 {pl : Sem Bool} {o e : Expr} {rest : List Expr} {name : Str} {id : String} {apos pos : Pos} (st : Stable I) (h0 : PE (model prog w) A I (eval o env) d0) (hm : Mth prog w A I d0 name id)
    (ha : PL (model prog w) A I (spliced (backTo pos (starEach (e :: rest) env))) ds) (ho : OpM prog w A I id d0 ds d)
    (hpl : ((backTo pos (starEach (e :: rest) env)).any (·.1)) = false := by rfl) (hse : starEach (e :: rest) env = (false, eval e env) :: starEach rest env := by rfl)
    (he : eval (.Call (.Attribute o name apos) (e :: rest) [] pos) env = (do
      let ov ← eval o env
      standAt apos.atName
      let (f, first) ← holding [ov] (getMethod ov name pl)
      callWith pos f first (backTo pos (starEach (e :: rest) env)) []) := by rfl) : PE (model prog w) A I (eval (.Call (.Attribute o name apos) (e :: rest) [] pos) env) d := fun V s on i Q E k =>
  MethodCall_ (h0 V s on i _ E fun v0 V1 h1 t1 g1 r1 => hm V1 _ v0 g1.on (st _ _ _ _ i g1) r1 _ _ E
    (callWith_go (I := fun V h => I V h ∧ Rd V v0 d0) (first := [v0]) (fun _ _ _ _ x g => ⟨st _ _ _ _ x.1 g, x.2.mono g.sub⟩) (fun _ _ _ _ => keeps_builtin) (fun V s on i => ha V s on i.1)
      (fun V s on i vs r => ho V s v0 vs on i.1 i.2 r) hpl hse V1 _ g1.on ⟨st _ _ _ _ i g1, r1⟩ Q E fun v V2 s2 t2 g2 r2 => k v V2 s2 t2 (g1.trans g2) r2)) he
theorem PE.meth0 {pl : Sem Bool} {o : Expr} {name : Str} {id : String} {apos pos : Pos} (st : Stable I) (h0 : PE (model prog w) A I (eval o env) d0) (hm : Mth prog w A I d0 name id) (ho : OpM prog w A I id d0 [] d)
    (he : eval (.Call (.Attribute o name apos) [] [] pos) env = (do
      let ov ← eval o env
      standAt apos.atName
      let (f, first) ← holding [ov] (getMethod ov name pl)
      callWith pos f first (backTo pos (starEach [] env)) []) := by rfl) : PE (model prog w) A I (eval (.Call (.Attribute o name apos) [] [] pos) env) d := fun V s on i Q E k =>
  MethodCall_ (h0 V s on i _ E fun v0 V1 h1 t1 g1 r1 => hm V1 _ v0 g1.on (st _ _ _ _ i g1) r1 _ _ E
    (callWith_go0 (I := fun V h => I V h ∧ Rd V v0 d0) (first := [v0]) (fun _ _ _ _ => keeps_builtin)
      (fun V s on i vs r => ho V s v0 vs on i.1 i.2 r) V1 _ g1.on ⟨st _ _ _ _ i g1, r1⟩ Q E fun v V2 s2 t2 g2 r2 => k v V2 s2 t2 (g1.trans g2) r2)) he

theorem mth_lower {x : Str} : Mth prog w A I (.str x) "lower" "str.lower" := fun V s v0 on i r pl Q E h => by cases r; with_reducible exact GM.lower h
theorem mth_upper {x : Str} : Mth prog w A I (.str x) "upper" "str.upper" := fun V s v0 on i r pl Q E h => by cases r; with_reducible exact GM.upper h
theorem mth_join {x : Str} : Mth prog w A I (.str x) "join" "str.join" := fun V s v0 on i r pl Q E h => by cases r; with_reducible exact GM.join h
theorem mth_find {x : Str} : Mth prog w A I (.str x) "find" "str.find" := fun V s v0 on i r pl Q E h => by cases r; with_reducible exact GM.find h
theorem mth_index {xs : List D} : Mth prog w A I (.list xs) "index" "list.index" := fun V s v0 on i r pl Q E h => by
  obtain ⟨a, items, n, rfl, e, _⟩ := r.isL on
  exact getMethod_builtin ⟨_, e, rfl⟩ PySem.F.plainAttrs_list PySem.F.slot_list_index PySem.F.type_list_index (fun b q => by cases q; exact ⟨_, e, rfl⟩) h
theorem opm_lower {x : Str} (hf : Builtin.Str.tooLong (Txt.lower x).length = false := by decide +kernel) : OpM prog w A I "str.lower" (.str x) [] (.str (Txt.lower x)) := fun V s v0 vs on i r rl Q E k => by
  cases r; cases rl; exact SC.lower hf (k _ V s.heap _ (.refl on) (.str _ _))
theorem opm_upper {x : Str} (hf : Builtin.Str.tooLong (Txt.upper x).length = false := by decide +kernel) : OpM prog w A I "str.upper" (.str x) [] (.str (Txt.upper x)) := fun V s v0 vs on i r rl Q E k => by
  cases r; cases rl; exact SC.upper hf (k _ V s.heap _ (.refl on) (.str _ _))
theorem opm_find {x y : Str} : OpM prog w A I "str.find" (.str x) [.str y] (.int (Txt.find x y)) := fun V s v0 vs on i r rl Q E k => by
  cases r; obtain ⟨v, rfl, r1⟩ := rl.one; cases r1
  exact SC.find (k _ V s.heap _ (.refl on) (.int _ _))
theorem strsAre_of {V : View} : ∀ {vs : List Value} {xs : List Str}, RdL V vs (xs.map D.str) → StrsAre vs xs
  | _, [], .nil => .nil
  | _, x :: xs, .cons r q => by cases r; exact .cons _ _ (strsAre_of q)
theorem intsAre_of {V : View} : ∀ {vs : List Value} {xs : List Int}, RdL V vs (xs.map D.int) → IntsAre vs xs
  | _, [], .nil => .nil
  | _, x :: xs, .cons r q => by cases r; exact .cons _ _ (intsAre_of q)
theorem opm_join {x : Str} {xs : List Str} (h : (xs.map (·.length)).sum + xs.length * x.length ≤ 1000) : OpM prog w A I "str.join" (.str x) [.list (xs.map D.str)] (.str (Txt.join x xs)) := fun V s v0 vs on i r rl Q E k => by
  cases r; obtain ⟨v, rfl, r1⟩ := rl.one
  obtain ⟨a, items, rfl, hl, q⟩ := r1.isList on
  exact join_list hl (strsAre_of (by simpa using q)) (Nat.le_trans h (by decide)) fun t' tk => k _ V s.heap _ (.refl on) (.str _ _)

-- calls of built-ins
theorem op_len {ds : List D} (h : ds.length < 2 ^ 62 := by decide) : OpN (model prog w) A I (.builtin "len") [] [.list ds] (.int ds.length) := fun V s on i vs r Q E k => by
  obtain ⟨v, rfl, r1⟩ := r.one
  obtain ⟨a, items, rfl, hl, q⟩ := r1.isList on
  have e : items.toArray.size = ds.length := by simp [q.length]
  refine call_len_list hl (by rw [e]; omega) ?_
  rw [e]
  exact k _ V s.heap _ (.refl on) (.int _ _)
theorem op_range1 {n : Int} : OpN (model prog w) A I (.type "range") [] [.int n] (.rng 0 n) := fun V s on i vs r Q E k => by
  obtain ⟨v, rfl, r1⟩ := r.one
  cases r1
  exact call_range_1 (k _ _ _ _ (.push on _) (.rng (View.put_self ..)))
theorem op_range2 {a b : Int} : OpN (model prog w) A I (.type "range") [] [.int a, .int b] (.rng a b) := fun V s on i vs r Q E k => by
  obtain ⟨v, u, rfl, r1, r2⟩ := r.two
  cases r1; cases r2
  exact call_range_2 (k _ _ _ _ (.push on _) (.rng (View.put_self ..)))
theorem op_str_int {n : Int} (h : n.natAbs.log2 < 1920) : OpN (model prog w) A I (.type "str") [] [.int n] (.str (Str.ofString (toString n))) := fun V s on i vs r Q E k => by
  obtain ⟨v, rfl, r1⟩ := r.one
  cases r1
  exact PySem.P.str_of_int h (k _ V s.heap _ (.refl on) (.str _ _))
theorem op_max2 (hh : A.handled = none) {a b : Int} : OpN (model prog w) A I (.builtin "max") [] [.int a, .int b] (.int (if b > a then b else a)) := fun V s on i vs r Q E k => by
  obtain ⟨v, u, rfl, r1, r2⟩ := r.two
  cases r1; cases r2
  refine max_two_ints hh fun h' tk hk => k _ V h' tk (.skip on hk) ?_
  split <;> exact .int _ _
theorem op_min2 (hh : A.handled = none) {a b : Int} : OpN (model prog w) A I (.builtin "min") [] [.int a, .int b] (.int (if b < a then b else a)) := fun V s on i vs r Q E k => by
  obtain ⟨v, u, rfl, r1, r2⟩ := r.two
  cases r1; cases r2
  refine min_two_ints hh fun h' tk hk => k _ V h' tk (.skip on hk) ?_
  split <;> exact .int _ _
theorem op_list_list {ds : List D} (hs : ds.length ≤ 1000) : OpN (model prog w) A I (.type "list") [] [.list ds] (.list ds) := fun V s on i vs r Q E k => by
  obtain ⟨v, rfl, r1⟩ := r.one
  obtain ⟨a, items, n, rfl, e, q⟩ := r1.isL on
  refine call_list_seq a (.inl rfl) e rfl rfl (fun h' c' hk ho => ?_) (by have := q.length; simp; rw [sizeLine_eq]; omega)
  have g : Grow s.heap V V h' := .skip on hk
  have hn : s.heap.get? s.heap.objs.size = none := none_ge _ (Nat.le_refl _)
  exact k _ _ _ _ (GrowK.freeze g ho hn (on.none hn)) (.list (View.put_self ..) (q.mono (View.put_sub _ (on.none hn))))
end
end FS
end
section
set_option linter.unusedVariables false
namespace FS
open PySem PySem.Calls PySem.W PyProof.Rows

section
variable {prog : Program} {w : World} {A : Around} {I : View → Heap → Prop} {env : Env} {d d0 d1 d2 : D} {ds es : List D}
theorem op_add_list {xs ys : List D} (h : xs.length + ys.length ≤ 1000) : Op2 (model prog w) A I (binaryOp .Add) (.list xs) (.list ys) (.list (xs ++ ys)) := fun V s on i v1 v2 r1 r2 Q E k => by
  obtain ⟨a, ia, na, rfl, ea, qa⟩ := r1.isL on
  obtain ⟨b, ib, nb, rfl, eb, qb⟩ := r2.isL on
  refine PySem.P.add_list ea eb ?_ (by have := qa.length; have := qb.length; simp; rw [sizeLine_eq]; omega)
  exact k _ _ _ _ (.push on _) (.list (items := ia ++ ib) (n := 0) (by simpa using View.put_self V s.heap.objs.size _) ((qa.append qb).mono (Grow.push on _).sub))

-- slices
noncomputable def pickD (ds : List D) (lo hi st : Option Int) : List D := (sliceRange (sliceBounds lo hi st ds.length).1 (sliceBounds lo hi st ds.length).2.1 (sliceBounds lo hi st ds.length).2.2).filterMap (ds[·]?)
theorem rdL_pick {V : View} {vs : List Value} (r : RdL V vs ds) : ∀ l : List Nat, RdL V (l.filterMap (vs[·]?)) (l.filterMap (ds[·]?))
  | [] => .nil
  | i :: l => by
    have ih := rdL_pick r l
    cases h : ds[i]? with
    | none =>
      have h' : vs[i]? = none := by
        rw [List.getElem?_eq_none_iff] at h ⊢
        rw [r.length]; exact h
      simpa [List.filterMap_cons, h, h'] using ih
    | some d =>
      obtain ⟨v, hv, rv⟩ := r.get h
      simpa [List.filterMap_cons, h, hv] using RdL.cons rv ih
noncomputable def PPart (M : Model) (A : Around) (I : View → Heap → Prop) (e : Option Expr) (env : Env) (o : Option Int) : Prop :=
  ∀ V s, On V s.heap → I V s.heap → ∀ (Q : Value → Shared → Prop) (E : Value → Shared → Prop), (∀ v V' h' tk, Grow s.heap V V' h' → IsPart v o → Q v { s with heap := h', toks := tk }) → wpAny M A (evalPart e env) Q E s
theorem PPart.none : PPart (model prog w) A I Option.none env Option.none := fun V s on i Q E k => wpAny_pure (k .none V s.heap s.toks (.refl on) .none)
theorem PPart.some {e : Expr} {n : Int} (h : PE (model prog w) A I (eval e env) (.int n)) : PPart (model prog w) A I (Option.some e) env (Option.some n) := fun V s on i Q E k =>
  h V s on i Q E fun v V' h' tk g r => by cases r; exact k _ V' h' tk g (.int _ _)
theorem PE.slice {value : Expr} {lo hi st : Option Expr} {p pos : Pos} {a b c : Option Int} (sb : Stable I) (h0 : PE (model prog w) A I (eval value env) (.list ds)) (ha : PPart (model prog w) A I lo env a) (hb : PPart (model prog w) A I hi env b) (hc : PPart (model prog w) A I st env c)
    (hz : c ≠ Option.some 0 := by decide) (hsz : ds.length ≤ 1000)
    (hs : ∀ x y : Addr, ∃ ops, subscripted (.Slice lo hi st p) false (.ref x) (.ref y) = operate ops (getItem (.ref x) (.ref y)) := by intro x y; exact ⟨[.ref y, .ref x], by with_unfolding_all rfl⟩) :
    PE (model prog w) A I (eval (.Subscript value (.Slice lo hi st p) pos) env) (.list (pickD ds a b c)) := fun V s on i Q E k =>
  Subscript_ (h0 V s on i _ E fun v0 V1 h1 t1 g1 r1 => wpAny_Slice (ha V1 _ g1.on (sb _ _ _ _ i g1) _ E fun va V2 h2 t2 g2 pa => hb V2 _ g2.on (sb _ _ _ _ (sb _ _ _ _ i g1) g2) _ E fun vb V3 h3 t3 g3 pb =>
    hc V3 _ g3.on (sb _ _ _ _ (sb _ _ _ _ (sb _ _ _ _ i g1) g2) g3) _ E fun vc V4 h4 t4 g4 pc => by
      have r4 := ((r1.mono g2.sub).mono g3.sub).mono g4.sub
      obtain ⟨x, items, n, rfl, e, q⟩ := r4.isL g4.on
      obtain ⟨ops, ho⟩ := hs x h4.objs.size
      have g5 : Grow h4 V4 V4 (h4.push { cls := .type "slice", data := .fields #[va, vb, vc] }) := Grow.pushSkip g4.on _
      have hl5 : (h4.push { cls := .type "slice", data := .fields #[va, vb, vc] }).IsList x items.toArray := ⟨_, g5.keep _ _ e, rfl, _, rfl⟩
      refine tail_any (Heap.IsList.typeIs (s := { s with heap := h4.push { cls := .type "slice", data := .fields #[va, vb, vc] }, toks := t4 }) hl5) list_getitem_lookup
        (wpAny_getItem_list_slice hl5 (Heap.IsSliceOf.new ..) pa pb pc hz ?_ (by have := q.length; simp; rw [sizeLine_eq]; omega)) ho
      have e1 : slicePick items.toArray a b c = ((sliceRange (sliceBounds a b c ds.length).1 (sliceBounds a b c ds.length).2.1 (sliceBounds a b c ds.length).2.2).filterMap (items[·]?)).toArray := by
        unfold slicePick
        have : items.toArray.size = ds.length := by simp [q.length]
        rw [this]
        simp
      rw [e1]
      refine k _ _ _ _ ((((g1.trans g2).trans g3).trans g4).trans (g5.trans (.push g5.on _))) (.list (n := 0) (View.put_self ..) ((rdL_pick q _).mono (Grow.push g5.on _).sub))))

-- one sign of a text
theorem op_item_str {value slice : Expr} {x : Str} {k : Int} {c : Nat} (h0 : 0 ≤ k) (hk : k < 1000) (hx : (seqIndex? k x.length).bind (x.cps[·]?) = some c) (hs : ∀ t i u, subscripted slice false (.str x t) (.int i u) = operate [.str x t, .int i u] (getItem (.str x t) (.int i u)) := by intro _ _ _; with_unfolding_all rfl) :
    Op2 (model prog w) A I (subscriptTail value slice) (.str x) (.int k) (.str ⟨#[c]⟩) := fun V s on i v1 v2 r1 r2 Q E q => by
  cases r1; cases r2
  refine tail_any (typeIs_str _ _ _) PySem.F.slot_str_getitem.lookup ?_ (hs _ _ _)
  exact getItem_gives (typeIs_str _ _ _) (by decide) PySem.F.slot_str_getitem PySem.F.entry_str_getitem (PySem.F.args_str_getitem_2 _ _) (gives_str_getitem x k _ _ c (by simp; omega) hx) ⟨(by show 1 ≤ sizeLine; decide), q _ V s.heap _ (.refl on) (.str _ _)⟩

-- equality of data
mutual
noncomputable def D.py : D → PyData
  | .none => .none
  | .bool b => .bool b
  | .int i => .int i
  | .str x => .str x
  | .list ds => .list (D.pys ds)
  | .tup ds => .tuple (D.pys ds)
  | .rng _ _ => .none
  | .val _ => .none
  | .held _ => .none
noncomputable def D.pys : List D → List PyData
  | [] => []
  | d :: ds => d.py :: D.pys ds
end
mutual
noncomputable def D.plain : D → Bool
  | .none | .bool _ | .int _ | .str _ => true
  | .list ds | .tup ds => D.plains ds
  | .rng _ _ | .val _ | .held _ => false
noncomputable def D.plains : List D → Bool
  | [] => true
  | d :: ds => d.plain && D.plains ds
end
mutual
theorem Rd.reads {V : View} {h : Heap} (on : On V h) : ∀ {v : Value} {d : D}, Rd V v d → d.plain = true → ∃ as, Reads h v d.py as
  | _, _, .none, _ => ⟨_, .none⟩
  | _, _, .bool b, _ => ⟨_, .bool b⟩
  | _, _, .int i t, _ => ⟨_, .int i t⟩
  | _, _, .str x t, _ => ⟨_, .str x t⟩
  | _, _, .list (ds := ds) e r, hp => by
    obtain ⟨as, q⟩ := RdL.reads on r (by simpa [D.plain] using hp)
    exact ⟨_, by rw [D.py]; exact .list (on _ _ e) rfl rfl (by simpa using q)⟩
  | _, _, .tup (ds := ds) e r, hp => by
    obtain ⟨as, q⟩ := RdL.reads on r (by simpa [D.plain] using hp)
    exact ⟨_, by rw [D.py]; exact .tuple (on _ _ e) rfl rfl (by simpa using q)⟩
theorem RdL.reads {V : View} {h : Heap} (on : On V h) : ∀ {vs : List Value} {ds : List D}, RdL V vs ds → D.plains ds = true → ∃ as, ReadsAll h vs (D.pys ds) as
  | _, _, .nil, _ => ⟨_, .nil⟩
  | _, _, .cons (d := d) (ds := ds) a r, hp => by
    have hp' : d.plain = true ∧ D.plains ds = true := by simpa [D.plains] using hp
    obtain ⟨as, q⟩ := Rd.reads on a hp'.1
    obtain ⟨bs, q'⟩ := RdL.reads on r hp'.2
    exact ⟨_, .cons q q'⟩
end
noncomputable def D.fit (d : D) : Bool := d.plain && SeqAt.shaped d.py
theorem op_eq_deep (hu : A.units + 64 < cLine) (f1 : d1.fit = true) (f2 : d2.fit = true) : Op2 (model prog w) A I (compareOp .Eq) d1 d2 (.bool (PyData.eqv d1.py d2.py)) := fun V s on i v1 v2 r1 r2 Q E k => by
  obtain ⟨p1, s1⟩ := Bool.and_eq_true_iff.mp f1
  obtain ⟨p2, s2⟩ := Bool.and_eq_true_iff.mp f2
  obtain ⟨as, q1⟩ := r1.reads on p1
  obtain ⟨bs, q2⟩ := r2.reads on p2
  exact SeqAt.compareEq_shaped q1 q2 s1 s2 hu (k _ V s.heap s.toks (.refl on) (.bool _))
theorem op_ne_deep (hu : A.units + 64 < cLine) (f1 : d1.fit = true) (f2 : d2.fit = true) : Op2 (model prog w) A I (compareOp .NotEq) d1 d2 (.bool (!PyData.eqv d1.py d2.py)) := fun V s on i v1 v2 r1 r2 Q E k => by
  obtain ⟨p1, s1⟩ := Bool.and_eq_true_iff.mp f1
  obtain ⟨p2, s2⟩ := Bool.and_eq_true_iff.mp f2
  obtain ⟨as, q1⟩ := r1.reads on p1
  obtain ⟨bs, q2⟩ := r2.reads on p2
  exact SeqAt.compareNe_shaped q1 q2 s1 s2 hu (k _ V s.heap s.toks (.refl on) (.bool _))
theorem op_sum (hh : A.handled = none) {ns : List Int} (hs : ns.length ≤ 1000) : OpN (model prog w) A I (.builtin "sum") [] [.list (ns.map D.int)] (.int ns.sum) := fun V s on i vs r Q E k => by
  obtain ⟨v, rfl, r1⟩ := r.one
  obtain ⟨a, items, rfl, hl, q⟩ := r1.isList on
  have hi := intsAre_of q
  obtain ⟨xs, hx⟩ := hi.allInts.items
  have hl' : s.heap.IsList a (intItems xs) := hx ▸ hl
  refine sum_intListG hh hl' fun h' tk t' hk => ?_
  have e1 : ns = xs.toList.map (·.1) := by
    rw [← nums_intItems, ← hx]
    exact (show numsOf items.toArray.toList = ns from hi.numsOf).symm
  have e2 : preSum (numAt xs) xs.size = ns.sum := by
    rw [preSum_eq, List.take_of_length_le (by simp), e1]
  rw [e2]
  exact k _ V h' tk (.skip on hk) (.int _ _)
end
end FS
end
section
set_option linter.unusedVariables false
set_option maxRecDepth 100000
namespace FS
open PySem PySem.Calls PySem.W PyProof.Rows

/-- room for n more frames -/
structure Room (A : Around) (n : Nat) : Prop where
  dep : A.depth + n ≤ 400
  hh : A.handled = none
  un : A.units + 3 * n ≤ 400
theorem Room.deeper {A : Around} {n : Nat} (r : Room A (n + 1)) (env : Env) : Room (A.deeper env) n :=
  ⟨by rw [depth_deeper]; have := r.dep; omega, r.hh, by rw [units_deeper]; have := r.un; omega⟩
theorem Room.less {A : Around} {n m : Nat} (r : Room A n) (h : m ≤ n) : Room A m := ⟨by have := r.dep; omega, r.hh, by have := r.un; omega⟩
theorem Room.lt {A : Around} {n : Nat} (r : Room A n) : A.depth < recursionLimit := by have := r.dep; show A.depth < 1000; omega
theorem Room.cl {A : Around} {n : Nat} (r : Room A n) : A.units + 64 < cLine := by have := r.un; rw [cLine_is]; omega

section
variable {prog : Program} {w : World} {A : Around} {I : View → Heap → Prop} {env : Env} {d : D}
theorem PB.plain {e : Expr} {whole : Sem Value} {b : Bool} (h : PE (model prog w) A I whole (.bool b)) (he : isTrue e env whole = (do let v ← whole; standAt e.pos; holding [v] (truthy v)) := by rfl) : PB (model prog w) A I (isTrue e env whole) b :=
  fun V s on i Q E k => isTrue_plain (h V s on i _ E fun v V1 s1 t1 g1 r1 => by cases r1; exact wpAny_truthy_bool (k V1 s1 t1 g1)) he
theorem PB.not {e : Expr} {pos : Pos} {whole : Sem Value} {b : Bool} (h : PB (model prog w) A I (isTrue e env (eval e env)) b) : PB (model prog w) A I (isTrue (.UnaryOp .Not e pos) env whole) (!b) :=
  fun V s on i Q E k => isTrue_not (h V s on i _ E fun V1 s1 t1 g1 => k V1 s1 t1 g1)
theorem op_isnot_none {d : D} (b : Bool) (hb : (∀ V v, Rd V v d → (v == .none) = !b)) : Op2 (model prog w) A I (compareOp .IsNot) d .none (.bool b) := fun V s on i v1 v2 r1 r2 Q E k => by
  cases r2
  refine isnot_none_gen ?_
  rw [hb V v1 r1]
  have : (!!b) = b := by cases b <;> rfl
  rw [this]
  exact k _ V s.heap s.toks (.refl on) (.bool _)
theorem str_notNone {x : Str} : ∀ V v, Rd V v (.str x) → (v == Value.none) = !true := fun V v r => by cases r; rfl
theorem none_isNone : ∀ V v, Rd V v D.none → (v == Value.none) = !false := fun V v r => by cases r; rfl
theorem list_notNone {x : List D} : ∀ V v, Rd V v (.list x) → (v == Value.none) = !true := fun V v r => by cases r; rfl
theorem int_notNone {x : Int} : ∀ V v, Rd V v (.int x) → (v == Value.none) = !true := fun V v r => by cases r; rfl
end

theorem Tr.falso {M : Model} {A : Around} {t : Sem Flow} {N : Asn} {R : Value → Asn} : Tr M A (fun _ _ => False) t N R := fun _ _ p => p.elim
-- the tables
noncomputable def b1List : List Int := [173, 847, 6150, 6155, 6156, 6157, 8203, 8204, 8205, 8288, 65279, 65024, 65025, 65026, 65027, 65028, 65029, 65030, 65031, 65032, 65033, 65034, 65035, 65036, 65037, 65038, 65039]
noncomputable def b1Has (c : Int) : Bool := b1List.contains c
noncomputable def tabK : List (Option Expr) → List Expr → List (Int × Str)
  | some (.Constant (.int k) _ _) :: ks, .Constant (.str x) _ _ :: vs => (k, x) :: tabK ks vs
  | _, _ => []
noncomputable def tabOf : Stmt → List (Int × Str)
  | .Assign _ (.Dict ks vs _) _ => tabK ks vs
  | _ => []
noncomputable def b3Tab : List (Int × Str) := tabOf (stm 9)
noncomputable def b3Dat : List (Int × PyData) := b3Tab.map fun p => (p.1, .str p.2)

/-- the text's own ground -/
structure GF (w : World) (G : Gd) : Prop where
  kin : Frag.In (KT w.params) G.h₁
  g_strcoll : G.mg "_strcoll" = some (.ref 45)
  g_grouping : G.mg "_grouping_intervals" = some (.ref 52)
  g_charmax : ∃ t, G.mg "CHAR_MAX" = some (.int 127 t)
  g_b1 : G.mg "b1_set" = some (.ref 60)
  g_inb1 : G.mg "in_table_b1" = some (.ref 70)
  g_b3 : G.mg "b3_exceptions" = some (.ref 71)
  g_map : G.mg "map_table_b3" = some (.ref 116)
  g_nre : G.mg "_name_disallowed_re" = some (.ref 121)
  g_vre : G.mg "_value_disallowed_re" = some (.ref 126)
  g_headers : G.mg "Headers" = some (.ref 249)
  g_typed : G.mg "_law_typed" = some (.ref 260)
  g_plain : G.mg "_law_plain" = some (.ref 265)
  g_take : G.mg "_law_take" = some (.ref 270)
  g_counts : G.mg "_law_counts" = some (.ref 275)
  g_undone : G.mg "_law_undone" = some (.ref 282)
  b_chr : G.mg "chr" = none ∧ G.mb "chr" = some (.builtin "chr")
  b_ord : G.mg "ord" = none ∧ G.mb "ord" = some (.builtin "ord")
  b_len : G.mg "len" = none ∧ G.mb "len" = some (.builtin "len")
  b_range : G.mg "range" = none ∧ G.mb "range" = some (.type "range")
  b_str : G.mg "str" = none ∧ G.mb "str" = some (.type "str")
  b_list : G.mg "list" = none ∧ G.mb "list" = some (.type "list")
  b_type : G.mg "type" = none ∧ G.mb "type" = some (.type "type")
  b_max : G.mg "max" = none ∧ G.mb "max" = some (.builtin "max")
  b_min : G.mg "min" = none ∧ G.mb "min" = some (.builtin "min")
  b_sum : G.mg "sum" = none ∧ G.mb "sum" = some (.builtin "sum")
  b_sorted : G.mg "sorted" = none ∧ G.mb "sorted" = some (.builtin "sorted")
  f_strcoll : FnAt G.h₁ 45 (stm 3) "_strcoll" .none .none
  f_grouping : FnAt G.h₁ 52 (stm 5) "_grouping_intervals" .none .none
  f_inb1 : FnAt G.h₁ 70 (stm 8) "in_table_b1" .none .none
  f_map : FnAt G.h₁ 116 (stm 10) "map_table_b3" .none .none
  f_typed : FnAt G.h₁ 260 (stm 16) "_law_typed" .none .none
  f_plain : FnAt G.h₁ 265 (stm 17) "_law_plain" .none .none
  f_take : FnAt G.h₁ 270 (stm 18) "_law_take" .none .none
  f_counts : FnAt G.h₁ 275 (stm 19) "_law_counts" .none .none
  f_undone : FnAt G.h₁ 282 (stm 20) "_law_undone" .none .none
  f_init : FnAt G.h₁ 141 (mth 14 0) "Headers.__init__" (.ref 134) .none
  f_conv : FnAt G.h₁ 148 (mth 14 1) "Headers._convert_string_type" .none .none
  f_set : FnAt G.h₁ 162 (mth 14 3) "Headers.__setitem__" .none .none
  f_del : FnAt G.h₁ 167 (mth 14 4) "Headers.__delitem__" .none .none
  f_items : FnAt G.h₁ 213 (mth 14 11) "Headers.items" .none .none
  b1 : ∀ (prog : Program) (w' : World), G.h₁.SetOf (intKind prog w') 60 b1Has 27
  b3 : KTD.Keyed G.h₁ 71 b3Dat
theorem FnAt.keeps1 {M : Model} {h h' : Heap} {f : Addr} {st : Stmt} {q : Str} {dV kV : Value} (F : FnAt h f st q dV kV) (k : ∀ b o, h.get? b = some o → h'.get? b = some o) : Keeps1 M (.ref f) h' := by
  obtain ⟨_, _, _, _, _, o, ho, hd, _⟩ := F
  exact keeps_fn (k _ _ ho) hd

section
variable {prog : Program} {w : World} {A : Around} {G : Gd} {env : Env} {ρ : Vars} {μ : List (Addr × List D)} {n : Nat} {V : View} {s : Shared}

/-- a contract of a def, as an operation -/
noncomputable def Con (prog : Program) (w : World) (A : Around) (G : Gd) (f : Addr) (ds : List D) (d : D) : Prop :=
  ∀ V (s : Shared), On V s.heap → (∀ b o, G.h₁.get? b = some o → V b = some o) → ∀ vs, RdL V vs ds → Ev (model prog w) A (call (.ref f) vs) V s d
theorem Con.op {f : Addr} {ds : List D} {d : D} (c : Con prog w A G f ds d) : OpN (model prog w) A (Cx G env ρ μ) (.ref f) [] ds d := fun V s on i vs r => c V s on i.base vs r
theorem PE.fn {x : Str} {np pos : Pos} {f : Addr} {st : Stmt} {q : Str} {dV kV : Value} {e : Expr} {rest : List Expr} {ds : List D} {d : D} (hk : env.scope.kind = .function) (hx : env.kindOf x = some .globalImplicit) (hg : env.globals = mainGlobals) (hv : G.mg x = some (.ref f)) (F : FnAt G.h₁ f st q dV kV)
    (h2 : PL (model prog w) A (Cx G env ρ μ) (spliced (backTo pos (starEach (e :: rest) env))) ds) (c : Con prog w A G f ds d)
    (hpl : ((backTo pos (starEach (e :: rest) env)).any (·.1)) = false := by rfl) (he : starEach (e :: rest) env = (false, eval e env) :: starEach rest env := by rfl) (hd : (x == ("__debug__" : Str)) = false := by decide) :
    PE (model prog w) A (Cx G env ρ μ) (eval (.Call (.Name x np) (e :: rest) [] pos) env) d :=
  PE.call Cx.stable (PE.glob hk hx hg hv hd) (fun V h on c => F.keeps1 (c.old on)) h2 c.op hpl he

theorem strcoll_ok {x y : Str} (F : GF w G) (R : Room A (n + 1)) : Con prog w A G 45 [.str x, .str y] (.int ((decide (y.cps.toList < x.cps.toList)).toInt - (decide (x.cps.toList < y.cps.toList)).toInt)) := fun V s on base vs r => by
  obtain ⟨v1, v2, rfl, r1, r2⟩ := r.two
  refine fn_pure (ρ := [(Str.ofString "a", .str x), (Str.ofString "b", .str y)]) (binds := [(Str.ofString "a", _), (Str.ofString "b", _)]) F.f_strcoll R.lt on base (fun _ _ _ _ _ => rfl) ?_ ?_ ?_
  · intro L p hp
    simp only [List.mem_cons, List.not_mem_nil, or_false] at hp
    rcases hp with rfl | rfl <;> exact .inl rfl
  · intro L code p hp
    simp only [List.mem_cons, List.not_mem_nil, or_false] at hp
    rcases hp with rfl | rfl
    · exact ⟨_, r1, .inl ⟨rfl, rfl⟩⟩
    · exact ⟨_, r2, .inl ⟨rfl, rfl⟩⟩
  · intro L code
    refine Tr.last ?_
    refine SaT.ret (PE.binop Cx.stable (PE.compare Cx.stable (PE.name rfl (.head _)) (PE.name rfl (.tail _ (.head _))) op_gt_str) (PE.compare Cx.stable (PE.name rfl (.head _)) (PE.name rfl (.tail _ (.head _))) op_lt_str) op_sub_bool) fun V s v p r => p.done r

theorem inb1_ok {c : Nat} (F : GF w G) (R : Room A (n + 1)) : Con prog w A G 70 [.str ⟨#[c]⟩] (.bool (b1Has c)) := fun V s on base vs r => by
  obtain ⟨v1, rfl, r1⟩ := r.one
  refine fn_pure (ρ := [(Str.ofString "code", .str ⟨#[c]⟩)]) (binds := [(Str.ofString "code", _)]) F.f_inb1 R.lt on base (fun _ _ _ _ _ => rfl) ?_ ?_ ?_
  · intro L p hp
    simp only [List.mem_cons, List.not_mem_nil, or_false] at hp
    subst hp
    exact .inl rfl
  · intro L code p hp
    simp only [List.mem_cons, List.not_mem_nil, or_false] at hp
    subst hp
    exact ⟨_, r1, .inl ⟨rfl, rfl⟩⟩
  · intro L code
    refine Tr.last ?_
    refine SaT.ret (PE.compare Cx.stable (PE.call Cx.stable (PE.blt rfl rfl rfl rfl F.b_ord.1 F.b_ord.2) (fun _ _ _ _ => keeps_builtin) (PL.cons Cx.stable (PE.name rfl (.head _)) PL.nil) op_ord) (PE.glob rfl rfl rfl F.g_b1) ?_) fun V s v p r => p.done r
    intro V s on cx v1 v2 r1 r2 Q E k
    cases r1; cases r2
    obtain ⟨o, es, ep, t, ho, q⟩ := F.b1 prog w
    exact wpAny_inSet_of (intKind_is prog w _ _) rfl ⟨o, es, ep, t, cx.old on _ _ ho, q⟩ (k _ V s.heap _ (.refl on) (.bool _))

noncomputable def b3At (c : Nat) : D := match KTD.datumAt (c : Int) b3Tab with
  | some x => .str x
  | none => .none
theorem dAt_map {k : Int} {β γ : Type} (f : β → γ) : ∀ {D : List (Int × β)}, KTD.datumAt k (D.map fun p => (p.1, f p.2)) = (KTD.datumAt k D).map f
  | [] => rfl
  | (i, d) :: D => by
    show (if decide (k = i) = true then some (f d) else KTD.datumAt k (D.map fun p => (p.1, f p.2))) = (if decide (k = i) = true then some d else KTD.datumAt k D).map f
    rw [dAt_map]
    split <;> rfl
theorem mth_b3 (F : GF w G) : Mth prog w A (Cx G env ρ μ) (.val (.ref 71)) "get" "dict.get" := fun V s v0 on cx r pl Q E h => by
  cases r
  exact KTD.getMethod_keyed F.b3 (cx.old on) h
theorem opm_b3 (F : GF w G) {c : Nat} : OpM prog w A (Cx G env ρ μ) "dict.get" (.val (.ref 71)) [.int c] (b3At c) := fun V s v0 vs on cx r rl Q E k => by
  cases r
  obtain ⟨v, rfl, r1⟩ := rl.one
  cases r1
  refine call_get1_intTab (F.b3.keep (cx.old on) prog w) fun v hv => ?_
  rw [KTD.lookup_keyed] at hv
  have e : KTD.datumAt (c : Int) b3Dat = (KTD.datumAt (c : Int) b3Tab).map PyData.str := dAt_map _
  rw [e] at hv
  refine k _ V s.heap _ (.refl on) ?_
  unfold b3At
  cases q : KTD.datumAt (c : Int) b3Tab with
  | none => rw [q] at hv; have hv' : PyProof.V.Flat v .none := hv; rw [hv'.none_inv]; exact .none
  | some x => rw [q] at hv; have hv' : PyProof.V.Flat v (.str x) := hv; obtain ⟨t, rfl⟩ := hv'.str_inv; exact .str _ _

/-- what map_table_b3 answers -/
noncomputable def map3 (c : Nat) : Str := (KTD.datumAt (c : Int) b3Tab).getD (Txt.lower ⟨#[c]⟩)
theorem map3_ok {c : Nat} (F : GF w G) (R : Room A (n + 1)) (hf : Builtin.Str.tooLong (Txt.lower ⟨#[c]⟩).length = false) : Con prog w A G 116 [.str ⟨#[c]⟩] (.str (map3 c)) := fun V s on base vs r => by
  obtain ⟨v1, rfl, r1⟩ := r.one
  refine fn_pure (ρ := [(Str.ofString "code", .str ⟨#[c]⟩)]) (binds := [(Str.ofString "code", _)]) F.f_map R.lt on base (fun _ _ _ _ _ => rfl) ?_ ?_ ?_
  · intro L p hp
    simp only [List.mem_cons, List.not_mem_nil, or_false] at hp
    subst hp
    exact .inl rfl
  · intro L code p hp
    simp only [List.mem_cons, List.not_mem_nil, or_false] at hp
    subst hp
    exact ⟨_, r1, .inl ⟨rfl, rfl⟩⟩
  · intro L code
    refine Tr.cons (SaT.assign rfl (.inl rfl) (PE.meth1 Cx.stable (PE.glob rfl rfl rfl F.g_b3) (mth_b3 F) (PL.cons Cx.stable (PE.call Cx.stable (PE.blt rfl rfl rfl rfl F.b_ord.1 F.b_ord.2) (fun _ _ _ _ => keeps_builtin) (PL.cons Cx.stable (PE.name rfl (.head _)) PL.nil) op_ord) PL.nil) (opm_b3 F)) (.cons (by show Str.ofString "code" ≠ Str.ofString "r"; decide) .nil)) ?_
    cases q : KTD.datumAt (c : Int) b3Tab with
    | some x =>
      refine Tr.cons (N := fun _ _ => False) (SaT.if_ (c := true) (PB.compare Cx.stable (PE.name rfl (.head _)) PE.cNone (op_isnot_none _ ?_)) (fun hc => ?_) (fun hc => nomatch hc)) Tr.falso
      · intro V' v rv
        unfold b3At at rv
        rw [q] at rv; cases rv; rfl
      · refine Tr.last (SaT.ret (PE.name (d := .str x) rfl (by unfold b3At; rw [q]; exact .head _)) fun V s v p r => ?_)
        have : map3 c = x := by unfold map3; rw [q]; rfl
        rw [this]
        exact p.done r
    | none =>
      refine Tr.cons (SaT.if_ (c := false) (PB.compare Cx.stable (PE.name rfl (.head _)) PE.cNone (op_isnot_none _ ?_)) (fun hc => nomatch hc) (fun hc => Tr.nil fun _ _ n => n)) ?_
      · intro V' v rv
        unfold b3At at rv
        rw [q] at rv; cases rv; rfl
      · refine Tr.last (SaT.ret (PE.meth0 Cx.stable (PE.name rfl (.tail _ (.head _))) mth_lower (opm_lower hf)) fun V s v p r => ?_)
        have : map3 c = Txt.lower ⟨#[c]⟩ := by unfold map3; rw [q]; rfl
        rw [this]
        exact p.done r

/-- what _law_plain answers -/
noncomputable def plainL (x : Str) : List Str := (x.cps.toList.filter fun c : Nat => !b1Has c).map map3
noncomputable def plainS (x : Str) : Str := Txt.join (Str.ofString "") (plainL x)
noncomputable def textOk (x : Str) : Bool := decide (x.cps.size ≤ 10) && x.cps.toList.all fun c => !Builtin.Str.tooLong (Txt.lower ⟨#[c]⟩).length && decide ((map3 c).length ≤ 50)
noncomputable def signZ (c : Nat) : D × Option D := (.str ⟨#[c]⟩, if b1Has c then none else some (.str (map3 c)))
theorem signZ_fst (l : List Nat) : (l.map signZ).map Prod.fst = l.map fun c => D.str ⟨#[c]⟩ := by rw [List.map_map]; rfl
theorem signZ_snd : ∀ l : List Nat, (l.map signZ).filterMap Prod.snd = ((l.filter fun c : Nat => !b1Has c).map map3).map D.str
  | [] => rfl
  | c :: l => by
    have ih := signZ_snd l
    rw [List.map_cons, List.filterMap_cons, List.filter_cons]
    unfold signZ at ih ⊢
    cases h : b1Has c <;> simp [ih]
theorem sum_lens : ∀ (l : List Str) (b : Nat), (∀ y ∈ l, y.length ≤ b) → (l.map (·.length)).sum ≤ l.length * b
  | [], b, _ => by simp
  | y :: l, b, h => by
    have h1 := h y (.head _)
    have h2 := sum_lens l b fun z hz => h z (.tail _ hz)
    rw [List.map_cons, List.sum_cons, List.length_cons, Nat.succ_mul]
    omega
theorem plain_ok {x : Str} (F : GF w G) (R : Room A (n + 2)) (hx : textOk x = true) : Con prog w A G 265 [.str x] (.str (plainS x)) := fun V s on base vs r => by
  obtain ⟨v1, rfl, r1⟩ := r.one
  unfold textOk at hx
  rw [Bool.and_eq_true, decide_eq_true_eq, List.all_eq_true] at hx
  obtain ⟨hx1, hx2⟩ := hx
  have hs : ∀ c ∈ x.cps.toList, Builtin.Str.tooLong (Txt.lower ⟨#[c]⟩).length = false ∧ (map3 c).length ≤ 50 := fun c hc => by
    have := hx2 c hc
    simpa using this
  refine fn_pure (ρ := [(Str.ofString "text", .str x)]) (binds := [(Str.ofString "text", _)]) F.f_plain R.lt on base (fun _ _ _ _ _ => rfl) ?_ ?_ ?_
  · intro L p hp
    simp only [List.mem_cons, List.not_mem_nil, or_false] at hp
    subst hp
    exact .inl rfl
  · intro L code p hp
    simp only [List.mem_cons, List.not_mem_nil, or_false] at hp
    subst hp
    exact ⟨_, r1, .inl ⟨rfl, rfl⟩⟩
  · intro L code
    have R1 := R.deeper (envOf (stm 17) "_law_plain" 265 L code)
    refine Tr.last (SaT.ret (PE.meth1 Cx.stable PE.cStr mth_join (PL.cons Cx.stable (PE.comp (x.cps.toList.map signZ) (ρ' := []) ⟨rfl, by decide, rfl, by decide, rfl⟩ (fun p hp => nomatch hp) (PE.name rfl (.head _)) (by rw [signZ_fst]; exact (Itb.str R1.hh).toG) (by simp; omega) ?_ ?_) PL.nil) ?_) fun V s v p r => p.done r)
    · intro C z hz
      obtain ⟨c, hc, rfl⟩ := List.mem_map.mp hz
      refine PT.one ?_
      have e : (signZ c).2.isSome = !b1Has c := by unfold signZ; cases b1Has c <;> rfl
      rw [e]
      exact PB.not (PB.plain (PE.fn rfl rfl rfl F.g_inb1 F.f_inb1 (PL.cons Cx.stable (PE.name rfl (.head _)) PL.nil) (inb1_ok F R1)))
    · intro C z d hz hd
      obtain ⟨c, hc, rfl⟩ := List.mem_map.mp hz
      have e : d = .str (map3 c) := by
        unfold signZ at hd
        cases h : b1Has c <;> simp [h] at hd
        exact hd.symm
      subst e
      exact PE.fn rfl rfl rfl F.g_map F.f_map (PL.cons Cx.stable (PE.name rfl (.head _)) PL.nil) (map3_ok F R1 (hs c hc).1)
    · rw [signZ_snd]
      refine opm_join ?_
      have h1 := sum_lens ((x.cps.toList.filter fun c : Nat => !b1Has c).map map3) 50 fun y hy => by
        obtain ⟨c, hc, rfl⟩ := List.mem_map.mp hy
        exact (hs c (List.mem_filter.mp hc).1).2
      have h2 := List.length_filter_le (fun c : Nat => !b1Has c) x.cps.toList
      have h3 : (Str.ofString "").length = 0 := rfl
      rw [h3]
      rw [List.length_map] at h1 ⊢
      simp only [Array.length_toList] at h2
      omega
end
end FS
end
section
set_option linter.unusedVariables false
set_option maxRecDepth 100000
namespace FS
open PySem PySem.Calls PySem.W PyProof.Rows
noncomputable def typedMenu (r : Nat) : List Str :=
  if r = 0 then [⟨#[115]⟩, ⟨#[83]⟩, ⟨#[383]⟩, ⟨#[119826, 173]⟩] else
  if r = 1 then [⟨#[223]⟩, ⟨#[115, 83]⟩, ⟨#[383, 8203, 115]⟩, ⟨#[83, 120138]⟩] else
  if r = 2 then [⟨#[64261]⟩, ⟨#[64262]⟩, ⟨#[83, 8288, 116]⟩, ⟨#[383, 119827]⟩] else
  [⟨#[116]⟩, ⟨#[847, 84]⟩, ⟨#[120139]⟩, ⟨#[119827, 173]⟩]
section
variable {prog : Program} {w : World} {A : Around} {G : Gd} {n : Nat}
theorem chrK {env : Env} {ρ : Vars} {μ : List (Addr × List D)} (F : GF w G) (hk : env.scope.kind = .function) (hx : env.kindOf (Str.ofString "chr") = some .globalImplicit) (hg : env.globals = mainGlobals) (hb : env.builtins = builtinsNs) {i : Int} {np p p2 : Pos} {k : Nat} (hi0 : 0 ≤ i) (hi1 : i ≤ 1114111) :
    PE (model prog w) A (Cx G env ρ μ) (eval (.Call (.Name (Str.ofString "chr") np) [.Constant (.int i) k p] [] p2) env) (.str ⟨#[i.toNat]⟩) :=
  PE.call Cx.stable (PE.blt hk hx hg hb F.b_chr.1 F.b_chr.2) (fun _ _ _ _ => keeps_builtin) (PL.cons Cx.stable PE.cInt PL.nil) (op_chr hi0 hi1)
theorem typed_ok {r dr : Nat} {x : Str} (F : GF w G) (R : Room A (n + 1)) (h3 : r < 4) (h4 : dr < 4) (hx : (typedMenu r)[dr]? = some x) : Con prog w A G 260 [.int r, .int dr] (.str x) := fun V s on base vs rr => by
  obtain ⟨v1, v2, rfl, r1, r2⟩ := rr.two
  refine fn_pure (ρ := [(Str.ofString "rank", .int r), (Str.ofString "dress", .int dr)]) (binds := [(Str.ofString "rank", _), (Str.ofString "dress", _)]) F.f_typed R.lt on base (fun _ _ _ _ _ => rfl) ?_ ?_ ?_
  · intro L p hp
    simp only [List.mem_cons, List.not_mem_nil, or_false] at hp
    rcases hp with rfl | rfl <;> exact .inl rfl
  · intro L code p hp
    simp only [List.mem_cons, List.not_mem_nil, or_false] at hp
    rcases hp with rfl | rfl
    · exact ⟨_, r1, .inl ⟨rfl, rfl⟩⟩
    · exact ⟨_, r2, .inl ⟨rfl, rfl⟩⟩
  · intro L code
    have h62 : (dr : Int) < 2 ^ 62 := by omega
    have h0 : (0 : Int) ≤ dr := by omega
    have menu : ∀ l : List D, l = (typedMenu r).map D.str → l[(dr : Int).toNat]? = some (.str x) := fun l e => by rw [e, List.getElem?_map, Int.toNat_natCast, hx]; rfl
    have hr : r = 0 ∨ r = 1 ∨ r = 2 ∨ r = 3 := by omega
    rcases hr with rfl | rfl | rfl | rfl
    · refine Tr.cons (N := fun _ _ => False) (SaT.if_ (c := true) (PB.compare Cx.stable (PE.name rfl (.head _)) PE.cInt op_eq_int) (fun hc => ?_) (fun hc => nomatch hc)) Tr.falso
      exact Tr.last (SaT.ret (PE.item Cx.stable (PE.dList (PL.cons Cx.stable PE.cStr (PL.cons Cx.stable PE.cStr (PL.cons Cx.stable (chrK F rfl rfl rfl rfl (by decide) (by decide)) (PL.cons Cx.stable (PE.binop Cx.stable (chrK F rfl rfl rfl rfl (by decide) (by decide)) (chrK F rfl rfl rfl rfl (by decide) (by decide)) (op_add_str (by decide))) PL.nil))))) (PE.name rfl (.tail _ (.head _))) (op_item_list h0 h62 (menu _ (by kernel_rfl)))) fun V s v p r => p.done r)
    · refine Tr.cons (SaT.if_ (c := false) (PB.compare Cx.stable (PE.name rfl (.head _)) PE.cInt op_eq_int) (fun hc => nomatch hc) (fun hc => Tr.nil fun _ _ n => n)) ?_
      refine Tr.cons (N := fun _ _ => False) (SaT.if_ (c := true) (PB.compare Cx.stable (PE.name rfl (.head _)) PE.cInt op_eq_int) (fun hc => ?_) (fun hc => nomatch hc)) Tr.falso
      exact Tr.last (SaT.ret (PE.item Cx.stable (PE.dList (PL.cons Cx.stable (chrK F rfl rfl rfl rfl (by decide) (by decide)) (PL.cons Cx.stable PE.cStr (PL.cons Cx.stable (PE.binop Cx.stable (PE.binop Cx.stable (chrK F rfl rfl rfl rfl (by decide) (by decide)) (chrK F rfl rfl rfl rfl (by decide) (by decide)) (op_add_str (by decide))) PE.cStr (op_add_str (by decide))) (PL.cons Cx.stable (PE.binop Cx.stable PE.cStr (chrK F rfl rfl rfl rfl (by decide) (by decide)) (op_add_str (by decide))) PL.nil))))) (PE.name rfl (.tail _ (.head _))) (op_item_list h0 h62 (menu _ (by kernel_rfl)))) fun V s v p r => p.done r)
    · refine Tr.cons (SaT.if_ (c := false) (PB.compare Cx.stable (PE.name rfl (.head _)) PE.cInt op_eq_int) (fun hc => nomatch hc) (fun hc => Tr.nil fun _ _ n => n)) ?_
      refine Tr.cons (SaT.if_ (c := false) (PB.compare Cx.stable (PE.name rfl (.head _)) PE.cInt op_eq_int) (fun hc => nomatch hc) (fun hc => Tr.nil fun _ _ n => n)) ?_
      refine Tr.cons (N := fun _ _ => False) (SaT.if_ (c := true) (PB.compare Cx.stable (PE.name rfl (.head _)) PE.cInt op_eq_int) (fun hc => ?_) (fun hc => nomatch hc)) Tr.falso
      exact Tr.last (SaT.ret (PE.item Cx.stable (PE.dList (PL.cons Cx.stable (chrK F rfl rfl rfl rfl (by decide) (by decide)) (PL.cons Cx.stable (chrK F rfl rfl rfl rfl (by decide) (by decide)) (PL.cons Cx.stable (PE.binop Cx.stable (PE.binop Cx.stable PE.cStr (chrK F rfl rfl rfl rfl (by decide) (by decide)) (op_add_str (by decide))) PE.cStr (op_add_str (by decide))) (PL.cons Cx.stable (PE.binop Cx.stable (chrK F rfl rfl rfl rfl (by decide) (by decide)) (chrK F rfl rfl rfl rfl (by decide) (by decide)) (op_add_str (by decide))) PL.nil))))) (PE.name rfl (.tail _ (.head _))) (op_item_list h0 h62 (menu _ (by kernel_rfl)))) fun V s v p r => p.done r)
    · refine Tr.cons (SaT.if_ (c := false) (PB.compare Cx.stable (PE.name rfl (.head _)) PE.cInt op_eq_int) (fun hc => nomatch hc) (fun hc => Tr.nil fun _ _ n => n)) ?_
      refine Tr.cons (SaT.if_ (c := false) (PB.compare Cx.stable (PE.name rfl (.head _)) PE.cInt op_eq_int) (fun hc => nomatch hc) (fun hc => Tr.nil fun _ _ n => n)) ?_
      refine Tr.cons (SaT.if_ (c := false) (PB.compare Cx.stable (PE.name rfl (.head _)) PE.cInt op_eq_int) (fun hc => nomatch hc) (fun hc => Tr.nil fun _ _ n => n)) ?_
      exact Tr.last (SaT.ret (PE.item Cx.stable (PE.dList (PL.cons Cx.stable PE.cStr (PL.cons Cx.stable (PE.binop Cx.stable (chrK F rfl rfl rfl rfl (by decide) (by decide)) PE.cStr (op_add_str (by decide))) (PL.cons Cx.stable (chrK F rfl rfl rfl rfl (by decide) (by decide)) (PL.cons Cx.stable (PE.binop Cx.stable (chrK F rfl rfl rfl rfl (by decide) (by decide)) (chrK F rfl rfl rfl rfl (by decide) (by decide)) (op_add_str (by decide))) PL.nil))))) (PE.name rfl (.tail _ (.head _))) (op_item_list h0 h62 (menu _ (by kernel_rfl)))) fun V s v p r => p.done r)
end
end FS
end
section
set_option linter.unusedVariables false
set_option maxRecDepth 100000
namespace FS
open PySem PySem.Calls PySem.W PyProof.Rows
theorem slot_re_search : Slot "re.Pattern" "search" "re.Pattern.search" :=
  .of (owner := "re.Pattern") (n := "search") (by rw [typeLookup_type, builtinLookup_eq_fast]; kernel_rfl) (by decide +kernel) (by decide +kernel) (by decide +kernel)
    (by first | exact .inl (by decide +kernel) | exact .inr (by decide +kernel)) (by rw [isSubtype_type]; kernel_rfl)
theorem type_re_search : typeOf (.builtin "re.Pattern.search") = pure (.type "method_descriptor") := by show builtinType _ = _; rw [builtinType_eq_fast]; kernel_rfl
theorem entry_re_search : entryFor table "re.Pattern.search" = some Builtin.«re.Pattern.search» := entryFor_of_tree (by kernel_rfl)
theorem args_re_search (a b : Value) : argsOk "re.Pattern.search" ⟨[a, b], []⟩ := by unfold argsOk; kernel_rfl
theorem plainAttrs_re : PlainAttrs "re.Pattern" :=
  ⟨⟨"object.__getattribute__", by rw [typeLookup_type, builtinLookup_eq_fast]; kernel_rfl, by decide +kernel⟩, by rw [typeLookup_type, builtinLookup_eq_fast]; kernel_rfl⟩
/-- the search finds nothing, whatever the text's token -/
noncomputable def NoFind (P : Params) (p : Addr) (x : Str) : Prop := ∀ (prog : Program) (t : Tok), peek (KT P) ⟨prog, P⟩ (Builtin.«re.Pattern.search» ⟨[.ref p, .str x t], []⟩) = some (.done (.ret .none))
theorem noFind_a (P : Params) : NoFind P 121 ⟨#[97]⟩ := fun prog t => by kernel_rfl
theorem noFind_b (P : Params) : NoFind P 126 ⟨#[383, 8203, 115]⟩ := fun prog t => by kernel_rfl
end FS
end
section
set_option linter.unusedVariables false
set_option maxRecDepth 100000
namespace FS
open PySem PySem.Calls PySem.W PyProof.Rows

theorem hd_ga (P : Params) : findIn (KT P) (.ref 249) "__getattribute__" = some (some (.builtin "object.__getattribute__")) := by kernel_rfl
theorem hd_gat (P : Params) : findIn (KT P) (.ref 249) "__getattr__" = some none := by kernel_rfl
theorem hd_attr (P : Params) (l : Addr) (hs : Int) (t : Tok) (n : Nat) : findObj (KT P) 249 (some (heldDict l hs t n)) "_headers" = some (.value (.ref l)) := by kernel_rfl
theorem hd_noseq (P : Params) : noSeq (KT P) 249 = true := by kernel_rfl
theorem hd_items (P : Params) : findIn (KT P) (.ref 249) "items" = some (some (.ref 213)) ∧ typeIn (KT P) (.ref 213) = some (.type "function") := ⟨by kernel_rfl, by kernel_rfl⟩
theorem hd_conv (P : Params) : findIn (KT P) (.ref 249) "_convert_string_type" = some (some (.ref 148)) ∧ typeIn (KT P) (.ref 148) = some (.type "function") := ⟨by kernel_rfl, by kernel_rfl⟩
theorem hd_set (P : Params) : findIn (KT P) (.ref 249) "__setitem__" = some (some (.ref 162)) ∧ typeIn (KT P) (.ref 162) = some (.type "function") := ⟨by kernel_rfl, by kernel_rfl⟩
theorem hd_del (P : Params) : findIn (KT P) (.ref 249) "__delitem__" = some (some (.ref 167)) ∧ typeIn (KT P) (.ref 167) = some (.type "function") := ⟨by kernel_rfl, by kernel_rfl⟩
theorem Rd.inst {V : View} {h : Heap} (on : On V h) {v : Value} {l : Addr} (r : Rd V v (.held l)) : ∃ x dx hs t n, v = .ref x ∧ InstAt h x (heldObj dx) 249 (some (heldDict l hs t n)) := by
  cases r with
  | held e e' => exact ⟨_, _, _, _, _, rfl, on _ _ e, rfl, rfl, on _ _ e'⟩

noncomputable def hide (h : Heap) (l : Addr) : View := fun b => if b = l then none else h.get? b
theorem hide_self {h : Heap} {l : Addr} : hide h l l = none := if_pos rfl
theorem hide_ne {h : Heap} {l b : Addr} (hb : b ≠ l) : hide h l b = h.get? b := if_neg hb
theorem hide_grow {h : Heap} {l : Addr} {V : View} (on : On V h) : GrowK (hide h l) V V h :=
  ⟨fun b o e => by
    by_cases hb : b = l
    · subst hb; rw [hide_self] at e; cases e
    · rwa [hide_ne hb] at e, fun _ _ e => e, on, fun _ _ e => .inl e⟩
theorem hide_ge {h : Heap} {l : Addr} : ∀ b, h.objs.size ≤ b → hide h l b = none := fun b hb => by
  by_cases q : b = l
  · subst q; exact hide_self
  · rw [hide_ne q]; exact none_ge b hb
/-- a run that changes the one list -/
noncomputable def EvM (M : Model) (A : Around) (t : Sem Value) (V : View) (s : Shared) (l : Addr) (ds' : List D) (d : D) : Prop :=
  ∀ (Q : Value → Shared → Prop) (E : Value → Shared → Prop), (∀ v V' h' tk, GrowK (hide s.heap l) V V' h' → MutL V' h' l ds' → Rd V' v d → Q v { s with heap := h', toks := tk }) → wpAny M A t Q E s

section
variable {prog : Program} {w : World} {A : Around} {G : Gd} {env : Env} {he V0 V : View} {s0 s : Shared} {ρ : Vars} {l : Addr} {ds ds' : List D} {d : D} {n : Nat}
theorem Sa.growM {V' : View} {h' : Heap} {tk : Nat} (p : Sa G env he V0 s0 ρ [(l, ds)] V s) (g : GrowK (hide s.heap l) V V' h') (m : MutL V' h' l ds') : Sa G env he V0 s0 ρ [(l, ds')] V' { s with heap := h', toks := tk } := by
  have ml := p.cx.mu _ (.head _)
  have hl := p.muOwn _ (.head _)
  dsimp only at ml hl
  have keep : ∀ b o, b ≠ l → s.heap.get? b = some o → h'.get? b = some o := fun b o hb e => g.keep b o (by rw [hide_ne hb]; exact e)
  have out : ∀ b o, b ≠ l → s.heap.get? b = some o → V b = none → V' b = none := fun b o hb e hV => by
    cases q : V' b with
    | none => rfl
    | some o' =>
      rcases g.new b o' q with z | z
      · rw [hV] at z; cases z
      · rw [hide_ne hb, e] at z; cases z
  have ll : env.locals ≠ l := by
    obtain ⟨m0, n0⟩ := p.locNs
    exact fun z => (ml.ne_ns n0) z.symm
  have lc : ∀ x c, env.cells.lookup x = some c → c ≠ l := fun x c hc z => by
    obtain ⟨_, _, v, ic⟩ := p.cel x c hc
    exact ml.ne_cell ic z.symm
  exact
    { on := g.on
      cx :=
        { base := fun b o e => g.sub b o (p.cx.base b o e)
          fm := fun q hq => by
            obtain ⟨v, at', r⟩ := p.cx.fm q hq
            refine ⟨v, ?_, r.mono g.sub⟩
            rcases at' with ⟨e, m0, n0, q⟩ | ⟨e, c, lk, q⟩
            · exact .inl ⟨e, m0, n0.at' fun o ho => keep _ o ll ho, q⟩
            · obtain ⟨o, ho, hd⟩ := q
              exact .inr ⟨e, c, lk, o, keep c o (lc _ c lk) ho, hd⟩
          mu := fun q hq => by
            have : q = (l, ds') := by simpa using hq
            subst this; exact m }
      gr := GrowK.behind p.gr g fun b o e => by
        have : b ≠ l := by rintro rfl; rw [hl] at e; cases e
        rw [hide_ne this]; exact p.gr.keep b o e
      rest := by rw [p.rest]
      loc := by
        refine ⟨?_, p.loc.2⟩
        obtain ⟨m0, o, es, ep, ho, _⟩ := p.locNs
        exact out _ o ll ho p.loc.1
      locNs := let ⟨m0, n0⟩ := p.locNs; ⟨m0, n0.at' fun o ho => keep _ o ll ho⟩
      cel := fun x c hc => by
        obtain ⟨a, b, v, o, ho, hd⟩ := p.cel x c hc
        exact ⟨out c o (lc x c hc) ho a, b, v, o, keep c o (lc x c hc) ho, hd⟩
      apart := p.apart
      muOwn := fun q hq => by
        have : q = (l, ds') := by simpa using hq
        subst this; exact hl
      muApart := List.pairwise_singleton _ _ }
/-- a function that changes the list has come back -/
noncomputable def DoneM (he V0 : View) (s0 : Shared) (l : Addr) (ds' : List D) (d : D) (v : Value) : Asn := fun V s => GrowK he V0 V s.heap ∧ MutL V s.heap l ds' ∧ s = { s0 with heap := s.heap, toks := s.toks } ∧ Rd V v d
theorem Sa.doneM {v : Value} (p : Sa G env he V0 s0 ρ [(l, ds')] V s) (r : Rd V v d) : DoneM he V0 s0 l ds' d v V s := ⟨p.gr, p.cx.mu _ (.head _), p.rest, r⟩
theorem fn_mut {f : Addr} {st : Stmt} {qual : Str} {dV kV : Value} {args : List Value} {kw : List (Str × Value)} {binds : List (Str × Value)} (F : FnAt G.h₁ f st qual dV kV) (hroom : A.depth < recursionLimit) (on : On V s.heap) (base : ∀ b o, G.h₁.get? b = some o → V b = some o)
    (hbind : ∀ doc pm code ct an, bindArgs (fdOf st qual dV kV doc pm code ct an) ⟨args, kw⟩ = pure binds) (hloc : ∀ L, ∀ x ∈ binds, (fScope st).names.lookup x.1 = some .local ∨ ((fScope st).names.lookup x.1 = some .cell ∧ ((cellsFrom (L + 1) (fScope st).names []).lookup x.1).isSome = true))
    (hρ : ∀ L code, Bound (envOf st qual f L code) binds V ρ) (hm : MutL V s.heap l ds)
    (hbody : ∀ L code, Tr (model prog w) (A.deeper (envOf st qual f L code)) (Sa G (envOf st qual f L code) (hide s.heap l) V s ρ [(l, ds)]) (execs (fBody st) (envOf st qual f L code)) (fun V' s' => DoneM (hide s.heap l) V s l ds' d .none V' s') (DoneM (hide s.heap l) V s l ds' d))
    (hco : (fScope st).isCoroutine = false := by rfl) (hgen : (fScope st).isGenerator = false := by rfl) (hkind : (fScope st).kind = .function := by rfl) :
    EvM (model prog w) A (call (.ref f) args kw) V s l ds' d := fun Q E k =>
  fn_callM (μ := [(l, ds)]) F hroom on base (fun _ _ _ _ _ => Looks.of_pure (hbind _ _ _ _ _)) hloc hρ (fun p hp => by
      have : p = (l, ds) := by simpa using hp
      subst this; exact hm) (List.pairwise_singleton _ _) (hide_grow on) hide_ge (fun p hp => by
      have : p = (l, ds) := by simpa using hp
      subst this; exact hide_self) (fun L code => fun V' s' P Q' E' n r => hbody L code V' s' P Q' E'
    (fun V'' s'' q => n V'' s'' (by obtain ⟨q1, q2, q3, q4⟩ := q; rw [q3]; exact k _ _ _ _ q1 q2 q4)) (fun v V'' s'' q => r v V'' s'' (by obtain ⟨q1, q2, q3, q4⟩ := q; rw [q3]; exact k _ _ _ _ q1 q2 q4))) hco hgen hkind

-- expressions on a Headers
variable {μ : List (Addr × List D)}
theorem PE.attrH {e : Expr} {pos : Pos} (F : GF w G) (h : PE (model prog w) A (Cx G env ρ μ) (eval e env) (.held l))
    (he : eval (.Attribute e "_headers" pos) env = (do
      let o ← eval e env
      standAt pos.atName
      let r ← holding [o] (getAttr o "_headers" true)
      letTemporaryGo e o r
      pure r) := by with_unfolding_all rfl) (hg : ∀ o r, letTemporaryGo e o r = pure () := by intro _ _; with_unfolding_all rfl) : PE (model prog w) A (Cx G env ρ μ) (eval (.Attribute e "_headers" pos) env) (.val (.ref l)) := fun V s on c Q E k => by
  rw [he]
  refine wpAny_bind (h V s on c _ E fun v V1 h1 t1 g1 r1 => ?_)
  obtain ⟨x, dx, hs, t, n, rfl, I⟩ := r1.inst g1.on
  refine wpAny_bind (wpAny_standAt (wpAny_bind (wpAny_holding ?_)))
  refine get_value (K := KT w.params) (F.kin.keeps ((c.stable _ _ _ _ g1).old g1.on)) I (hd_ga _) (hd_attr _ _ _ _ _) rfl ?_
  rw [hg]
  exact wpAny_bind (wpAny_pure (wpAny_pure (k _ V1 h1 _ g1 (.val _))))
theorem PE.methH1 {pl : Sem Bool} {o e : Expr} {rest : List Expr} {name : Str} {f : Addr} {apos pos : Pos} {st : Stmt} {q : Str} {dV kV : Value} {es : List D} (F : GF w G) (FA : FnAt G.h₁ f st q dV kV) (hf : findIn (KT w.params) (.ref 249) name = some (some (.ref f)) ∧ typeIn (KT w.params) (.ref f) = some (.type "function"))
    (hsh : ∀ l hs t n, shadowIn (some (heldDict l hs t n)) name = some false)
    (h0 : PE (model prog w) A (Cx G env ρ μ) (eval o env) (.held l))
    (ha : PL (model prog w) A (Cx G env ρ μ) (spliced (backTo pos (starEach (e :: rest) env))) es) (ho : OpN (model prog w) A (Cx G env ρ μ) (.ref f) [] (.held l :: es) d)
    (hpl : ((backTo pos (starEach (e :: rest) env)).any (·.1)) = false := by rfl) (hse : starEach (e :: rest) env = (false, eval e env) :: starEach rest env := by rfl)
    (he : eval (.Call (.Attribute o name apos) (e :: rest) [] pos) env = (do
      let ov ← eval o env
      standAt apos.atName
      let (f, first) ← holding [ov] (getMethod ov name pl)
      callWith pos f first (backTo pos (starEach (e :: rest) env)) []) := by rfl) : PE (model prog w) A (Cx G env ρ μ) (eval (.Call (.Attribute o name apos) (e :: rest) [] pos) env) d := fun V s on i Q E k =>
  MethodCall_ (h0 V s on i _ E fun v0 V1 h1 t1 g1 r1 => by
    obtain ⟨x, dx, hs, t, n, rfl, I⟩ := r1.inst g1.on
    have i1 := Cx.stable _ _ _ _ i g1
    refine method_fn (K := KT w.params) (F.kin.keeps (i1.old g1.on)) I (hd_ga _) (hd_gat _) hf.1 hf.2 (hsh _ _ _ _) ?_
    exact callWith_go (I := fun V h => Cx G env ρ μ V h ∧ Rd V (.ref x) (.held l)) (first := [.ref x]) (fun _ _ _ _ x g => ⟨Cx.stable _ _ _ _ x.1 g, x.2.mono g.sub⟩) (fun V h on i => FA.keeps1 (i.1.old on)) (fun V s on i => ha V s on i.1)
      (fun V s on i vs r => ho V s on i.1 (.ref x :: vs) (.cons i.2 r)) hpl hse V1 _ g1.on ⟨i1, r1⟩ Q E fun v V2 s2 t2 g2 r2 => k v V2 s2 t2 (g1.trans g2) r2) he
theorem PE.methH0 {pl : Sem Bool} {o : Expr} {name : Str} {f : Addr} {apos pos : Pos} {st : Stmt} {q : Str} {dV kV : Value} (F : GF w G) (FA : FnAt G.h₁ f st q dV kV) (hf : findIn (KT w.params) (.ref 249) name = some (some (.ref f)) ∧ typeIn (KT w.params) (.ref f) = some (.type "function"))
    (hsh : ∀ l hs t n, shadowIn (some (heldDict l hs t n)) name = some false)
    (h0 : PE (model prog w) A (Cx G env ρ μ) (eval o env) (.held l)) (ho : OpN (model prog w) A (Cx G env ρ μ) (.ref f) [] [.held l] d)
    (he : eval (.Call (.Attribute o name apos) [] [] pos) env = (do
      let ov ← eval o env
      standAt apos.atName
      let (f, first) ← holding [ov] (getMethod ov name pl)
      callWith pos f first (backTo pos (starEach [] env)) []) := by rfl) : PE (model prog w) A (Cx G env ρ μ) (eval (.Call (.Attribute o name apos) [] [] pos) env) d := fun V s on i Q E k =>
  MethodCall_ (h0 V s on i _ E fun v0 V1 h1 t1 g1 r1 => by
    obtain ⟨x, dx, hs, t, n, rfl, I⟩ := r1.inst g1.on
    have i1 := Cx.stable _ _ _ _ i g1
    refine method_fn (K := KT w.params) (F.kin.keeps (i1.old g1.on)) I (hd_ga _) (hd_gat _) hf.1 hf.2 (hsh _ _ _ _) ?_
    exact callWith_go0 (I := fun V h => Cx G env ρ μ V h ∧ Rd V (.ref x) (.held l)) (first := [.ref x]) (fun V h on i => FA.keeps1 (i.1.old on))
      (fun V s on i vs r => by cases r; exact ho V s on i.1 [.ref x] (.cons i.2 .nil)) V1 _ g1.on ⟨i1, r1⟩ Q E fun v V2 s2 t2 g2 r2 => k v V2 s2 t2 (g1.trans g2) r2) he
/-- the method with one keyword, a written bool -/
theorem PE.convH {pl : Sem Bool} {o e : Expr} {b : Bool} {k0 : Nat} {kp kp2 : Pos} {apos pos : Pos} {d1 : D} (F : GF w G)
    (h0 : PE (model prog w) A (Cx G env ρ μ) (eval o env) (.held l)) (ha : PE (model prog w) A (Cx G env ρ μ) (eval e env) d1)
    (ho : ∀ V (s : Shared), On V s.heap → (∀ b o, G.h₁.get? b = some o → V b = some o) → ∀ v u, Rd V v (.held l) → Rd V u d1 → Ev (model prog w) A (PySem.call (.ref 148) [v, u] [(Str.ofString "name", .bool b)]) V s d)
    (hpl : ((backTo pos (starEach [e] env)).any (·.1) || (backToKw pos (keywordEach [⟨some (Str.ofString "name"), .Constant (.bool b) k0 kp, kp2⟩] env)).any (·.1.isNone)) = false := by rfl)
    (hall : (backToKw pos (keywordEach [⟨some (Str.ofString "name"), .Constant (.bool b) k0 kp, kp2⟩] env)).all (·.1.isSome) = true := by rfl)
    (hse : starEach [e] env = [(false, eval e env)] := by rfl)
    (he : eval (.Call (.Attribute o (Str.ofString "_convert_string_type") apos) [e] [⟨some (Str.ofString "name"), .Constant (.bool b) k0 kp, kp2⟩] pos) env = (do
      let ov ← eval o env
      standAt apos.atName
      let (f, first) ← holding [ov] (getMethod ov (Str.ofString "_convert_string_type") pl)
      callWith pos f first (backTo pos (starEach [e] env)) (backToKw pos (keywordEach [⟨some (Str.ofString "name"), .Constant (.bool b) k0 kp, kp2⟩] env))) := by rfl) :
    PE (model prog w) A (Cx G env ρ μ) (eval (.Call (.Attribute o (Str.ofString "_convert_string_type") apos) [e] [⟨some (Str.ofString "name"), .Constant (.bool b) k0 kp, kp2⟩] pos) env) d := fun V s on i Q E k =>
  methodCall_KW (h0 V s on i _ E fun v0 V1 h1 t1 g1 r1 => by
    obtain ⟨x, dx, hs, t, n, rfl, I⟩ := r1.inst g1.on
    have i1 := Cx.stable _ _ _ _ i g1
    refine method_fn (K := KT w.params) (F.kin.keeps (i1.old g1.on)) I (hd_ga _) (hd_gat _) (hd_conv _).1 (hd_conv _).2 (by rfl) ?_
    refine callWith_of (P := fun h => Keeps1 (model prog w) (.ref 148) h) hpl (fun h x => x) (evalArgs_kw2 hall ?_ hse)
    rw [show backTo pos (starEach [e] env) = backTo pos (starEach [e] env) from rfl]
    refine (PL.cons Cx.stable ha PL.nil (he := hse)) V1 _ g1.on i1 _ E fun vs V2 h2 t2 g2 r2 => ?_
    obtain ⟨u, rfl, ru⟩ := r2.one
    refine kwAll_cons (wpAny_Constant_bool (kwAll_nil ?_))
    have i2 := Cx.stable _ _ _ _ i1 g2
    refine ⟨F.f_conv.keeps1 (i2.old g2.on), ?_⟩
    exact ho V2 _ g2.on i2.base (.ref x) u (r1.mono g2.sub) ru Q E fun v V3 h3 t3 g3 r3 => k v V3 h3 t3 ((g1.trans g2).trans g3) r3) he
end
end FS
end
section
set_option linter.unusedVariables false
set_option maxRecDepth 100000
namespace FS
open PySem PySem.Calls PySem.W PyProof.Rows

section
variable {prog : Program} {w : World} {A : Around} {I : View → Heap → Prop} {env : Env} {d : D}
theorem op_type_str {x : Str} : OpN (model prog w) A I (.type "type") [] [.str x] (.val (.type "str")) := fun V s on i vs r Q E k => by
  obtain ⟨v, rfl, r1⟩ := r.one
  cases r1
  exact call_type_of (typeIs_str s _ _) (by decide) (k _ V s.heap _ (.refl on) (.val _))
theorem op_type_list {ds : List D} : OpN (model prog w) A I (.type "type") [] [.list ds] (.val (.type "list")) := fun V s on i vs r Q E k => by
  obtain ⟨v, rfl, r1⟩ := r.one
  obtain ⟨a, items, rfl, hl, _⟩ := r1.isList on
  exact call_type_of hl.typeIs (by decide) (k _ V s.heap _ (.refl on) (.val _))
theorem op_is_type {X : String} : Op2 (model prog w) A I (compareOp .Is) (.val (.type X)) (.val (.type X)) (.bool true) := fun V s on i v1 v2 r1 r2 Q E k => by
  cases r1; cases r2
  exact wpAny_is_self rfl (k _ V s.heap s.toks (.refl on) (.bool _))
theorem op_isnot_type {X : String} : Op2 (model prog w) A I (compareOp .IsNot) (.val (.type X)) (.val (.type X)) (.bool false) := fun V s on i v1 v2 r1 r2 Q E k => by
  cases r1; cases r2
  exact isnot_type_same (k _ V s.heap s.toks (.refl on) (.bool _))
theorem PB.none {e : Expr} {whole : Sem Value} (h : PE (model prog w) A I whole .none) (he : isTrue e env whole = (do let v ← whole; standAt e.pos; holding [v] (truthy v)) := by rfl) : PB (model prog w) A I (isTrue e env whole) false :=
  fun V s on i Q E k => isTrue_plain (h V s on i _ E fun v V1 s1 t1 g1 r1 => by cases r1; exact truthy_none (k V1 s1 t1 g1)) he
end
section
variable {prog : Program} {w : World} {A : Around} {G : Gd} {env : Env} {ρ : Vars} {μ : List (Addr × List D)} {n : Nat}
theorem mth_search {p : Addr} {o : Obj} (F : GF w G) (hp : (KT w.params).lookup p = some o) (hc : o.cls = .type "re.Pattern") (hd : o.dict = none) : Mth prog w A (Cx G env ρ μ) (.val (.ref p)) "search" "re.Pattern.search" := fun V s v0 on cx r pl Q E h => by
  cases r
  have ho := cx.old on _ _ (F.kin _ _ hp)
  exact getMethod_builtin ⟨o, ho, hc⟩ plainAttrs_re slot_re_search type_re_search (fun b q => by cases q; exact ⟨o, ho, hd⟩) h
theorem opm_search {p : Addr} {o : Obj} {x : Str} (F : GF w G) (hp : (KT w.params).lookup p = some o) (hc : o.cls = .type "re.Pattern") (hn : NoFind w.params p x) : OpM prog w A (Cx G env ρ μ) "re.Pattern.search" (.val (.ref p)) [.str x] .none := fun V s v0 vs on cx r rl Q E k => by
  cases r
  obtain ⟨v, rfl, r1⟩ := rl.one
  cases r1 with
  | str _ t =>
    have ho := cx.old on _ _ (F.kin _ _ hp)
    refine wpAny_call_entry slot_re_search ⟨o, ho, hc⟩ entry_re_search ?_ (args_re_search _ _)
    exact (Looks.of_peek (M := model prog w) (F.kin.keeps (cx.old on)) (hn prog t)).here ⟨_, rfl, k _ V s.heap s.toks (.refl on) .none⟩
noncomputable def reOf (b : Bool) : Addr := if b then 121 else 126
theorem reOf_K (P : Params) (b : Bool) : ∃ o, (KT P).lookup (reOf b) = some o ∧ o.cls = .type "re.Pattern" ∧ o.dict = none := by
  cases b
  · exact ⟨o_p12_126 P, by kernel_rfl, rfl, rfl⟩
  · exact ⟨o_p12_121 P, by kernel_rfl, rfl, rfl⟩
theorem conv_ok {x : Str} {b : Bool} {l : Addr} (F : GF w G) (R : Room A (n + 1)) (hn : NoFind w.params (reOf b) x) : ∀ V (s : Shared), On V s.heap → (∀ b o, G.h₁.get? b = some o → V b = some o) → ∀ v u, Rd V v (.held l) → Rd V u (.str x) →
    Ev (model prog w) A (call (.ref 148) [v, u] [(Str.ofString "name", .bool b)]) V s (.str x) := fun V s on base v1 v2 r1 r2 => by
  refine fn_pure (ρ := [(Str.ofString "value", .str x), (Str.ofString "name", .bool b)]) (binds := [(Str.ofString "self", v1), (Str.ofString "value", v2), (Str.ofString "name", .bool b)]) F.f_conv R.lt on base (fun _ _ _ _ _ => rfl) ?_ ?_ ?_
  · intro L p hp
    simp only [List.mem_cons, List.not_mem_nil, or_false] at hp
    rcases hp with rfl | rfl | rfl <;> exact .inl rfl
  · intro L code p hp
    simp only [List.mem_cons, List.not_mem_nil, or_false] at hp
    rcases hp with rfl | rfl
    · exact ⟨_, r2, .inl ⟨rfl, rfl⟩⟩
    · exact ⟨_, .bool _, .inl ⟨rfl, rfl⟩⟩
  · intro L code
    obtain ⟨o, hK, hc, hd⟩ := reOf_K w.params b
    refine Tr.cons (N := fun _ _ => False) (SaT.if_ (c := true) (PB.compare Cx.stable (PE.call Cx.stable (PE.blt rfl rfl rfl rfl F.b_type.1 F.b_type.2) (fun _ _ _ _ => keeps_type) (PL.cons Cx.stable (PE.name rfl (.head _)) PL.nil) op_type_str) (PE.blt rfl rfl rfl rfl F.b_str.1 F.b_str.2) op_is_type) (fun hc => ?_) (fun hc => nomatch hc)) Tr.falso
    refine Tr.cons (SaT.assign (d := .val (.ref (reOf b))) (ρ' := [(Str.ofString "value", .str x), (Str.ofString "name", .bool b)]) rfl (.inl rfl) (PE.ifExp (c := b) Cx.stable (PB.plain (PE.name rfl (.tail _ (.head _)))) (fun hb => by subst hb; exact PE.glob rfl rfl rfl F.g_nre) (fun hb => by subst hb; exact PE.glob rfl rfl rfl F.g_vre))
      (.cons (by show Str.ofString "value" ≠ Str.ofString "regex"; decide) (.cons (by show Str.ofString "name" ≠ Str.ofString "regex"; decide) .nil))) ?_
    refine Tr.cons (SaT.if_ (c := false) (PB.none (PE.meth1 Cx.stable (PE.name rfl (.head _)) (mth_search F hK ‹_› hd) (PL.cons Cx.stable (PE.name rfl (.tail _ (.head _))) PL.nil) (opm_search F hK ‹_› hn))) (fun hc => nomatch hc) (fun hc => Tr.nil fun _ _ n => n)) ?_
    exact Tr.last (SaT.ret (PE.name rfl (.tail _ (.head _))) fun V s v p r => p.done r)
end
end FS
end
section
set_option linter.unusedVariables false
set_option maxRecDepth 100000
namespace FS
open PySem PySem.Calls PySem.W PyProof.Rows

section
variable {prog : Program} {w : World} {A : Around} {E : Value → Shared → Prop} {s : Shared}
theorem setSlice_full {l lv sl : Addr} {items new : Array Value} {Q : Unit → Shared → Prop} (hl : s.heap.PlainList l items) (hv : s.heap.IsList lv new) (hs : s.heap.IsSliceOf sl .none .none .none)
    (hne : lv ≠ l) (hz : items.size ≤ 1000) (hz2 : new.size ≤ 1000) (h : ∀ h', h'.PlainList l new → Heap.SameBut l s.heap h' → Q () { s with heap := h' }) :
    wpAny (model prog w) A (setItem (.ref l) (.ref sl) (.ref lv)) Q E s := by
  obtain ⟨n, ho⟩ := id hl
  have hL := hl.isList
  obtain ⟨ov, hov, hcv, nv, hdv⟩ := id hv
  obtain ⟨os, hos, hcs, hds⟩ := id hs
  have hTs : s.TypeIs (.ref sl) "slice" := ⟨os, hos, hcs⟩
  unfold setItem
  try with_reducible refine wpAny_holding ?_
  first | refine wpAny_bind (wpAny_pure ?_) | skip
  refine wpAny_bind (wpAny_sequenceKey hL.typeIs (by decide) ?_)
  refine wpAny_bind (wpAny_callSpecial?_slot (name := Str.ofString "__setitem__") hL.typeIs slot_list_setitem
    (wpAny_call_entry slot_list_setitem hL.typeIs entry_list_setitem ?_ (args_list_setitem _ _ _)))
  show wpAny _ _ (Builtin.List.listSubscript? (.ref sl) >>= _) _ _ s
  refine wpAny_bind ?_
  unfold Builtin.List.listSubscript?
  refine wpAny_bind (wpAny_specialOf hTs slice_no_index ?_)
  simp only [Option.isNone_none, if_true]
  refine wpAny_pure ?_
  show wpAny _ _ (typeOf (.ref sl) >>= _) _ _ s
  refine wpAny_bind (wpAny_typeOf hTs ?_)
  rw [if_neg (by decide)]
  rw [listSliceParts_eq]
  have hstep : ¬ ((rawPart none == rawInt 0) = true) := Bool.false_ne_true
  refine wpAny_bind (wpAny_bind (wpAny_field hos hds (x := .none) rfl (wpAny_bind (wpAny_listPart .none ?_))))
  rw [if_neg hstep]
  refine wpAny_bind (wpAny_field hos hds (x := .none) rfl (wpAny_bind (wpAny_listPart .none ?_)))
  refine wpAny_bind (wpAny_field hos hds (x := .none) rfl (wpAny_bind (wpAny_listPart .none (wpAny_pure ?_))))
  have hsame : Builtin.List.listSameRef (.ref l) (.ref lv) = false := by
    show (l == lv) = false
    exact beq_eq_false_iff_ne.mpr fun e => hne e.symm
  rw [hsame, if_neg Bool.false_ne_true]
  refine wpAny_bind ?_
  unfold Builtin.List.listAllItems
  refine wpAny_bind (wpAny_typeOf hv.typeIs ?_)
  rw [if_pos (by decide)]
  refine listItems_at hov hdv ?_
  refine wpAny_bind (listItems_at ho rfl ?_)
  refine wpAny_bind (wpAny_of_eq (sliceIndices_raw none none none items.size (by decide)) ?_)
  have e : sliceBounds none none none items.size = (0, (items.size : Int), 1) := by simp [sliceBounds]
  rw [e]
  dsimp only
  rw [if_pos (by decide)]
  refine wpAny_bind (wpAny_rule ?_)
  have hlong : Builtin.List.listTooLong (items.size + new.size) = false := by
    unfold Builtin.List.listTooLong
    rw [decide_eq_false_iff_not, sizeLine_eq]; omega
  rw [hlong, if_neg Bool.false_ne_true]
  have hnew : items.extract 0 (0 : Int).toNat ++ new ++ items.extract (max 0 (items.size : Int)).toNat items.size = new := by
    apply Array.toList_inj.mp
    simp
  refine wpAny_bind (listUpdate_at ho rfl ?_ (by rw [sizeLine_eq]; omega) (by rw [hnew, sizeLine_eq]; omega))
  refine wpAny_bind (wpAny_letGo ?_)
  refine wpAny_pure ⟨.none, rfl, ?_⟩
  refine wpAny_pure (h _ ⟨if (new.size == items.size) = true then n else n + 1, ?_⟩ (Heap.SameBut.update ..))
  rw [Heap.get?_update_self _ ho (by simp [Obj.mapSeq]; rfl)]
  simp only [Obj.mapSeq, hnew]
end

section
variable {prog : Program} {w : World} {A : Around} {G : Gd} {env : Env} {he V0 V : View} {s0 s : Shared} {ρ : Vars} {μ : List (Addr × List D)} {l : Addr} {ds ds' : List D} {d : D} {n : Nat}
theorem PE.sliceAllM {value : Expr} {p pos : Pos} (hm : (l, ds) ∈ μ) (h0 : PE (model prog w) A (Cx G env ρ μ) (eval value env) (.val (.ref l))) (hsz : ds.length ≤ 1000)
    (hs : ∀ x y : Addr, ∃ ops, subscripted (.Slice none none none p) false (.ref x) (.ref y) = operate ops (getItem (.ref x) (.ref y)) := by intro x y; exact ⟨[.ref y, .ref x], by with_unfolding_all rfl⟩) :
    PE (model prog w) A (Cx G env ρ μ) (eval (.Subscript value (.Slice none none none p) pos) env) (.list ds) := fun V s on i Q E k =>
  Subscript_ (h0 V s on i _ E fun v0 V1 h1 t1 g1 r1 => wpAny_Slice (wpAny_pure (wpAny_pure (wpAny_pure (by
      cases r1
      have i1 := Cx.stable _ _ _ _ i g1
      obtain ⟨items, hpl, q, hV⟩ := i1.mu _ hm
      dsimp only at hpl q hV
      obtain ⟨ops, ho⟩ := hs l h1.objs.size
      have g5 : Grow h1 V1 V1 (h1.push { cls := .type "slice", data := .fields #[.none, .none, .none] }) := Grow.pushSkip g1.on _
      have hl5 : (h1.push { cls := .type "slice", data := .fields #[.none, .none, .none] }).IsList l items.toArray := (hpl.at fun o e => g5.keep _ _ e).isList
      refine tail_any (Heap.IsList.typeIs (s := { s with heap := h1.push { cls := .type "slice", data := .fields #[.none, .none, .none] }, toks := t1 }) hl5) list_getitem_lookup
        (wpAny_getItem_list_slice hl5 (Heap.IsSliceOf.new ..) .none .none .none (by decide) ?_ (by have := q.length; simp; rw [sizeLine_eq]; omega)) ho
      rw [slicePick_all]
      exact k _ _ _ _ (g1.trans (g5.trans (.push g5.on _))) (.list (n := 0) (View.put_self ..) (q.mono (Grow.push g5.on _).sub)))))))

theorem delItem_own {x C f : Addr} {ox : Obj} {od : Option Obj} {i : Value} {K : Frag} {Q : Unit → Shared → Prop} {E : Value → Shared → Prop} (X : K.In s.heap) (I : InstAt s.heap x ox C od) (hq : noSeq K C = true) (hs : findIn K (.ref C) "__delitem__" = some (some (.ref f)) ∧ typeIn K (.ref f) = some (.type "function"))
    (h : wpAny (model prog w) A (call (.ref f) [.ref x, i]) (fun _ s' => Q () s') E s) : wpAny (model prog w) A (delItem (.ref x) i) Q E s := by
  unfold delItem sequenceKey
  refine wpAny_holding (wpAny_bind (wpAny_bind (I.type.here ?_)))
  refine wpAny_bind ((anyM_none X hq).here ?_)
  rw [if_pos (show (!false) = true from rfl)]
  exact wpAny_pure (wpAny_bind (special_fn X I hs.1 hs.2 (wpAny_mono h (fun _ _ z => wpAny_pure z) fun _ _ z => z)))
theorem setItem_own {x C f : Addr} {ox : Obj} {od : Option Obj} {i v : Value} {K : Frag} {Q : Unit → Shared → Prop} {E : Value → Shared → Prop} (X : K.In s.heap) (I : InstAt s.heap x ox C od) (hq : noSeq K C = true) (hs : findIn K (.ref C) "__setitem__" = some (some (.ref f)) ∧ typeIn K (.ref f) = some (.type "function"))
    (h : wpAny (model prog w) A (call (.ref f) [.ref x, i, v]) (fun _ s' => Q () s') E s) : wpAny (model prog w) A (setItem (.ref x) i v) Q E s := by
  unfold setItem sequenceKey
  refine wpAny_holding (wpAny_bind (wpAny_bind (I.type.here ?_)))
  refine wpAny_bind ((anyM_none X hq).here ?_)
  rw [if_pos (show (!false) = true from rfl)]
  exact wpAny_pure (wpAny_bind (special_fn X I hs.1 hs.2 (wpAny_mono h (fun _ _ z => wpAny_pure z) fun _ _ z => z)))

variable {R : Value → Asn}
/-- del held[e] -/
theorem SaT.delH {o e : Expr} {p' pos : Pos} {d1 dr : D} (F : GF w G) (h0 : PE (model prog w) A (Cx G env ρ [(l, ds)]) (eval o env) (.held l)) (h1 : PE (model prog w) A (Cx G env ρ [(l, ds)]) (eval e env) d1)
    (hc : ∀ V (s : Shared), On V s.heap → (∀ b o, G.h₁.get? b = some o → V b = some o) → MutL V s.heap l ds → ∀ v u, Rd V v (.held l) → Rd V u d1 → EvM (model prog w) A (PySem.call (.ref 167) [v, u]) V s l ds' dr) :
    SaT (model prog w) A G env he V0 s0 ρ [(l, ds)] (exec (.Delete [.Subscript o e p'] pos) env) ρ [(l, ds')] R := fun V s p Q E n r => by
  refine wpAny_Delete (wpAny_deleteEach_cons ?_)
  show wpAny _ _ (do
    let ov ← eval o env
    let iv ← holding [ov] (eval e env)
    standAt p'
    holding [ov, iv] (delItem ov iv)
    release [ov, iv] []) _ _ _
  refine wpAny_bind (h0 V s p.on p.cx _ E fun v V1 a1 t1 g1 r1 => ?_)
  have p1 := p.grow (tk := t1) g1
  refine wpAny_bind (wpAny_holding (h1 V1 _ p1.on p1.cx _ E fun u V2 a2 t2 g2 r2 => ?_))
  have p2 := p1.grow (tk := t2) g2
  have rv := r1.mono g2.sub
  obtain ⟨x, dx, hs, t, nn, rfl, I⟩ := rv.inst p2.on
  refine wpAny_bind (wpAny_standAt (wpAny_bind (wpAny_holding ?_)))
  refine delItem_own (K := KT w.params) (F.kin.keeps (p2.cx.old p2.on)) I (hd_noseq _) (hd_del _) ?_
  refine hc V2 _ p2.on p2.cx.base (p2.cx.mu _ (.head _)) (.ref x) u rv r2 _ E fun v3 V3 a3 t3 g3 m3 r3 => ?_
  exact wpAny_release (wpAny_deleteEach_nil (n V3 _ (p2.growM g3 m3)))
/-- held[e] = value -/
theorem SaT.setH {o e value : Expr} {p' pos : Pos} {d1 d2 dr : D} (F : GF w G) (hv : PE (model prog w) A (Cx G env ρ [(l, ds)]) (eval value env) d2) (h0 : PE (model prog w) A (Cx G env ρ [(l, ds)]) (eval o env) (.held l)) (h1 : PE (model prog w) A (Cx G env ρ [(l, ds)]) (eval e env) d1)
    (hc : ∀ V (s : Shared), On V s.heap → (∀ b o, G.h₁.get? b = some o → V b = some o) → MutL V s.heap l ds → ∀ v u y, Rd V v (.held l) → Rd V u d1 → Rd V y d2 → EvM (model prog w) A (PySem.call (.ref 162) [v, u, y]) V s l ds' dr)
    (hsw : swapsWith value (some (.Subscript o e p')) pos.line env = pure false := by rfl) :
    SaT (model prog w) A G env he V0 s0 ρ [(l, ds)] (exec (.Assign [.Subscript o e p'] value pos) env) ρ [(l, ds')] R := fun V s p Q E n r => by
  refine wpAny_Assign_Subscript (hv V s p.on p.cx _ E fun y V0' a0 t0 g0 r0 => ?_) hsw
  have p0 := p.grow (tk := t0) g0
  refine h0 V0' _ p0.on p0.cx _ E fun v V1 a1 t1 g1 r1 => ?_
  have p1 := p0.grow (tk := t1) g1
  refine h1 V1 _ p1.on p1.cx _ E fun u V2 a2 t2 g2 r2 => ?_
  have p2 := p1.grow (tk := t2) g2
  have rv := r1.mono g2.sub
  obtain ⟨x, dx, hs, t, nn, rfl, I⟩ := rv.inst p2.on
  refine setItem_own (K := KT w.params) (F.kin.keeps (p2.cx.old p2.on)) I (hd_noseq _) (hd_set _) ?_
  exact hc V2 _ p2.on p2.cx.base (p2.cx.mu _ (.head _)) (.ref x) u y rv r2 ((r0.mono g1.sub).mono g2.sub) _ E fun v3 V3 a3 t3 g3 m3 r3 => n V3 _ (p2.growM g3 m3)
/-- xs[:] = value, the one list -/
theorem SaT.setAll {o value : Expr} {p0 p' pos : Pos} (hv : PE (model prog w) A (Cx G env ρ [(l, ds)]) (eval value env) (.list ds')) (h0 : PE (model prog w) A (Cx G env ρ [(l, ds)]) (eval o env) (.val (.ref l)))
    (hz : ds.length ≤ 1000) (hz' : ds'.length ≤ 1000) (hsw : swapsWith value (some (.Subscript o (.Slice none none none p0) p')) pos.line env = pure false := by rfl) :
    SaT (model prog w) A G env he V0 s0 ρ [(l, ds)] (exec (.Assign [.Subscript o (.Slice none none none p0) p'] value pos) env) ρ [(l, ds')] R := fun V s p Q E n r => by
  refine wpAny_Assign_Subscript (hv V s p.on p.cx _ E fun y V0' a0 t0 g0 r0 => ?_) hsw
  have p0 := p.grow (tk := t0) g0
  refine h0 V0' _ p0.on p0.cx _ E fun v V1 a1 t1 g1 r1 => ?_
  have p1 := p0.grow (tk := t1) g1
  cases r1
  have g5 : Grow a1 V1 V1 (a1.push { cls := .type "slice", data := .fields #[.none, .none, .none] }) := Grow.pushSkip g1.on _
  have p2 := p1.grow (tk := t1) g5
  refine wpAny_Slice (wpAny_pure (wpAny_pure (wpAny_pure ?_)))
  obtain ⟨items, hpl, q, hV⟩ := p2.cx.mu _ (.head _)
  dsimp only at hpl q hV
  have r5 := (r0.mono g1.sub).mono g5.sub
  obtain ⟨b, new, nn, rfl, eb, qb⟩ := r5.isL p2.on
  have hbl : b ≠ l := by
    rintro rfl
    cases r5 with
    | list e _ => rw [hV] at e; cases e
  refine setSlice_full hpl ⟨_, eb, rfl, _, rfl⟩ (Heap.IsSliceOf.new ..) hbl (by have := q.length; simp; omega) (by have := qb.length; simp; omega) fun h' hpl' sb => ?_
  refine n V1 _ (p2.growM (tk := t1) ?_ ⟨new, hpl', qb, hV⟩)
  exact (hide_grow p2.on).change sb.extBut hide_self hV
end
end FS
end
section
set_option linter.unusedVariables false
set_option maxRecDepth 100000
namespace FS
open PySem PySem.Calls PySem.W PyProof.Rows

noncomputable def rowD (r : Str × Str) : D := .tup [.str r.1, .str r.2]
noncomputable def rowsD (rows : List (Str × Str)) : List D := rows.map rowD
noncomputable def delP (rows : List (Str × Str)) (nm : Str) : List (Str × Str) := rows.filter fun r => Txt.lower r.1 != Txt.lower nm
noncomputable def setP (rows : List (Str × Str)) (nm tx : Str) : List (Str × Str) := delP rows nm ++ [(nm, tx)]
structure NameOk (P : Params) (nm : Str) : Prop where
  nf : NoFind P (reOf true) nm
  nfl : NoFind P (reOf true) (Txt.lower nm)
  lo : Builtin.Str.tooLong (Txt.lower nm).length = false
  up : Builtin.Str.tooLong (Txt.upper nm).length = false
noncomputable def RowsOk (rows : List (Str × Str)) : Prop := ∀ r ∈ rows, Builtin.Str.tooLong (Txt.lower r.1).length = false
noncomputable def delZ (nm : Str) (r : Str × Str) : D × Option D := (rowD r, if Txt.lower r.1 != Txt.lower nm then some (rowD r) else none)
theorem delZ_fst (nm : Str) (rows : List (Str × Str)) : (rows.map (delZ nm)).map Prod.fst = rowsD rows := by rw [List.map_map]; rfl
theorem delZ_snd (nm : Str) : ∀ rows : List (Str × Str), (rows.map (delZ nm)).filterMap Prod.snd = rowsD (delP rows nm)
  | [] => rfl
  | r :: rows => by
    have ih := delZ_snd nm rows
    unfold rowsD delP at ih ⊢
    rw [List.map_cons, List.filterMap_cons, List.filter_cons]
    have e : (delZ nm r).2 = if Txt.lower r.1 != Txt.lower nm then some (rowD r) else none := rfl
    rw [e]
    cases h : (Txt.lower r.1 != Txt.lower nm) <;> simp [ih]
theorem delP_len (rows : List (Str × Str)) (nm : Str) : (delP rows nm).length ≤ rows.length := List.length_filter_le _ _

section
variable {prog : Program} {w : World} {A : Around} {G : Gd} {env : Env} {he he' V0 V : View} {s0 s : Shared} {ρ : Vars} {μ : List (Addr × List D)} {l : Addr} {ds ds' : List D} {d : D} {n : Nat} {R : Value → Asn}
/-- xs.append(e), the one list -/
theorem SaT.appendH {o elt : Expr} {apos pos pos' : Pos} (h0 : PE (model prog w) A (Cx G env ρ [(l, ds)]) (eval o env) (.val (.ref l))) (h1 : PE (model prog w) A (Cx G env ρ [(l, ds)]) (eval elt env) d) (hz : ds.length ≤ 1000)
    (hbase : attributeBase o "append" env (eval o env) = eval o env := by rfl)
    (hfew : ((backTo pos (starEach [elt] env)).all (fun x => !x.1) && (backToKw pos (keywordEach [] env)).all (fun x => x.1.isSome)
      && decide (([elt] : List Expr).length + ([] : List Keyword).length + (if ([] : List Keyword).isEmpty then 0 else 1) < 30)) = true := by rfl)
    (hline : (apos.endLine == pos.line) = true := by rfl)
    (htrees : backTo pos (starEach [elt] env) = [(false, eval elt env)] := by rfl)
    (hi : interactive env = false := by rfl) (hs : swapsWith (.Call (.Attribute o (Str.ofString "append") apos) [elt] [] pos) none pos'.line env = pure false := by rfl) :
    SaT (model prog w) A G env he V0 s0 ρ [(l, ds)] (exec (.Expr (.Call (.Attribute o (Str.ofString "append") apos) [elt] [] pos) pos') env) ρ [(l, ds ++ [d])] R := fun V s p Q E n r => by
  refine wpAny_Expr (hi := hi) (hs := hs) ?_
  refine wpAny_Call_append hbase hfew hline htrees (h0 V s p.on p.cx _ E fun v V1 a1 t1 g1 r1 => ?_)
  cases r1
  have p1 := p.grow (tk := t1) g1
  obtain ⟨items, ⟨nn, ho⟩, q, hV⟩ := p1.cx.mu _ (.head _)
  refine ⟨l, items.toArray, rfl, ⟨_, nn, ho, rfl, rfl, rfl⟩, ?_⟩
  refine h1 V1 _ p1.on p1.cx _ E fun y V2 a2 t2 g2 r2 => ?_
  have p2 := p1.grow (tk := t2) g2
  obtain ⟨items, hpl, q, hV⟩ := p2.cx.mu _ (.head _)
  dsimp only at hpl q hV
  refine wpAny_list_append_plain (hsz := by have := q.length; simp; rw [sizeLine_eq]; omega) hpl fun h' hpl' sb => ?_
  refine n V2 _ (p2.growM (tk := t2) ?_ ⟨items ++ [y], by simpa using hpl', q.append (.cons r2 .nil), hV⟩)
  exact (hide_grow p2.on).change sb.extBut hide_self hV
theorem items_ok (F : GF w G) (R : Room A (n + 1)) (hz : ds.length ≤ 1000) : ∀ V (s : Shared), On V s.heap → (∀ b o, G.h₁.get? b = some o → V b = some o) → MutL V s.heap l ds → ∀ v, Rd V v (.held l) → EvM (model prog w) A (call (.ref 213) [v]) V s l ds (.list ds) := fun V s on base hm v1 r1 => by
  refine fn_mut (ρ := [(Str.ofString "self", .held l)]) (binds := [(Str.ofString "self", v1)]) F.f_items R.lt on base (fun _ _ _ _ _ => rfl) ?_ ?_ hm ?_
  · intro L p hp
    simp only [List.mem_cons, List.not_mem_nil, or_false] at hp
    subst hp
    exact .inl rfl
  · intro L code p hp
    simp only [List.mem_cons, List.not_mem_nil, or_false] at hp
    subst hp
    exact ⟨_, r1, .inl ⟨rfl, rfl⟩⟩
  · intro L code
    exact Tr.last (SaT.ret (PE.sliceAllM (.head _) (PE.attrH F (PE.name rfl (.head _))) hz) fun V s v p r => p.doneM r)
/-- x = held.items() -/
theorem SaT.itemsH {x : Str} {o : Expr} {apos pos p' pos' : Pos} {pl : Sem Bool} {ρ' : Vars} (F : GF w G) (Rm : Room A (n + 1)) (hz : ds.length ≤ 1000) (hk : env.scope.kind = .function) (hx : env.kindOf x = some .local ∨ (env.kindOf x = some .cell ∧ (env.cells.lookup x).isSome = true)) (hs : Sub x ρ ρ')
    (h0 : PE (model prog w) A (Cx G env ρ [(l, ds)]) (eval o env) (.held l))
    (he : eval (.Call (.Attribute o (Str.ofString "items") apos) [] [] pos) env = (do
      let ov ← eval o env
      standAt apos.atName
      let (f, first) ← holding [ov] (getMethod ov (Str.ofString "items") pl)
      callWith pos f first (backTo pos (starEach [] env)) []) := by rfl)
    (hw : swapsWith (.Call (.Attribute o (Str.ofString "items") apos) [] [] pos) (some (.Name x p')) pos'.line env = pure false := by rfl) :
    SaT (model prog w) A G env he' V0 s0 ρ [(l, ds)] (exec (.Assign [.Name x p'] (.Call (.Attribute o (Str.ofString "items") apos) [] [] pos) pos') env) ((x, .list ds) :: ρ') [(l, ds)] R := fun V s p Q E n r => by
  refine wpAny_Assign_Name (MethodCall_ (h0 V s p.on p.cx _ E fun v0 V1 h1 t1 g1 r1 => ?_) he) hw
  have p1 := p.grow (tk := t1) g1
  obtain ⟨x0, dx, hs0, t, nn, rfl, I⟩ := r1.inst p1.on
  refine method_fn (K := KT w.params) (F.kin.keeps (p1.cx.old p1.on)) I (hd_ga _) (hd_gat _) (hd_items _).1 (hd_items _).2 (by rfl) ?_
  refine callWith_of (P := fun h => Keeps1 (model prog w) (.ref 213) h) rfl (fun h x => x) (evalArgs_nil3 ⟨F.f_items.keeps1 (p1.cx.old p1.on), ?_⟩)
  refine items_ok F Rm hz V1 _ p1.on p1.cx.base (p1.cx.mu _ (.head _)) (.ref x0) r1 _ E fun v3 V3 a3 t3 g3 m3 r3 => ?_
  exact (p1.growM (tk := t3) g3 m3).store hk hx r3 hs fun h'' tk' q _ => n V3 _ q
theorem delitem_ok {rows : List (Str × Str)} {nm : Str} (F : GF w G) (R : Room A (n + 2)) (hn : NameOk w.params nm) (hr : RowsOk rows) (hz : rows.length ≤ 1000) :
    ∀ V (s : Shared), On V s.heap → (∀ b o, G.h₁.get? b = some o → V b = some o) → MutL V s.heap l (rowsD rows) → ∀ v u, Rd V v (.held l) → Rd V u (.str nm) → EvM (model prog w) A (call (.ref 167) [v, u]) V s l (rowsD (delP rows nm)) .none := fun V s on base hm v1 v2 r1 r2 => by
  refine fn_mut (ρ := [(Str.ofString "self", .held l), (Str.ofString "name", .str nm)]) (binds := [(Str.ofString "self", v1), (Str.ofString "name", v2)]) F.f_del R.lt on base (fun _ _ _ _ _ => rfl) ?_ ?_ hm ?_
  · intro L p hp
    simp only [List.mem_cons, List.not_mem_nil, or_false] at hp
    rcases hp with rfl | rfl
    · exact .inl rfl
    · exact .inr ⟨rfl, rfl⟩
  · intro L code p hp
    simp only [List.mem_cons, List.not_mem_nil, or_false] at hp
    rcases hp with rfl | rfl
    · exact ⟨_, r1, .inl ⟨rfl, rfl⟩⟩
    · exact ⟨_, r2, .inr ⟨rfl, L + 1, rfl, rfl⟩⟩
  · intro L code
    have R1 := R.deeper (envOf (mth 14 4) "Headers.__delitem__" 167 L code)
    refine Tr.cons (SaT.assign rfl (.inr ⟨rfl, rfl⟩) (PE.convH F (PE.name rfl (.head _)) (PE.meth0 Cx.stable (PE.name rfl (.tail _ (.head _))) mth_lower (opm_lower hn.lo)) (conv_ok F R1 hn.nfl)) (ρ' := [(Str.ofString "self", .held l)]) (.cons (by show Str.ofString "self" ≠ Str.ofString "name"; decide) (.same .nil))) ?_
    refine Tr.last (Tr.post (SaT.setAll (ds' := rowsD (delP rows nm)) ?_ (PE.attrH F (PE.name rfl (.tail _ (.head _)))) (by unfold rowsD; simpa using hz) (by unfold rowsD; have := delP_len rows nm; simp; omega)) fun V s p => p.doneM .none)
    rw [← delZ_snd]
    refine PE.comp (rows.map (delZ nm)) (ρ' := [(Str.ofString "name", .str (Txt.lower nm))]) (cl := [(Str.ofString "name", L + 1)]) ⟨rfl, by decide, rfl, by decide, rfl⟩ ?_ (PE.attrH F (PE.name rfl (.tail _ (.head _)))) (by rw [delZ_fst]; exact ItbG.mut R1.hh (.head _)) (by simpa using hz) ?_ ?_
    · intro p hp
      have : p = (Str.ofString "name", .str (Txt.lower nm)) := by simpa using hp
      subst this
      exact ⟨.head _, .inl rfl, fun C => .inl rfl, rfl⟩
    · intro C z hz
      obtain ⟨r, hr', rfl⟩ := List.mem_map.mp hz
      refine PT.one ?_
      have e : (delZ nm r).2.isSome = (Txt.lower r.1 != Txt.lower nm) := by
        have : (delZ nm r).2 = if Txt.lower r.1 != Txt.lower nm then some (rowD r) else none := rfl
        rw [this]
        cases (Txt.lower r.1 != Txt.lower nm) <;> rfl
      rw [e]
      exact PB.compare Cx.stable (PE.meth0 Cx.stable (PE.item Cx.stable (PE.name (d := .tup [.str r.1, .str r.2]) rfl (.head _)) PE.cInt (op_item_tup (by decide) (by decide) rfl)) mth_lower (opm_lower (hr r hr'))) (PE.name rfl (.tail _ (.head _))) op_ne_str
    · intro C z d hz hd
      obtain ⟨r, hr', rfl⟩ := List.mem_map.mp hz
      have e : d = rowD r := by
        have : (delZ nm r).2 = if Txt.lower r.1 != Txt.lower nm then some (rowD r) else none := rfl
        rw [this] at hd
        cases h : (Txt.lower r.1 != Txt.lower nm) <;> simp [h] at hd
        exact hd.symm
      subst e
      exact PE.name (d := rowD r) rfl (.head _)
theorem setitem_ok {rows : List (Str × Str)} {nm tx : Str} (F : GF w G) (R : Room A (n + 3)) (hn : NameOk w.params nm) (ht : NoFind w.params (reOf false) tx) (hr : RowsOk rows) (hz : rows.length ≤ 999) :
    ∀ V (s : Shared), On V s.heap → (∀ b o, G.h₁.get? b = some o → V b = some o) → MutL V s.heap l (rowsD rows) → ∀ v u y, Rd V v (.held l) → Rd V u (.str nm) → Rd V y (.str tx) → EvM (model prog w) A (call (.ref 162) [v, u, y]) V s l (rowsD (setP rows nm tx)) .none := fun V s on base hm v1 v2 v3 r1 r2 r3 => by
  refine fn_mut (ρ := [(Str.ofString "self", .held l), (Str.ofString "name", .str nm), (Str.ofString "val", .str tx)]) (binds := [(Str.ofString "self", v1), (Str.ofString "name", v2), (Str.ofString "val", v3)]) F.f_set R.lt on base (fun _ _ _ _ _ => rfl) ?_ ?_ hm ?_
  · intro L p hp
    simp only [List.mem_cons, List.not_mem_nil, or_false] at hp
    rcases hp with rfl | rfl | rfl <;> exact .inl rfl
  · intro L code p hp
    simp only [List.mem_cons, List.not_mem_nil, or_false] at hp
    rcases hp with rfl | rfl | rfl
    · exact ⟨_, r1, .inl ⟨rfl, rfl⟩⟩
    · exact ⟨_, r2, .inl ⟨rfl, rfl⟩⟩
    · exact ⟨_, r3, .inl ⟨rfl, rfl⟩⟩
  · intro L code
    have R1 := R.deeper (envOf (mth 14 3) "Headers.__setitem__" 162 L code)
    refine Tr.cons (SaT.delH F (PE.name rfl (.head _)) (PE.name rfl (.tail _ (.head _))) (delitem_ok F R1 hn hr (by omega))) ?_
    have e : rowsD (setP rows nm tx) = rowsD (delP rows nm) ++ [.tup [.str nm, .str tx]] := by unfold setP rowsD; rw [List.map_append]; rfl
    rw [e]
    refine Tr.last (Tr.post (SaT.appendH (PE.attrH F (PE.name rfl (.head _))) (PE.dTup (PL.cons Cx.stable (PE.convH F (PE.name rfl (.head _)) (PE.name rfl (.tail _ (.head _))) (conv_ok F R1 hn.nf)) (PL.cons Cx.stable (PE.convH F (PE.name rfl (.head _)) (PE.name rfl (.tail _ (.tail _ (.head _)))) (conv_ok F R1 ht)) PL.nil)) (by simp)) ?_) fun V s p => p.doneM .none)
    unfold rowsD
    have := delP_len rows nm
    simp
    omega
end
end FS
end
section
set_option linter.unusedVariables false
set_option maxRecDepth 100000


namespace FS
open PySem PySem.Calls PySem.W PyProof.Rows

/-- an iterator whose state is more than the heap -/
structure ItrS (prog : Program) (w : World) (A : Around) (I : Addr) (ds : List D) (W : View) (St : Nat → List Addr → Shared → Prop) (Fin : Array GenState → Prop) : Prop where
  frame : ∀ i P (s s' : Shared), 0 < i → St i P s → On W s'.heap → (∀ b ∈ P, ∀ o, s.heap.get? b = some o → s'.heap.get? b = some o) → s'.gens = s.gens → St i P s'
  foot : ∀ i P (s : Shared), St i P s → ∀ b ∈ P, ∃ o, s.heap.get? b = some o
  item : ∀ i P V (s : Shared) (Q : Option Value → Shared → Prop) (E : Value → Shared → Prop), i < ds.length → On V s.heap → (∀ b o, W b = some o → V b = some o) → St i P s →
    (∀ v P' h' tk gs d, ds[i]? = some d → Rd V v d → St (i + 1) P' { s with heap := h', toks := tk, gens := gs } → (∀ b ∈ P', b ∈ P ∨ s.heap.get? b = none) → (∀ b o, b ∉ P → s.heap.get? b = some o → h'.get? b = some o) →
      Q (some v) { s with heap := h', toks := tk, gens := gs }) → wpAny (model prog w) A (pyNext (.ref I)) Q E s
  done : ∀ P V (s : Shared) (Q : Option Value → Shared → Prop) (E : Value → Shared → Prop), On V s.heap → (∀ b o, W b = some o → V b = some o) → St ds.length P s →
    (∀ h' tk gs, Fin gs → (∀ b o, b ∉ P → s.heap.get? b = some o → h'.get? b = some o) → Q none { s with heap := h', toks := tk, gens := gs }) → wpAny (model prog w) A (pyNext (.ref I)) Q E s

section
variable {G : Gd} {env : Env} {he he' V0 V V' : View} {s0 s s' : Shared} {ρ ρ' : Vars} {μ μ' : List (Addr × List D)}
theorem MutL.changeP {h h' : Heap} {P : List Addr} {l : Addr} {ds : List D} (m : MutL V h l ds) (hs : ∀ b o, b ∉ P → h.get? b = some o → h'.get? b = some o) (hn : l ∉ P) : MutL V h' l ds := by
  obtain ⟨items, ⟨o, ho⟩, q⟩ := m
  exact ⟨items, ⟨o, hs l _ hn ho⟩, q⟩
/-- none of the frame's things is in P -/
structure Apart (env : Env) (he V : View) (μ : List (Addr × List D)) (P : List Addr) : Prop where
  loc : env.locals ∉ P
  cel : ∀ x c, env.cells.lookup x = some c → c ∉ P
  mu : ∀ q ∈ μ, q.1 ∉ P
  he : ∀ b ∈ P, he b = none
  V : ∀ b ∈ P, V b = none
theorem Sa.changeP {P : List Addr} {h' : Heap} {tk : Nat} {gs : Array GenState} (p : Sa G env he V0 s0 ρ μ V s) (ap : Apart env he V μ P) (hs : ∀ b o, b ∉ P → s.heap.get? b = some o → h'.get? b = some o) :
    Sa G env he V0 { s0 with gens := gs } ρ μ V { s with heap := h', toks := tk, gens := gs } :=
  have on' : On V h' := fun b o e => hs b o (fun hb => by rw [ap.V b hb] at e; cases e) (p.on b o e)
  { on := on'
    cx :=
      { base := p.cx.base
        fm := fun q hq => by
          obtain ⟨v, at', r⟩ := p.cx.fm q hq
          refine ⟨v, ?_, r⟩
          rcases at' with ⟨e, m, n, q⟩ | ⟨e, x, l, o, ho, hd⟩
          · exact .inl ⟨e, m, n.at' fun o ho => hs _ o ap.loc ho, q⟩
          · exact .inr ⟨e, x, l, o, hs x o (ap.cel _ _ l) ho, hd⟩
        mu := fun q hq => (p.cx.mu q hq).changeP hs (ap.mu q hq) }
    gr := ⟨fun b o e => hs b o (fun hb => by rw [ap.he b hb] at e; cases e) (p.gr.keep b o e), p.gr.sub, on', p.gr.new⟩
    rest := by rw [p.rest]
    loc := p.loc
    locNs := let ⟨m, n⟩ := p.locNs; ⟨m, n.at' fun o ho => hs _ o ap.loc ho⟩
    cel := fun x q hq => by
      obtain ⟨a', b, v, o, ho, hd⟩ := p.cel x q hq
      exact ⟨a', b, v, o, hs q o (ap.cel _ _ hq) ho, hd⟩
    apart := p.apart
    muOwn := p.muOwn
    muApart := p.muApart }
noncomputable def View.putP (he : View) (P : List Addr) (h : Heap) : View := fun b => if b ∈ P then h.get? b else he b
theorem Sa.rebaseP {P : List Addr} (p : Sa G env he V0 s0 ρ μ V s) (ap : Apart env he V μ P) : Sa G env (View.putP he P s.heap) V s0 ρ μ V s :=
  { on := p.on, cx := p.cx
    gr := ⟨fun b o' e => by
        unfold View.putP at e
        by_cases hb : b ∈ P
        · rw [if_pos hb] at e; exact e
        · rw [if_neg hb] at e; exact p.gr.keep b o' e, fun _ _ e => e, p.on, fun _ _ e => .inl e⟩
    rest := p.rest
    loc := ⟨p.loc.1, by unfold View.putP; rw [if_neg ap.loc]; exact p.loc.2⟩
    locNs := p.locNs
    cel := fun x c hx => let ⟨a, b, r⟩ := p.cel x c hx; ⟨a, by unfold View.putP; rw [if_neg (ap.cel x c hx)]; exact b, r⟩
    apart := p.apart
    muOwn := fun q hq => by unfold View.putP; rw [if_neg (ap.mu q hq)]; exact p.muOwn q hq
    muApart := p.muApart }
theorem View.putP_old {P : List Addr} {h : Heap} (hn : ∀ b ∈ P, he b = none) : ∀ b o, he b = some o → View.putP he P h b = some o := fun b o e => by
  unfold View.putP
  by_cases hb : b ∈ P
  · rw [hn b hb] at e; cases e
  · rw [if_neg hb]; exact e
/-- what is not in the heap is none of the frame's -/
theorem Sa.apart_new {P : List Addr} (p : Sa G env he V0 s0 ρ μ V s) (hP : ∀ b ∈ P, s.heap.get? b = none) : Apart env he V μ P where
  loc := fun h => by
    obtain ⟨m, o, es, ep, ho, _⟩ := p.locNs
    rw [hP _ h] at ho; cases ho
  cel := fun x c hx h => by
    obtain ⟨_, _, v, o, ho, _⟩ := p.cel x c hx
    rw [hP _ h] at ho; cases ho
  mu := fun q hq h => by
    obtain ⟨items, ⟨o, ho⟩, _⟩ := p.cx.mu q hq
    rw [hP _ h] at ho; cases ho
  he := fun b hb => by
    cases q : he b with
    | none => rfl
    | some o => have z := hP b hb; rw [p.gr.keep b o q] at z; cases z
  V := fun b hb => p.on.none (hP b hb)
theorem Apart.join {P P' : List Addr} (a : Apart env he V μ P) (h : ∀ b ∈ P', b ∈ P ∨ b ∈ P'.filter (fun b => b ∉ P)) (c : Apart env he V μ (P'.filter fun b => b ∉ P)) : Apart env he V μ P' where
  loc := fun hb => (h _ hb).elim a.loc c.loc
  cel := fun x q hx hb => (h _ hb).elim (a.cel x q hx) (c.cel x q hx)
  mu := fun q hq hb => (h _ hb).elim (a.mu q hq) (c.mu q hq)
  he := fun b hb => (h _ hb).elim (a.he b) (c.he b)
  V := fun b hb => (h _ hb).elim (a.V b) (c.V b)
end

section
variable {prog : Program} {w : World} {A : Around} {G : Gd} {env : Env} {he V0 : View} {s0 : Shared} {R : Value → Asn}
theorem SaT.forS_ {α : Type} {t : Str} {iter : Expr} {body : List Stmt} {px pos : Pos} (ds : List D) (J : Nat → α → Prop) (ρf : Nat → α → Vars) (μf : Nat → α → List (Addr × List D)) (a0 : α) (Fin : Array GenState → Prop)
    (hk : env.scope.kind = .function) (ht : env.kindOf t = some .local ∨ (env.kindOf t = some .cell ∧ (env.cells.lookup t).isSome = true)) (hJ0 : J 0 a0)
    (hit : ∀ V s, Sa G env he V0 s0 (ρf 0 a0) (μf 0 a0) V s → ∀ (Q : Value → Shared → Prop) (E : Value → Shared → Prop),
      (∀ I P St V1 h' tk gs, Grow s.heap V V1 h' → ItrS prog w A I ds V1 St Fin → St 0 P { s with heap := h', toks := tk, gens := gs } → (∀ b ∈ P, s.heap.get? b = none ∧ V1 b = none) → Q (.ref I) { s with heap := h', toks := tk, gens := gs }) →
      wpAny (model prog w) A (eval iter env) (fun x s₁ => wpAny (model prog w) A (pyIter x) Q E s₁) E s)
    (hsub : ∀ i a, Sub t (ρf i a) (ρf i a))
    (hbody : ∀ he' V' s0' i a d, J i a → ds[i]? = some d → Tr (model prog w) A (Sa G env he' V' s0' ((t, d) :: ρf i a) (μf i a)) (execs body env) (fun V s => ∃ a', J (i + 1) a' ∧ Sa G env he' V' s0' (ρf (i + 1) a') (μf (i + 1) a') V s) (fun _ _ _ => False))
    (hs : ∀ x, foldedSetIterable iter env x = pure x := by intro _; rfl) :
    Tr (model prog w) A (Sa G env he V0 s0 (ρf 0 a0) (μf 0 a0)) (exec (.For (.Name t px) iter body [] pos) env) (fun V s => ∃ a' gs, Fin gs ∧ J ds.length a' ∧ Sa G env he V0 { s0 with gens := gs } (ρf ds.length a') (μf ds.length a') V s) R := fun V s p Q E n r => by
  refine wpAny_For (hit V s p _ E fun I P0 St V1 h1 t1 gs1 g1 it st hP0 => ?_) hs
  have p1 : Sa G env he V0 { s0 with gens := gs1 } (ρf 0 a0) (μf 0 a0) V1 { s with heap := h1, toks := t1, gens := gs1 } := by
    have q := p.grow (tk := t1) g1
    exact { on := q.on, cx := q.cx, gr := q.gr, rest := by rw [p.rest], loc := q.loc, locNs := q.locNs, cel := q.cel, apart := q.apart, muOwn := q.muOwn, muApart := q.muApart }
  have ap0 : Apart env he V1 (μf 0 a0) P0 := by
    have a := p.apart_new (P := P0) fun b hb => (hP0 b hb).1
    exact ⟨a.loc, a.cel, a.mu, a.he, fun b hb => (hP0 b hb).2⟩
  refine codeAny_forLoop
    (fun k s' => ∃ i P V' a, i ≤ ds.length ∧ k = ds.length + 1 - i ∧ J i a ∧ Sa G env he V0 { s0 with gens := s'.gens } (ρf i a) (μf i a) V' s' ∧ (∀ b o, V1 b = some o → V' b = some o) ∧ St i P s' ∧ Apart env he V' (μf i a) P) ?_ (ds.length + 1)
    ⟨0, P0, V1, a0, Nat.zero_le _, rfl, hJ0, p1, fun _ _ e => e, st, ap0⟩
  rintro k s' ⟨i, P, V', a, hi, rfl, hJ, p3, sub, st3, ap3⟩
  rcases Nat.lt_or_ge i ds.length with hlt | hge
  · refine it.item i P V' s' _ _ hlt p3.on sub st3 fun v P' h4 tk4 gs4 d hd rv st4 new4 ex4 => ?_
    have p4 := p3.changeP (tk := tk4) (gs := gs4) ap3 ex4
    have ap4 : Apart env he V' (μf i a) P' := ap3.join (fun b hb => by
        by_cases q : b ∈ P
        · exact .inl q
        · exact .inr (List.mem_filter.mpr ⟨hb, by simpa using q⟩))
      (p3.apart_new fun b hb => by
        obtain ⟨hb1, hb2⟩ := List.mem_filter.mp hb
        rcases new4 b hb1 with q | q
        · simp at hb2; exact absurd q hb2
        · exact q)
    refine wpAny_assign_Name (p4.store hk ht rv (hsub i a) fun h5 tk5 p5 kp => ?_)
    have ap5 : Apart env he V' (μf i a) P' := ap4
    have st5 : St (i + 1) P' { s' with heap := h5, toks := tk5, gens := gs4 } := it.frame _ _ _ _ (Nat.succ_pos i) st4 (fun b o e => p5.on b o (sub b o e))
      (fun b hb o e => kp b o (fun z => ap4.loc (z ▸ hb)) (fun y c hc z => ap4.cel y c hc (z ▸ hb)) e) rfl
    have q5 := p5.rebaseP ap5
    refine hbody _ _ _ i a d hJ hd V' _ q5 _ _ (fun V6 s6 ⟨a', hJ', q6⟩ => ?_) (fun v V6 s6 hr => hr.elim)
    have ex : ∀ b o', he b = some o' → View.putP he P' h5 b = some o' := View.putP_old ap5.he
    have p6 := q6.unbase p5 ex
    have keepP : ∀ b ∈ P', ∀ o, h5.get? b = some o → s6.heap.get? b = some o := fun b hb o e => q6.gr.keep b o (by unfold View.putP; rw [if_pos hb]; exact e)
    have e6 : s6.gens = gs4 := by rw [q6.rest]
    refine ⟨ds.length + 1 - (i + 1), by omega, i + 1, P', V6, a', hlt, rfl, hJ', ?_, fun b o' e => q6.gr.sub b o' (sub b o' e), ?_, ?_⟩
    · rw [e6]; exact p6
    · exact it.frame _ _ _ _ (Nat.succ_pos i) st5 (fun b o e => q6.on b o (q6.gr.sub b o (sub b o e))) keepP e6
    · have pres : ∀ b ∈ P', ∃ o, h5.get? b = some o := it.foot _ _ _ st5
      refine ⟨ap5.loc, ap5.cel, fun q hq hb => ?_, ap5.he, fun b hb => ?_⟩
      · have z := q6.muOwn q hq
        obtain ⟨o, ho⟩ := pres _ hb
        unfold View.putP at z
        rw [if_pos hb, ho] at z; cases z
      · cases z : V6 b with
        | none => rfl
        | some o' =>
          rcases q6.gr.new b o' z with e | e
          · rw [ap5.V b hb] at e; cases e
          · obtain ⟨o, ho⟩ := pres b hb
            unfold View.putP at e
            rw [if_pos hb, ho] at e; cases e
  · have hin : i = ds.length := by omega
    subst hin
    refine it.done P V' s' _ _ p3.on sub st3 fun h4 tk4 gs4 hfin ex4 => ?_
    refine wpAny_execs_nil ?_
    exact n V' _ ⟨a, gs4, hfin, hJ, p3.changeP (tk := tk4) (gs := gs4) ap3 ex4⟩
end
end FS
end
section
set_option linter.unusedVariables false
set_option maxRecDepth 100000
namespace FS
open PySem PySem.Calls PySem.W PyProof.Rows

section
variable {prog : Program} {w : World} {A : Around} {R : GenEnd} {Y : Protocol} {n : Nat} {s₀ : Shared} {c : Code} {fs : List Frame} {s : Shared} {env : Env}
  {K : Flow → Sem Fin} {H : Value → Sem Fin} {gd : Bool → Bool} {lv : List Value → List Value}
noncomputable def ownBack (env : Env) (K : Flow → Sem Fin) (H : Value → Sem Fin) (gd : Bool → Bool) (lv : List Value → List Value) (r : Result) : Sem Fin :=
  ((match r with | .ok f => (.pure f : Sem Flow) | .error e => .raise e).onRaise fun (x : Value) => do
        if (← field x 1) == Value.none then unsupported "frame.own-activation:exception-without-traceback"
        setFlight x env.frame).wrap K H gd lv
theorem seg_For {t iter : Expr} {body orelse : List Stmt} {pos : Pos}
    (h : ∀ E, wpAny (model prog w) (A.over c fs) (eval iter env) (fun x s₁ => wpAny (model prog w) (A.over c fs) (pyIter x) (fun it s₂ =>
      ∀ p, Seg (model prog w) A R Y n s₀ (.forLoop t it body orelse env) ((model prog w).den (.forLoop t it body orelse env)) (.ret (ownBack env K H gd lv) none (gd false) (lv []) c p [] :: fs) s₂) E s₁) E s)
    (hs : ∀ x, foldedSetIterable iter env x = pure x := by intro _; rfl) :
    Seg (model prog w) A R Y n s₀ c ((exec (.For t iter body orelse pos) env).wrap K H gd lv) fs s := by
  rw [exec_For]
  show Seg (model prog w) A R Y n s₀ c (.at pos fun _ => (eval iter env >>= fun v => foldedSetIterable iter env v >>= fun x => (standAt iter.pos >>= fun _ => (holding [x] (pyIter x) >>= fun it => runOwn (.forLoop t it body orelse env) env))).wrap K H gd lv) fs s
  refine seg_at ?_
  rw [Sem.bind_eq_wrap', Sem.wrap_wrap]
  refine seg_wrap (wpAny_mono (h _) (fun x s' h' => ?_) fun _ _ z => z)
  rw [hs]
  show Seg (model prog w) A R Y n s₀ c (.at iter.pos fun _ => (holding [x] (pyIter x) >>= fun it => runOwn (.forLoop t it body orelse env) env).wrap K H gd lv) fs s'
  refine seg_at ?_
  rw [Sem.bind_eq_wrap', Sem.wrap_wrap]
  refine seg_wrap (wpAny_holding (wpAny_mono h' (fun it s2 h2 => ?_) fun _ _ z => z))
  exact seg_call h2
theorem seg_forLoop {t : Expr} {it : Value} {body orelse : List Stmt}
    (h : ∀ E, wpAny (model prog w) (A.over (.forLoop t it body orelse env) fs) (pyNext it) (fun r s₁ => match r with
        | none => False
        | some v => wpAny (model prog w) (A.over (.forLoop t it body orelse env) fs) (assign t env v) (fun _ s₂ =>
            ∀ H', Seg (model prog w) A R Y n s₀ (.forLoop t it body orelse env) ((execs body env).wrap (fun f => match f with
            | .next | .cont => .pure (.again (.forLoop t it body orelse env))
            | .brk => .pure (.done .next)
            | .ret v => .pure (.done (.ret v))) H' id id) fs s₂) E s₁) E s)
    (ht : ∀ v, letOwnedTupleGo t it v = pure () := by intro _; rfl) :
    Seg (model prog w) A R Y n s₀ (.forLoop t it body orelse env) ((model prog w).den (.forLoop t it body orelse env)) fs s := by
  show Seg _ A R Y n s₀ _ ((forTurn t it body orelse env).onRaise (fun x => do noteFrame x env; theTreesLotGoes x)) fs s
  rw [Sem.onRaise_eq_wrap]
  unfold forTurn
  show Seg _ A R Y n s₀ _ (.at t.pos fun _ => ((pyNext it).onRaise (fun _ => standAt { t.pos with line := 0 }) >>= _).wrap _ _ _ _) fs s
  refine seg_at ?_
  rw [Sem.bind_eq_wrap', Sem.wrap_wrap]
  refine seg_wrap (wpAny_onRaise (wpAny_mono (h _) (fun r s₁ h₁ => ?_) fun _ _ z => wpAny_standAt z))
  cases r with
  | none => exact h₁.elim
  | some v =>
    dsimp only at h₁ ⊢
    rw [ht]
    show Seg _ A R Y n s₀ _ ((assign t env v >>= _).wrap _ _ _ _) fs s₁
    rw [Sem.bind_eq_wrap', Sem.wrap_wrap]
    refine seg_wrap (wpAny_mono h₁ (fun _ s₂ h₂ => ?_) fun _ _ z => z)
    rw [Sem.bind_eq_wrap', Sem.wrap_wrap]
    rw [Sem.wrap_congr (execs body env) _ _ (K' := fun f => match f with
            | .next | .cont => .pure (.again (.forLoop t it body orelse env))
            | .brk => .pure (.done .next)
            | .ret v => .pure (.done (.ret v))) (fun f => by cases f <;> rfl) (fun _ => rfl)]
    exact h₂ _
end
end FS
end
section
set_option linter.unusedVariables false
set_option maxRecDepth 100000
namespace FS
open PySem PySem.Calls PySem.W PyProof.Rows

noncomputable def D.flat : D → Bool
  | .none | .bool _ | .int _ | .str _ | .val _ => true
  | _ => false
theorem Rd.ofFlat {V V' : View} {v : Value} {d : D} (f : d.flat = true) (r : Rd V v d) : Rd V' v d := by
  cases r <;> first | exact .none | exact .bool _ | exact .int _ _ | exact .str _ _ | exact .val _ | cases f
noncomputable def forT : Stmt → Expr
  | .For t _ _ _ _ => t
  | _ => default
noncomputable def forI : Stmt → Expr
  | .For _ i _ _ _ => i
  | _ => default
noncomputable def forB : Stmt → List Stmt
  | .For _ _ b _ _ => b
  | _ => []
noncomputable def gFor : Stmt := ((fBody (stm 5))[1]?).getD (.Pass ⟨0, 0, 0, 0⟩)
noncomputable def gEnv (L : Addr) (code : Value) : Env := envOf (stm 5) "_grouping_intervals" 52 L code
noncomputable def gLoop (L It : Addr) (code : Value) : Code := .forLoop (forT gFor) (.ref It) (forB gFor) [] (gEnv L code)
/-- the generator's own frame -/
structure GI (G : Gd) (W : View) (L : Addr) (code : Value) (ρ : Vars) (h : Heap) : Prop where
  on : On W h
  base : ∀ b o, G.h₁.get? b = some o → W b = some o
  loc : W L = none
  fm : ∀ p ∈ ρ, p.2.flat = true ∧ (gEnv L code).kindOf p.1 = some .local ∧ ∃ v m, h.Ns L m ∧ m p.1 = some v ∧ Rd W v p.2
  ns : ∃ m, h.Ns L m
section
variable {G : Gd} {W : View} {L : Addr} {code : Value} {ρ : Vars} {s s' : Shared}
theorem GI.keep {h h' : Heap} (g : GI G W L code ρ h) (on : On W h') (k : ∀ o, h.get? L = some o → h'.get? L = some o) : GI G W L code ρ h' where
  on := on
  base := g.base
  loc := g.loc
  fm := fun p hp => let ⟨a, b, v, m, n, q, r⟩ := g.fm p hp; ⟨a, b, v, m, n.at' k, q, r⟩
  ns := let ⟨m, n⟩ := g.ns; ⟨m, n.at' k⟩
theorem GI.toSa (g : GI G W L code ρ s.heap) : Sa G (gEnv L code) (hide s.heap L) W s ρ [] W s where
  on := g.on
  cx := ⟨g.base, fun p hp => let ⟨_, b, v, m, n, q, r⟩ := g.fm p hp; ⟨v, .inl ⟨b, m, n, q⟩, r⟩, fun _ h => nomatch h⟩
  gr := hide_grow g.on
  rest := rfl
  loc := ⟨g.loc, hide_self⟩
  locNs := g.ns
  cel := fun x c hc => nomatch hc
  apart := .nil
  muOwn := fun _ h => nomatch h
  muApart := .nil
theorem Sa.toGI {he V0 V : View} {s0 : Shared} (p : Sa G (gEnv L code) he V0 s0 ρ [] V s) (sub : ∀ b o, W b = some o → V b = some o) (base : ∀ b o, G.h₁.get? b = some o → W b = some o) (loc : W L = none) (hf : ∀ q ∈ ρ, q.2.flat = true ∧ (gEnv L code).kindOf q.1 = some .local) : GI G W L code ρ s.heap where
  on := fun b o e => p.on b o (sub b o e)
  base := base
  loc := loc
  fm := fun q hq => by
    obtain ⟨v, at', r⟩ := p.cx.fm q hq
    obtain ⟨h1, h2⟩ := hf q hq
    rcases at' with ⟨e, m, n, z⟩ | ⟨_, c, l, _⟩
    · exact ⟨h1, h2, v, m, n, z, r.ofFlat h1⟩
    · exact nomatch l
  ns := p.locNs
theorem Tr.retNone {M : Model} {A : Around} {env : Env} {P N : Asn} {R : Value → Asn} {pos : Pos} (h : ∀ V s, P V s → R .none V s) : Tr M A P (exec (.Return none pos) env) N R := fun V s p Q E n r => wpAny_Return_none (r _ _ _ (h V s p))
end
/-- what is told at a yield -/
noncomputable def gY (W : View) (L It : Addr) (sizes : List Int) : Protocol := fun m s₀ v s κ =>
  ∃ h' tk, s = { s₀ with heap := h', toks := tk } ∧ (∀ z, sizes[sizes.length - 1 - m]? = some z → Rd W v (.int z)) ∧ (∀ b o, b ≠ L → b ≠ It → s₀.heap.get? b = some o → h'.get? b = some o) ∧ (∃ o, h'.get? L = some o) ∧ (∃ o, h'.get? It = some o) ∧
    ∀ s'' : Shared, On W s''.heap → (∀ o, h'.get? L = some o → s''.heap.get? L = some o) → (∀ o, h'.get? It = some o → s''.heap.get? It = some o) → κ (.send .none) s''
noncomputable def gP (L It : Addr) (n : Nat) (s₀ s : Shared) : Prop := n = 0 ∧ ∃ h' tk, s = { s₀ with heap := h', toks := tk } ∧ ∀ b o, b ≠ L → b ≠ It → s₀.heap.get? b = some o → h'.get? b = some o
noncomputable abbrev gR (L It : Addr) : GenEnd := fun n s₀ r s => r = .ok (.ret .none) ∧ gP L It n s₀ s
/-- what follows the whole -/
noncomputable abbrev gK (k : Flow → Sem Fin) : Prop := k (.ret .none) = .pure (.done (.ret .none))

theorem PE.globI {M : Model} {A : Around} {G : Gd} {env : Env} {ρ : Vars} {μ : List (Addr × List D)} {x : Str} {pos : Pos} {i : Int} {t : Tok} (hk : env.scope.kind = .function) (hx : env.kindOf x = some .globalImplicit) (hg : env.globals = mainGlobals) (hv : G.mg x = some (.int i t)) (hd : (x == ("__debug__" : Str)) = false := by decide) :
    PE M A (Cx G env ρ μ) (eval (.Name x pos) env) (.int i) := fun V s on c Q E k =>
  Name_function_global hk hx (loadGlobal_global (by rw [hg]; exact G.g.keeps (c.old on)) hv (k _ V s.heap s.toks (.refl on) (.int _ _))) hd
section
variable {w : World} {A : Around} {G : Gd} {W : View} {L It lst : Addr} {code : Value} {sizes : List Int} {items : List Value} {kk : Result → Sem Fin} {cF : Code} {pF : Pos}
theorem gen_loop (F : GF w G) (hh : A.handled = none) (base : ∀ b o, G.h₁.get? b = some o → W b = some o) (hL : W L = none) (hIt : W It = none) (hne : L ≠ It) {nn : Nat} (hlst : W lst = some { cls := .type "list", data := .seq items.toArray nn })
    (hits : RdL W items ((sizes ++ [127, 1]).map D.int)) (hsz : ∀ z ∈ sizes, z ≠ 127 ∧ z ≠ 0) (hkk : kk (.ok (.ret .none)) = .pure (.done (.ret .none))) :
    ∀ (n i : Nat), n + i = sizes.length → ∀ (s₀ s : Shared) (h' : Heap) (tk : Nat), s = { s₀ with heap := h', toks := tk } → (∀ b o, b ≠ L → b ≠ It → s₀.heap.get? b = some o → h'.get? b = some o) →
      GI G W L code [] h' → h'.IsListIter It lst i →
      Seg (model pw w) A (gR L It) (gY W L It sizes) n s₀ (gLoop L It code) ((model pw w).den (gLoop L It code)) [.ret kk none false [] cF pF []] s := by
  have hlt : ∀ h : Heap, On W h → h.IsList lst items.toArray := fun h on => ⟨_, on _ _ hlst, rfl, _, rfl⟩
  have hlI : lst ≠ It := by rintro rfl; rw [hIt] at hlst; cases hlst
  have hlen : items.length = sizes.length + 2 := by rw [hits.length]; simp
  have walk := fun (AA : Around) (hA : AA.handled = none) => Walks.list (prog := pw) (w := w) (A := AA) hA It lst hlI items.toArray
  have onIt : ∀ {h h1 : Heap}, On W h → (∀ b o, b ∉ [It] → h.get? b = some o → h1.get? b = some o) → On W h1 := fun on ex b o e => ex b o (by
    simp only [List.mem_singleton]; rintro rfl; rw [hIt] at e; cases e) (on b o e)
  obtain ⟨tc, hcm⟩ := F.g_charmax
  intro n
  induction n with
  | zero =>
    intro i hi s₀ s h' tk hs hfr gi hit
    subst hs
    refine seg_forLoop (t := forT gFor) (body := forB gFor) (env := gEnv L code) fun E => ?_
    refine (walk _ (by show (marksOver _ _).1 = none; exact hh)).item i _ _ _ (by simp; omega) ⟨hit, hlt _ gi.on⟩ fun v h1 tk1 hv st1 ex1 => ?_
    have gi1 : GI G W L code [] h1 := gi.keep (onIt gi.on ex1) fun o e => ex1 L o (by simpa using hne) e
    have hr : Rd W v (.int 127) := by
      obtain ⟨u, hu, ru⟩ := hits.get (i := i) (d := .int 127) (by rw [show i = sizes.length by omega, List.map_append, List.getElem?_append_right (by simp)]; simp)
      have : items[i]? = some v := by simpa using hv
      rw [this] at hu; cases hu; exact ru
    have p1 := GI.toSa (s := { s₀ with heap := h1, toks := tk1 }) gi1
    refine wpAny_assign_Name (p1.store rfl (.inl rfl) hr .nil fun h2 tk2 q2 kp2 => fun H' => ?_)
    refine seg_execs_cons (seg_wrap ?_)
    refine (SaT.if_ (c := true) (N := fun _ _ => False) (R := fun v V s => v = .none ∧ Sa G (gEnv L code) (hide h1 L) W { s₀ with heap := h1, toks := tk1 } [(Str.ofString "interval", .int 127)] [] V s) (PB.compare Cx.stable (PE.name rfl (.head _)) (PE.globI rfl rfl rfl hcm) op_eq_int) (fun _ => Tr.last (Tr.retNone fun V s p => ⟨rfl, p⟩)) (fun hc => nomatch hc)) W _ q2 _ _ (fun _ _ hf => hf.elim) (fun v3 V3 s3 h3 => ?_)
    obtain ⟨rfl, q3⟩ := h3
    refine seg_leaf (.ok (.ret .none)) ?_
    rw [hkk]
    refine seg_end (.ok (.ret .none)) ⟨rfl, rfl, s3.heap, s3.toks, q3.rest, fun b o hb1 hb2 e => ?_⟩
    exact q3.gr.keep b o (by rw [hide_ne hb1]; exact ex1 b o (by simpa using hb2) (hfr b o hb1 hb2 e))
  | succ n ih =>
    intro i hi s₀ s h' tk hs hfr gi hit
    subst hs
    have hil : i < sizes.length := by omega
    obtain ⟨z, hz⟩ : ∃ z, sizes[i]? = some z := ⟨sizes[i], by simp [hil]⟩
    have hzm := hsz z (List.mem_of_getElem? hz)
    refine seg_forLoop (t := forT gFor) (body := forB gFor) (env := gEnv L code) fun E => ?_
    refine (walk _ (by show (marksOver _ _).1 = none; exact hh)).item i _ _ _ (by simp; omega) ⟨hit, hlt _ gi.on⟩ fun v h1 tk1 hv st1 ex1 => ?_
    have gi1 : GI G W L code [] h1 := gi.keep (onIt gi.on ex1) fun o e => ex1 L o (by simpa using hne) e
    have hr : Rd W v (.int z) := by
      obtain ⟨u, hu, ru⟩ := hits.get (i := i) (d := .int z) (by rw [List.map_append, List.getElem?_append_left (by simpa using hil), List.getElem?_map, hz]; rfl)
      have : items[i]? = some v := by simpa using hv
      rw [this] at hu; cases hu; exact ru
    have p1 := GI.toSa (s := { s₀ with heap := h1, toks := tk1 }) gi1
    refine wpAny_assign_Name (p1.store rfl (.inl rfl) hr .nil fun h2 tk2 q2 kp2 => fun H' => ?_)
    refine seg_execs_cons (seg_wrap ?_)
    refine (SaT.if_ (c := false) (N := Sa G (gEnv L code) (hide h1 L) W { s₀ with heap := h1, toks := tk1 } [(Str.ofString "interval", .int z)] []) (R := fun _ _ _ => False) (by
      have e : (z == 127) = false := by simpa using hzm.1
      rw [← e]
      exact PB.compare Cx.stable (PE.name rfl (.head _)) (PE.globI rfl rfl rfl hcm) op_eq_int) (fun hc => nomatch hc) (fun _ => Tr.nil fun _ _ n => n)) W _ q2 _ _ (fun V3 s3 q3 => ?_) (fun _ _ _ hf => hf.elim)
    refine seg_execs_cons (seg_wrap ?_)
    refine (SaT.if_ (c := false) (N := Sa G (gEnv L code) (hide h1 L) W { s₀ with heap := h1, toks := tk1 } [(Str.ofString "interval", .int z)] []) (R := fun _ _ _ => False) (by
      have e : (z == 0) = false := by simpa using hzm.2
      rw [← e]
      exact PB.compare Cx.stable (PE.name rfl (.head _)) PE.cInt op_eq_int) (fun hc => nomatch hc) (fun _ => Tr.nil fun _ _ n => n)) V3 _ q3 _ _ (fun V4 s4 q4 => ?_) (fun _ _ _ hf => hf.elim)
    refine seg_execs_cons ?_
    refine seg_Expr_Yield rfl rfl rfl ?_
    refine (PE.name (d := .int z) rfl (.head _)) V4 s4 q4.on q4.cx _ _ fun v5 V5 h5 tk5 g5 r5 => fun κ hκ => ?_
    have q5 := q4.grow (tk := tk5) g5
    have gi5 := q5.toGI (W := W) q5.gr.sub base hL (fun q hq => by
      have : q = (Str.ofString "interval", .int z) := by simpa using hq
      subst this; exact ⟨rfl, rfl⟩)
    have it5 : h5.IsListIter It lst (i + 1) := st1.1.at fun o e => q5.gr.keep It o (by rw [hide_ne (Ne.symm hne)]; exact e)
    refine ⟨h5, tk5, by rw [q4.rest], ?_, fun b o hb1 hb2 e => ?_, ?_, ?_, fun s6 on6 kL kI => hκ _ _ ?_⟩
    · intro z' hz'
      have : sizes.length - 1 - n = i := by omega
      rw [this, hz] at hz'
      cases hz'
      exact r5.ofFlat rfl
    · exact q5.gr.keep b o (by rw [hide_ne hb1]; exact ex1 b o (by simpa using hb2) (hfr b o hb1 hb2 e))
    · obtain ⟨m, o, es, ep, ho, _⟩ := gi5.ns; exact ⟨o, ho⟩
    · obtain ⟨o, ho, _⟩ := it5; exact ⟨o, ho⟩
    · have gi6 := gi5.keep on6 kL
      have it6 := it5.at kI
      have p6 := GI.toSa (s := s6) gi6
      refine seg_execs_cons (seg_wrap ?_)
      refine (SaT.assign (R := fun _ _ _ => False) (d := .int z) rfl (.inl rfl) (PE.name rfl (.head _)) (.cons (by show Str.ofString "interval" ≠ Str.ofString "last_interval"; decide) .nil)) W s6 p6 _ _ (fun V7 s7 q7 => ?_) (fun _ _ _ hf => hf.elim)
      refine seg_execs_nil ?_
      refine seg_again rfl ?_
      have gi7 := (q7.weaken (ρ' := []) (fun _ h => nomatch h)).toGI (W := W) q7.gr.sub base hL (fun _ h => nomatch h)
      refine ih (i + 1) (by omega) s6 s7 s7.heap s7.toks q7.rest (fun b o hb1 hb2 e => q7.gr.keep b o (by rw [hide_ne hb1]; exact e)) gi7 (it6.at fun o e => q7.gr.keep It o (by rw [hide_ne (Ne.symm hne)]; exact e))
end
end FS
end
section
set_option linter.unusedVariables false
set_option maxRecDepth 100000
namespace FS
open PySem PySem.Calls PySem.W PyProof.Rows

section
variable {w : World} {A : Around} {G : Gd} {W : View} {L It lst : Addr} {code : Value} {sizes : List Int} {items : List Value}
theorem gen_start (F : GF w G) (hh : A.handled = none) (base : ∀ b o, G.h₁.get? b = some o → W b = some o) (hL : W L = none) (hIt : W It = none) (hne : L ≠ It) {nn : Nat} (hlst : W lst = some { cls := .type "list", data := .seq items.toArray nn })
    (hits : RdL W items ((sizes ++ [127, 1]).map D.int)) (hsz : ∀ z ∈ sizes, z ≠ 127 ∧ z ≠ 0) {s₀ : Shared} (hsize : s₀.heap.objs.size = It) (gi : GI G W L code [(Str.ofString "grouping", .val (.ref lst))] s₀.heap) :
    Seg (model pw w) A (gR L It) (gY W L It sizes) sizes.length s₀ (.func (fBody (stm 5)) (gEnv L code)) ((model pw w).den (.func (fBody (stm 5)) (gEnv L code))) [] s₀ := by
  refine seg_func ?_
  refine seg_execs_cons (seg_wrap ?_)
  obtain ⟨_, hk, v, m, ns, hm, rv⟩ := gi.fm _ (.head _)
  have hv : v = .ref lst := by cases rv; rfl
  subst hv
  refine wpAny_Assign_Name (wpAny_Constant_none (wpAny_storeName_local rfl ns fun h1 ns1 sb1 => ?_))
  refine seg_execs_cons ?_
  refine seg_For (t := forT gFor) (iter := forI gFor) (body := forB gFor) fun E => ?_
  have on1 : On W h1 := fun b o e => sb1.extBut b o (fun q => by have q' : b = L := q; rw [q', hL] at e; cases e) (gi.on b o e)
  refine wpAny_Name (wpAny_loadName_local rfl rfl ns1 (v := .ref lst) (by show (if Str.ofString "grouping" = Str.ofString "last_interval" then some Value.none else m (Str.ofString "grouping")) = _; rw [if_neg (by decide)]; exact hm) ?_) (by decide)
  have hl : h1.IsList lst items.toArray := ⟨_, on1 _ _ hlst, rfl, _, rfl⟩
  refine wpAny_pyIter_list hl fun p => ?_
  have hs1 : h1.objs.size = It := by rw [sb1.1]; exact hsize
  have key := gen_loop (cF := .func (fBody (stm 5)) (gEnv L code)) (pF := p) (code := code) F hh base hL hIt hne hlst hits hsz (kk := ownBack (gEnv L code) (fun f => match f with
      | .next => (execs [] (gEnv L code)).wrap (fun f => .pure (.done (.ret (match f with | .ret v => v | _ => .none)))) (fun e => (leaving (gEnv L code) e).wrap (fun _ => .raise e) .raise id id) id id
      | f => .pure (.done (.ret (match f with | .ret v => v | _ => .none)))) (fun e => (leaving (gEnv L code) e).wrap (fun _ => .raise e) .raise id id) id id) rfl
    sizes.length 0 rfl s₀ { s₀ with heap := h1.push { cls := .type "list_iterator", dict := none, data := .fields #[.ref lst, .int 0 0] }, toks := s₀.toks + 1 } _ _ rfl ?_ ?_ ?_
  · rw [← hs1] at key
    rw [hs1]
    rw [hs1] at key
    exact key
  · intro b o hb1 hb2 e
    exact Heap.get?_push_of_some _ (sb1.extBut b o hb1 e)
  · exact ⟨fun b o e => Heap.get?_push_of_some _ (on1 b o e), base, hL, (fun _ h => nomatch h), ⟨_, ns1.push _⟩⟩
  · have e := Heap.get?_push_size h1 (o := { cls := .type "list_iterator", dict := none, data := .fields #[.ref lst, .int 0 0] }) rfl
    rw [hs1] at e
    exact ⟨_, e, rfl, rfl⟩

noncomputable def gSt (w : World) (A : Around) (W : View) (I L It : Addr) (sizes : List Int) (bs : Array GenState) (i : Nat) (P : List Addr) (s : Shared) : Prop :=
  P = (if i = 0 then [I, L] else [I, L, It]) ∧ s.heap.IsGen I bs.size ∧ On W s.heap ∧ (∀ b ∈ P, ∃ o, s.heap.get? b = some o) ∧ (i = 0 → s.heap.objs.size = It) ∧
    ∃ st, s.gens = bs.push st ∧ ∀ s'' : Shared, On W s''.heap → (∀ b ∈ P, ∀ o, s.heap.get? b = some o → s''.heap.get? b = some o) → (i = 0 → s''.heap.objs.size = It) →
      st.Goes (model pw w) A.in1 (gR L It) (gY W L It sizes) (sizes.length - i) (.send .none) s''
theorem push_set {α : Type} (bs : Array α) (a x : α) : (bs.push a).setIfInBounds bs.size x = bs.push x := by
  apply Array.toList_inj.mp
  simp
theorem push_setGen {s : Shared} {bs : Array GenState} {st x : GenState} (h : s.gens = bs.push st) : (s.setGen bs.size x).gens = bs.push x := by
  unfold Shared.setGen
  rw [h]
  exact push_set _ _ _
theorem gen_itr (hh : A.handled = none) (hroom : A.depth < recursionLimit) {I : Addr} {bs : Array GenState} (base : ∀ b o, G.h₁.get? b = some o → W b = some o) (hL : W L = none) (hIt : W It = none) (hI : W I = none) (hIL : I ≠ L) (hII : I ≠ It) (hLI : L ≠ It) :
    ItrS pw w A I (sizes.map D.int) W (gSt w A W I L It sizes bs) (· = bs.push .finished) where
  frame := fun i P s s' hi ⟨h1, h2, h3, h4, h5, st, h6, h7⟩ on k hg => by
    have hP : I ∈ P := by rw [h1]; split <;> simp
    refine ⟨h1, ?_, on, fun b hb => let ⟨o, e⟩ := h4 b hb; ⟨o, k b hb o e⟩, fun q => absurd q (by omega), st, hg.trans h6, fun s'' on'' k'' q => h7 s'' on'' (fun b hb o e => k'' b hb o (k b hb o e)) (fun q => absurd q (by omega))⟩
    obtain ⟨o, nm, qn, ho, r⟩ := h2
    exact ⟨o, nm, qn, k I hP o ho, r⟩
  foot := fun i P s ⟨h1, h2, h3, h4, h5⟩ => h4
  item := fun i P V s Q E hi on sub ⟨h1, h2, h3, h4, h5, st, h6, h7⟩ hQ => by
    simp only [List.length_map] at hi
    have hl : s.heap.NoLimit := G.nolim.keeps fun b o e => h3 b o (base b o e)
    have hgs : s.gens[bs.size]? = some st := by rw [h6]; simp
    have hPL : L ∈ P := by rw [h1]; split <;> simp
    obtain ⟨m, hm⟩ : ∃ m, sizes.length - i = m + 1 := ⟨sizes.length - i - 1, by omega⟩
    refine wpAny_pyNext_gen (P := gP L It) (Y := gY W L It sizes) (n := sizes.length - i) hh hl hroom h2 hgs (h7 _ h3 (fun _ _ _ e => e) h5) (fun v s₁ gs' hY => ?_) (fun s₁ hP => ?_)
    · rw [hm] at hY
      obtain ⟨h', tk, hs1, hv, hk, hL', hI', hκ⟩ := hY
      subst hs1
      have e1 : (({ s.setGen bs.size .running with heap := h', toks := tk } : Shared).setGen bs.size gs') = { s with heap := h', toks := tk, gens := bs.push gs' } := by
        unfold Shared.setGen
        simp only [Shared.mk.injEq, true_and, and_true]
        rw [h6]; simp [push_set]
      rw [e1]
      have hz : sizes[i]? = some sizes[i] := by simp [hi]
      have on' : On W h' := fun b o e => hk b o (by rintro rfl; rw [hL] at e; cases e) (by rintro rfl; rw [hIt] at e; cases e) (h3 b o e)
      have isG : h'.IsGen I bs.size := by
        obtain ⟨o, nm, qn, ho, r⟩ := h2
        exact ⟨o, nm, qn, hk I o hIL hII ho, r⟩
      refine hQ v [I, L, It] h' tk (bs.push gs') (.int sizes[i]) (by rw [List.getElem?_map, hz]; rfl) ((hv sizes[i] (by
          have : sizes.length - 1 - (m + 1 - 1) = i := by omega
          rw [this, hz])).ofFlat rfl) ⟨by rw [if_neg (by omega)], isG, on', ?_, fun q => absurd q (by omega), gs', rfl, fun s'' on'' k'' _ => ?_⟩ ?_ ?_
      · intro b hb
        simp only [List.mem_cons, List.not_mem_nil, or_false] at hb
        rcases hb with rfl | rfl | rfl
        · obtain ⟨o, nm, qn, ho, r⟩ := isG; exact ⟨o, ho⟩
        · exact hL'
        · exact hI'
      · have := hκ s'' on'' (k'' L (by simp)) (k'' It (by simp))
        have e2 : sizes.length - (i + 1) = m := by omega
        rw [e2]
        exact this
      · intro b hb
        simp only [List.mem_cons, List.not_mem_nil, or_false] at hb
        rw [h1]
        rcases hb with rfl | rfl | rfl
        · left; split <;> simp
        · left; split <;> simp
        · split
          · rename_i hi0
            right
            exact none_ge _ (Nat.le_of_eq (h5 hi0))
          · left; simp
      · intro b o hb e
        refine hk b o (fun q => hb (q ▸ hPL)) (fun q => ?_) e
        subst q
        by_cases hi0 : i = 0
        · have := Heap.lt_size (show s.heap.get? b = some o from e)
          rw [h5 hi0] at this
          exact absurd this (Nat.lt_irrefl _)
        · rw [h1, if_neg hi0] at hb; exact hb (by simp)
    · exact absurd hP.1 (by omega)
  done := fun P V s Q E on sub ⟨h1, h2, h3, h4, h5, st, h6, h7⟩ hQ => by
    simp only [List.length_map] at h1 h5 h7
    have hl : s.heap.NoLimit := G.nolim.keeps fun b o e => h3 b o (base b o e)
    have hgs : s.gens[bs.size]? = some st := by rw [h6]; simp
    have hPL : L ∈ P := by rw [h1]; split <;> simp
    have e0 : sizes.length - sizes.length = 0 := Nat.sub_self _
    refine wpAny_pyNext_gen (P := gP L It) (Y := gY W L It sizes) (n := 0) hh hl hroom h2 hgs (by have := h7 (s.setGen bs.size .running) h3 (fun _ _ _ e => e) h5; rw [e0] at this; exact this) (fun v s₁ gs' hY => ?_) (fun s₁ hP => ?_)
    · obtain ⟨h', tk, hs1, hv, hk, hL', hI', hκ⟩ := hY
      subst hs1
      have on' : On W h' := fun b o e => hk b o (by rintro rfl; rw [hL] at e; cases e) (by rintro rfl; rw [hIt] at e; cases e) (h3 b o e)
      exact (hκ { s with heap := h' } on' (fun _ e => e) (fun _ e => e)).elim
    · obtain ⟨_, h', tk, hs1, hk⟩ := hP
      subst hs1
      intro h'' k''
      have e1 : ({ ({ s.setGen bs.size .running with heap := h', toks := tk } : Shared).setGen bs.size .finished with heap := h'' } : Shared) = { s with heap := h'', toks := tk, gens := bs.push .finished } := by
        unfold Shared.setGen
        simp only [Shared.mk.injEq, true_and, and_true]
        rw [h6]; simp [push_set]
      rw [e1]
      refine hQ h'' tk _ rfl fun b o hb e => ?_
      refine k'' b o (hk b o (fun q => hb (q ▸ hPL)) (fun q => ?_) e)
      subst q
      by_cases hi0 : sizes.length = 0
      · have := Heap.lt_size (show s.heap.get? b = some o from e)
        rw [h5 hi0] at this
        exact absurd this (Nat.lt_irrefl _)
      · rw [h1, if_neg hi0] at hb; exact hb (by simp)
end
end FS
end
section
set_option linter.unusedVariables false
set_option maxRecDepth 100000
namespace FS
open PySem PySem.Calls PySem.W PyProof.Rows

section
variable {w : World} {A : Around} {G : Gd} {env : Env} {ρ : Vars} {μ : List (Addr × List D)} {sizes : List Int} {n : Nat}
theorem gen_hit {np pos : Pos} {e : Expr} (F : GF w G) (R : Room A (n + 1)) (hk : env.scope.kind = .function) (hx : env.kindOf (Str.ofString "_grouping_intervals") = some .globalImplicit) (hg : env.globals = mainGlobals)
    (h2 : PL (model pw w) A (Cx G env ρ μ) (spliced (backTo pos (starEach [e] env))) [.list ((sizes ++ [127, 1]).map D.int)]) (hsz : ∀ z ∈ sizes, z ≠ 127 ∧ z ≠ 0)
    (hpl : ((backTo pos (starEach [e] env)).any (·.1)) = false := by rfl) (he : starEach [e] env = (false, eval e env) :: starEach [] env := by rfl) :
    ∀ V s, On V s.heap → Cx G env ρ μ V s.heap → ∀ (Q : Value → Shared → Prop) (E : Value → Shared → Prop),
      (∀ I P St V1 h' tk gs, Grow s.heap V V1 h' → ItrS pw w A I (sizes.map D.int) V1 St (· = s.gens.push .finished) → St 0 P { s with heap := h', toks := tk, gens := gs } → (∀ b ∈ P, s.heap.get? b = none ∧ V1 b = none) → Q (.ref I) { s with heap := h', toks := tk, gens := gs }) →
      wpAny (model pw w) A (eval (.Call (.Name (Str.ofString "_grouping_intervals") np) [e] [] pos) env) (fun x s₁ => wpAny (model pw w) A (pyIter x) Q E s₁) E s := fun V s on cx Q E k => by
  refine wpAny_Call_NameR ((PE.glob (ρ := ρ) (μ := μ) hk hx hg F.g_grouping) V s on cx _ E fun v0 V1 h1 t1 g1 r1 => ?_)
  have hv0 : v0 = .ref 52 := by cases r1; rfl
  subst hv0
  have cx1 := cx.stable _ _ _ _ g1
  refine callWith_of (P := fun h => Keeps1 (model pw w) (.ref 52) h) (by rw [hpl]; rfl) (fun h x => x) ?_
  have go : wpAny (model pw w) A (spliced (backTo pos (starEach [e] env))) (fun vs s₁ => Keeps1 (model pw w) (.ref 52) s₁.heap ∧ wpAny (model pw w) A (call (.ref 52) ([] ++ vs)) (fun x s₁ => wpAny (model pw w) A (pyIter x) Q E s₁) E s₁) E { s with heap := h1, toks := t1 } := by
    refine h2 V1 _ g1.on cx1 _ E fun vs V2 h2 t2 g2 r2 => ?_
    have cx2 := cx1.stable _ _ _ _ g2
    have old : ∀ b o, G.h₁.get? b = some o → h2.get? b = some o := cx2.old g2.on
    refine ⟨F.f_grouping.keeps1 old, ?_⟩
    obtain ⟨lv, rfl, rl⟩ := r2.one
    cases rl with
    | list el ql =>
      rename_i lst items nn
      obtain ⟨doc, pm, code, ct, an, o, ho, hd, hcr⟩ := F.f_grouping
      refine wpAny_call ?_
      refine codeAny_call_generator R.lt (old _ _ ho) hd rfl rfl rfl (hcr.keeps old) ?_
      rw [show bindArgs (fdOf (stm 5) "_grouping_intervals" .none .none doc pm code ct an) ⟨[] ++ [.ref lst], []⟩ = pure [(Str.ofString "grouping", .ref lst)] from rfl]
      refine wpAny_pure (wpAny_newFunctionEnv_cells rfl ?_ fun env' henv s' hin => ?_)
      · intro x hx
        simp only [List.mem_cons, List.not_mem_nil, or_false] at hx
        subst hx
        exact .inl rfl
      · obtain ⟨h', tk, e1, kp⟩ := hin.done
        subst e1
        have henv' : env' = gEnv h2.objs.size code := henv
        subst henv'
        have keep2 : ∀ b o, h2.get? b = some o → h'.get? b = some o := kp
        have hns := hin.toInCall.ns
        dsimp only at hns ⊢
        have g3 : Grow h2 V2 V2 h' := .skip g2.on keep2
        refine ⟨G.nolim.keeps fun b o e => keep2 _ _ (old b o e), ?_⟩
        generalize hgo : ({ cls := .type "generator", data := .fields #[.int s.gens.size 0, .str (fdOf (stm 5) "_grouping_intervals" .none .none doc pm code ct an).name tk, .str (fdOf (stm 5) "_grouping_intervals" .none .none doc pm code ct an).qualname (tk + 1)] } : Obj) = go
        have gof : go.isFreed = false := by rw [← hgo]; rfl
        have isG : (h'.push go).IsGen h'.objs.size s.gens.size := ⟨go, _, _, Heap.get?_push_size _ gof, by rw [← hgo], by rw [← hgo], by rw [← hgo]⟩
        have g4 : Grow h' V2 V2 (h'.push go) := Grow.pushSkip g3.on go
        refine wpAny_pyIter_gen isG ?_
        have gAll : Grow s.heap V V2 (h'.push go) := ((g1.trans g2).trans g3).trans g4
        obtain ⟨oL, esL, epL, hoL, hrL⟩ := id hns
        have hoL' : h'.get? h2.objs.size = some oL := hoL
        have hLlt : h2.objs.size < h'.objs.size := Heap.lt_size hoL'
        have hVL : V2 h2.objs.size = none := g2.on.none (none_ge _ (Nat.le_refl _))
        have hVI : V2 h'.objs.size = none := g3.on.none (none_ge _ (Nat.le_refl _))
        have hVIt : V2 (h'.push go).objs.size = none := g4.on.none (none_ge _ (Nat.le_refl _))
        have hIlt : h'.objs.size < (h'.push go).objs.size := by rw [Heap.size_push]; exact Nat.lt_succ_self _
        have back : ∀ b, h2.get? b = none → s.heap.get? b = none := fun b hb => by
          cases q : s.heap.get? b with
          | none => rfl
          | some o => rw [(g1.trans g2).keep b o q] at hb; cases hb
        refine k h'.objs.size [h'.objs.size, h2.objs.size] (gSt w A V2 h'.objs.size h2.objs.size (h'.push go).objs.size sizes s.gens) V2 _ _ _ gAll
          (gen_itr (G := G) R.hh R.lt cx2.base hVL hVIt hVI (Nat.ne_of_gt hLlt) (Nat.ne_of_lt hIlt) (Nat.ne_of_lt (Nat.lt_trans hLlt hIlt))) ⟨rfl, isG, g4.on, ?_, fun _ => rfl, .fresh (.func (fBody (stm 5)) (gEnv h2.objs.size code)), rfl, fun s'' on'' k'' hz => ⟨rfl, ?_⟩⟩ ?_
        · intro b hb
          simp only [List.mem_cons, List.not_mem_nil, or_false] at hb
          rcases hb with rfl | rfl
          · obtain ⟨o, _, _, ho, _⟩ := isG; exact ⟨o, ho⟩
          · exact ⟨oL, Heap.get?_push_of_some _ hoL'⟩
        · have nsL : (h'.push go).Ns h2.objs.size (bindL (gEnv h2.objs.size code).kindOf [(Str.ofString "grouping", .ref lst)] fun _ => none) := hns.push go
          refine gen_start (A := A.in1) (sizes := sizes) (items := items) F R.hh cx2.base hVL hVIt (Nat.ne_of_lt (Nat.lt_trans hLlt hIlt)) el ql hsz (hz rfl) ⟨on'', cx2.base, hVL, ?_, ?_⟩
          · intro p hp
            have : p = (Str.ofString "grouping", .val (.ref lst)) := by simpa using hp
            subst this
            exact ⟨rfl, rfl, _, _, nsL.at' (k'' h2.objs.size (by simp)), rfl, .val _⟩
          · exact ⟨_, nsL.at' (k'' h2.objs.size (by simp))⟩
        · intro b hb
          simp only [List.mem_cons, List.not_mem_nil, or_false] at hb
          rcases hb with rfl | rfl
          · exact ⟨back _ (none_ge _ (Nat.le_of_lt hLlt)), hVI⟩
          · exact ⟨back _ (none_ge _ (Nat.le_refl _)), hVL⟩
  rw [he] at go ⊢
  exact evalArgs_plain go
end
end FS
end
section
set_option linter.unusedVariables false
set_option maxRecDepth 100000
namespace FS
open PySem PySem.Calls PySem.W PyProof.Rows

/-- the order number of what lies at a place -/
noncomputable def numAtK (kf : Value → Int) (xs : Array Keyed) (i : Nat) : Int := match xs[i]? with
  | some p => kf p.1
  | none => 0
noncomputable def Rises (kf : Value → Int) (xs : Array Keyed) (k : Nat) : Prop := ∀ i j, i < j → j < k → numAtK kf xs i < numAtK kf xs j
noncomputable def Falls (kf : Value → Int) (xs : Array Keyed) (k : Nat) : Prop := ∀ i j, i < j → j < k → numAtK kf xs j < numAtK kf xs i
theorem numAtK_congr {kf : Value → Int} {xs ys : Array Keyed} {i j : Nat} (h : xs[i]? = ys[j]?) : numAtK kf xs i = numAtK kf ys j := by unfold numAtK; rw [h]
/-- a sort under way: the same pairs, the kind, no failure, nothing pending -/
structure Under (kd : SortKind) (a₀ : Array Keyed) (st : SortSt) : Prop where
  perm : (arrOf st).Perm a₀
  kind : kindOf st = kd
  ok : failedOf st = none
  pend : pendingOf st = #[]
/-- what the comparisons tell -/
structure Cmp (prog : Program) (w : World) (A : Around) (s : Shared) (kd : SortKind) (kf : Value → Int) (a₀ : Array Keyed) : Prop where
  lt : ∀ p ∈ a₀.toList, ∀ q ∈ a₀.toList, p ≠ q → ∀ (Q : Bool → Shared → Prop) (E : Value → Shared → Prop), Q (decide (kf p.1 < kf q.1)) s → wpAny (model prog w) A (keyLt' kd p.1 q.1) Q E s
  inj : ∀ p ∈ a₀.toList, ∀ q ∈ a₀.toList, p ≠ q → kf p.1 ≠ kf q.1
  nodup : a₀.toList.Nodup

section
variable {prog : Program} {w : World} {A : Around} {E : Value → Shared → Prop} {s : Shared} {a₀ : Array Keyed} {kd : SortKind} {kf : Value → Int} {st : SortSt}
theorem Under.size (u : Under kd a₀ st) : (arrOf st).size = a₀.size := u.perm.size_eq
theorem Under.set (u : Under kd a₀ st) {xs : Array Keyed} (h : xs.Perm (arrOf st)) : Under kd a₀ (setArr st xs) := ⟨h.trans u.perm, u.kind, u.ok, u.pend⟩
theorem Under.get (u : Under kd a₀ st) {i : Nat} (h : i < a₀.size) : ∃ p ∈ a₀.toList, (arrOf st)[i]? = some p ∧ numAtK kf (arrOf st) i = kf p.1 := by
  have hi : i < (arrOf st).size := by rw [u.size]; exact h
  have e : (arrOf st)[i]? = some (arrOf st)[i] := getElem?_pos _ i hi
  refine ⟨(arrOf st)[i], (Array.perm_iff_toList_perm.mp u.perm).mem_iff.mp (by simp), e, ?_⟩
  unfold numAtK; rw [e]
theorem Under.nodup (u : Under kd a₀ st) (c : Cmp prog w A s kd kf a₀) : (arrOf st).toList.Nodup := (Array.perm_iff_toList_perm.mp u.perm).nodup_iff.mpr c.nodup
theorem Under.differ (u : Under kd a₀ st) (c : Cmp prog w A s kd kf a₀) {i j : Nat} {p q : Keyed} (hij : i ≠ j) (hp : (arrOf st)[i]? = some p) (hq : (arrOf st)[j]? = some q) : p ≠ q := by
  rintro rfl
  have hp' : (arrOf st).toList[i]? = some p := by simpa using hp
  have hq' : (arrOf st).toList[j]? = some p := by simpa using hq
  obtain ⟨h1, e1⟩ := List.getElem?_eq_some_iff.mp hp'
  obtain ⟨h2, e2⟩ := List.getElem?_eq_some_iff.mp hq'
  have nd := List.pairwise_iff_getElem.mp (u.nodup c)
  rcases Nat.lt_or_gt_of_ne hij with z | z
  · exact nd i j h1 h2 z (e1.trans e2.symm)
  · exact nd j i h2 h1 z (e2.trans e1.symm)
theorem Under.ne (u : Under kd a₀ st) (c : Cmp prog w A s kd kf a₀) {i j : Nat} (hi : i < a₀.size) (hj : j < a₀.size) (hij : i ≠ j) : numAtK kf (arrOf st) i ≠ numAtK kf (arrOf st) j := by
  obtain ⟨p, hp, ep, np⟩ := u.get (kf := kf) hi
  obtain ⟨q, hq, eq, nq⟩ := u.get (kf := kf) hj
  rw [np, nq]
  exact c.inj p hp q hq (u.differ c hij ep eq)
/-- one comparison -/
theorem ask (c : Cmp prog w A s kd kf a₀) (u : Under kd a₀ st) {i j : Nat} {Q : Option Bool → SortSt → Prop} (hi : i < a₀.size) (hj : j < a₀.size) (hij : i ≠ j)
    (h : Q (some (decide (numAtK kf (arrOf st) i < numAtK kf (arrOf st) j))) st) : wpS (model prog w) A E s (ltAt' i j) Q st := by
  obtain ⟨p, hp, ep, np⟩ := u.get (kf := kf) hi
  obtain ⟨q, hq, eq, nq⟩ := u.get (kf := kf) hj
  rw [np, nq] at h
  rw [ltAt'_eq]
  refine wpS_bind (wpS_get ?_)
  show wpS _ _ _ _ (do let x ← elem' (arrOf st) i; let y ← elem' (arrOf st) j; lt' x y) Q st
  rw [elem'_eq, elem'_eq, ep, eq]
  refine wpS_bind (wpS_pure (wpS_bind (wpS_pure ?_)))
  rw [lt'_eq]
  refine wpS_bind (wpS_get ?_)
  rw [u.kind]
  exact wpS_bind (wpS_lift (wpAny_attempt (c.lt p hp q hq (u.differ c hij ep eq) _ _ ⟨rfl, wpS_pure h⟩)))
/-- the run upwards goes on as far as it rises -/
theorem upwards (c : Cmp prog w A s kd kf a₀) (u : Under kd a₀ st) {a n : Nat} {Q : AscSt → SortSt → Prop} (hn : n ≤ a₀.size) (ha : 1 ≤ a) (han : a ≤ n) (hr : Rises kf (arrOf st) a)
    (h : ∀ m, a ≤ m → m ≤ n → Rises kf (arrOf st) m → (m < n → numAtK kf (arrOf st) m < numAtK kf (arrOf st) (m - 1)) → Q (none, m) st) : wpS (model prog w) A E s (ascLoop a n) Q st := by
  unfold ascLoop
  refine wpS_forRange (I := fun x b st' => st' = st ∧ b = (none, x) ∧ Rises kf (arrOf st) x) (fun x b st' h1 h2 hI => ?_) (fun b st' hI => ?_) ⟨rfl, rfl, hr⟩
  · obtain ⟨rfl, rfl, hx⟩ := hI
    dsimp only
    refine wpS_bind (ask c u (by omega) (by omega) (by omega) ?_)
    cases hb : decide (numAtK kf (arrOf st') x < numAtK kf (arrOf st') (x - 1)) with
    | true => exact wpS_pure (h x h1 (Nat.le_of_lt h2) hx fun _ => of_decide_eq_true hb)
    | false =>
      have hge := of_decide_eq_false hb
      have hne := u.ne c (i := x) (j := x - 1) (by omega) (by omega) (by omega)
      refine wpS_pure ⟨rfl, rfl, fun i j hij hj => ?_⟩
      rcases Nat.lt_or_ge j x with hjx | hjx
      · exact hx i j hij hjx
      · obtain rfl : j = x := by omega
        rcases Nat.lt_or_ge i (j - 1) with hi | hi
        · have := hx i (j - 1) hi (by omega); omega
        · obtain rfl : i = j - 1 := by omega
          omega
  · obtain ⟨rfl, rfl, hx⟩ := hI
    rw [Nat.max_eq_right han] at hx ⊢
    exact h n han (Nat.le_refl _) hx fun q => absurd q (Nat.lt_irrefl _)
/-- the run downwards -/
theorem downwards (c : Cmp prog w A s kd kf a₀) (u : Under kd a₀ st) {a n : Nat} {Q : DescSt → SortSt → Prop} (hn : n ≤ a₀.size) (ha : 1 ≤ a) (han : a ≤ n) (hf : Falls kf (arrOf st) a)
    (h : ∀ m, a ≤ m → m ≤ n → Falls kf (arrOf st) m → Q (none, m, 0) st) : wpS (model prog w) A E s (descLoop a n) Q st := by
  unfold descLoop
  refine wpS_forRange (I := fun x b st' => st' = st ∧ b = (none, x, 0) ∧ Falls kf (arrOf st) x) (fun x b st' h1 h2 hI => ?_) (fun b st' hI => ?_) ⟨rfl, rfl, hf⟩
  · obtain ⟨rfl, rfl, hx⟩ := hI
    dsimp only
    refine wpS_bind (ask c u (by omega) (by omega) (by omega) ?_)
    cases hb : decide (numAtK kf (arrOf st') x < numAtK kf (arrOf st') (x - 1)) with
    | true =>
      have hlt := of_decide_eq_true hb
      dsimp only
      rw [if_pos rfl, if_neg (by omega)]
      refine wpS_pure ⟨rfl, rfl, fun i j hij hj => ?_⟩
      rcases Nat.lt_or_ge j x with hjx | hjx
      · exact hx i j hij hjx
      · obtain rfl : j = x := by omega
        rcases Nat.lt_or_ge i (j - 1) with hi | hi
        · have := hx i (j - 1) hi (by omega); omega
        · obtain rfl : i = j - 1 := by omega
          exact hlt
    | false =>
      have hge := of_decide_eq_false hb
      have hne := u.ne c (i := x) (j := x - 1) (by omega) (by omega) (by omega)
      dsimp only
      rw [if_neg (by decide)]
      refine wpS_bind (ask c u (by omega) (by omega) (by omega) ?_)
      rw [decide_eq_true (by omega)]
      exact wpS_pure (h x h1 (Nat.le_of_lt h2) hx)
  · obtain ⟨rfl, rfl, hx⟩ := hI
    rw [Nat.max_eq_right han] at hx ⊢
    exact h n han (Nat.le_refl _) hx
theorem turned {xs : Array Keyed} {n : Nat} (hn : n ≤ xs.size) (hf : Falls kf xs n) : Rises kf (mirror xs 0 n ((n - 0) / 2)) n := fun i j hij hj => by
  have e : ∀ k, k < n → numAtK kf (mirror xs 0 n ((n - 0) / 2)) k = numAtK kf xs (0 + n - 1 - k) := fun k hk => by
    have z := getElem?_mirror_all (i := 0) hn k
    rw [if_pos ⟨Nat.zero_le _, hk⟩] at z
    exact numAtK_congr z
  rw [e i (by omega), e j hj]
  exact hf _ _ (by omega) (by omega)
theorem turnUp (c : Cmp prog w A s kd kf a₀) (u : Under kd a₀ st) {a n : Nat} {Q : Option Nat → SortSt → Prop} (hn : n ≤ a₀.size) (ha : 1 ≤ a) (han : a ≤ n) (hf : Falls kf (arrOf st) a)
    (h : ∀ m st', Under kd a₀ st' → 1 ≤ m → m ≤ n → Rises kf (arrOf st') m → Q (some m) st') : wpS (model prog w) A E s (tail3 a n) Q st := by
  unfold tail3
  refine wpS_bind (wpS_reverse ?_)
  have u' : Under kd a₀ (setArr st (mirror (arrOf st) 0 a ((a - 0) / 2))) := u.set (mirror_perm _ _ _ _)
  exact wpS_bind (upwards c u' hn ha han (turned (by rw [u.size]; omega) hf) fun m h1 h2 hr _ => wpS_pure (h m _ u' (Nat.le_trans ha h1) h2 hr))
/-- the first run, whatever way it goes -/
theorem firstRun (c : Cmp prog w A s kd kf a₀) (u : Under kd a₀ st) {n : Nat} {Q : Option Nat → SortSt → Prop} (hn : n ≤ a₀.size) (h1 : 1 ≤ n)
    (h : ∀ m st', Under kd a₀ st' → 1 ≤ m → m ≤ n → Rises kf (arrOf st') m → Q (some m) st') : wpS (model prog w) A E s (countRun' 0 n) Q st := by
  rw [countRun0_eq]
  refine wpS_bind (upwards c u hn (Nat.le_refl 1) h1 (fun i j hij hj => by omega) fun m hm1 hm2 hr hlt => ?_)
  dsimp only
  by_cases hmn : m = n
  · subst hmn
    rw [if_pos (beq_self_eq_true _)]
    exact wpS_pure (h _ st u hm1 hm2 hr)
  · have hless := hlt (by omega)
    rw [if_neg (by simpa using hmn)]
    by_cases hm : m > 1
    · rw [if_pos hm]
      refine wpS_bind (ask c u (by omega) (by omega) (by omega) ?_)
      rw [decide_eq_true (hr 0 (m - 1) (by omega) (by omega))]
      exact wpS_pure (h _ st u hm1 hm2 hr)
    · obtain rfl : m = 1 := by omega
      rw [if_neg hm]
      unfold descPart
      refine wpS_bind (wpS_lift (wpAny_rule ⟨rfl, ?_⟩))
      refine wpS_bind (downwards c u hn (by omega) (by omega) (fun i j hij hj => ?_) fun k hk1 hk2 hf => ?_)
      · obtain rfl : i = 0 := by omega
        obtain rfl : j = 1 := by omega
        exact hless
      · dsimp only
        rw [if_neg (by omega)]
        exact turnUp c u hn (by omega) hk2 hf h
theorem numAtK_bubble {xs : Array Keyed} {src d : Nat} (hs : src < xs.size) (hd : d ≤ src) (k : Nat) :
    numAtK kf (bubble xs src d) k = if k = src - d then numAtK kf xs src else if src - d < k ∧ k ≤ src then numAtK kf xs (k - 1) else numAtK kf xs k := by
  have z := getElem?_bubble hs d hd k
  split
  · rename_i q; rw [if_pos q] at z; exact numAtK_congr z
  · rename_i q
    rw [if_neg q] at z
    split
    · rename_i q'; rw [if_pos q'] at z; exact numAtK_congr z
    · rename_i q'; rw [if_neg q'] at z; exact numAtK_congr z
/-- the items behind the run are put in -/
theorem putIn (c : Cmp prog w A s kd kf a₀) (u : Under kd a₀ st) {n ok : Nat} {Q : Bool → SortSt → Prop} (hn : n ≤ a₀.size) (hok : 1 ≤ ok) (hle : ok ≤ n) (hr : Rises kf (arrOf st) ok)
    (h : ∀ st', Under kd a₀ st' → Rises kf (arrOf st') n → Q true st') : wpS (model prog w) A E s (binarySort' 0 n ok) Q st := by
  rw [binarySort'_eq]
  refine wpS_bind (wpS_mono (wpS_forRange (I := fun k b st' => b = (none, ()) ∧ Under kd a₀ st' ∧ Rises kf (arrOf st') k)
    (Q := fun b st' => b = (none, ()) ∧ Under kd a₀ st' ∧ Rises kf (arrOf st') n) (fun k b st' hk1 hk2 hI => ?_) (fun b st' hI => ?_) ⟨rfl, u, by rw [Nat.max_eq_left hok]; exact hr⟩) fun b st' hI => ?_)
  · obtain ⟨rfl, u', hr'⟩ := hI
    simp only [Nat.zero_add]
    -- the place is sought: all below l are less, all from r on are greater
    refine wpS_bind (wpS_mono (wpS_forRange (I := fun x b st'' => st'' = st' ∧ ∃ l r, b = (none, l, r) ∧ l ≤ r ∧ r ≤ k ∧ r - l + x ≤ k ∧
        (∀ i, i < l → numAtK kf (arrOf st') i < numAtK kf (arrOf st') k) ∧ ∀ i, r ≤ i → i < k → numAtK kf (arrOf st') k < numAtK kf (arrOf st') i)
      (Q := fun b st'' => st'' = st' ∧ ∃ l r, b = (none, l, r) ∧ l ≤ k ∧
        (∀ i, i < l → numAtK kf (arrOf st') i < numAtK kf (arrOf st') k) ∧ ∀ i, l ≤ i → i < k → numAtK kf (arrOf st') k < numAtK kf (arrOf st') i)
      (fun x b st'' _ hx hJ => ?_) (fun b st'' hJ => ?_) ⟨rfl, 0, k, rfl, Nat.zero_le _, Nat.le_refl _, by omega, fun i hi => absurd hi (Nat.not_lt_zero _), fun i h1 h2 => by omega⟩) fun b st'' hJ => ?_)
    · obtain ⟨rfl, l, r, rfl, hlr, hrk, hm, hlo, hhi⟩ := hJ
      dsimp only
      by_cases hge : l ≥ r
      · rw [if_pos hge]
        exact wpS_pure ⟨rfl, l, r, rfl, by omega, hlo, fun i h1 h2 => hhi i (by omega) h2⟩
      · rw [if_neg hge]
        refine wpS_bind (ask c u' (by omega) (by omega) (by omega) ?_)
        cases hb : decide (numAtK kf (arrOf st'') k < numAtK kf (arrOf st'') ((l + r) / 2)) with
        | true =>
          have hlt := of_decide_eq_true hb
          refine wpS_pure ⟨rfl, l, (l + r) / 2, rfl, by omega, by omega, by omega, hlo, fun i h1 h2 => ?_⟩
          rcases Nat.lt_or_ge ((l + r) / 2) i with q | q
          · have := hr' _ i q h2; omega
          · obtain rfl : i = (l + r) / 2 := by omega
            exact hlt
        | false =>
          have hge' := of_decide_eq_false hb
          have hne := u'.ne c (i := k) (j := (l + r) / 2) (by omega) (by omega) (by omega)
          refine wpS_pure ⟨rfl, (l + r) / 2 + 1, r, rfl, by omega, hrk, by omega, fun i h1 => ?_, hhi⟩
          rcases Nat.lt_or_ge i ((l + r) / 2) with q | q
          · have := hr' i _ q (by omega); omega
          · obtain rfl : i = (l + r) / 2 := by omega
            omega
    · obtain ⟨rfl, l, r, rfl, hlr, hrk, hm, hlo, hhi⟩ := hJ
      exact ⟨rfl, l, r, rfl, by omega, hlo, fun i h1 h2 => hhi i (by omega) h2⟩
    · obtain ⟨rfl, l, r, rfl, hlk, hlo, hhi⟩ := hJ
      show wpS _ _ _ _ (do moveDown' k l; pure (ForInStep.yield (none, ()))) _ _
      rw [moveDown'_eq]
      have hks : k < (arrOf st'').size := by rw [u'.size]; omega
      refine wpS_bind (wpS_modify (wpS_pure ⟨rfl, u'.set (bubble_perm _ _ _), fun i j hij hj => ?_⟩))
      show numAtK kf (bubble (arrOf st'') k (k - l)) i < numAtK kf (bubble (arrOf st'') k (k - l)) j
      rw [numAtK_bubble hks (by omega), numAtK_bubble hks (by omega), show k - (k - l) = l by omega]
      by_cases hi : i = l
      · rw [if_pos hi, if_neg (by omega), if_pos (by omega)]
        exact hhi _ (by omega) (by omega)
      · rw [if_neg hi]
        by_cases hil : l < i ∧ i ≤ k
        · rw [if_pos hil, if_neg (by omega), if_pos (by omega)]
          exact hr' _ _ (by omega) (by omega)
        · rw [if_neg hil]
          by_cases hj' : j = l
          · rw [if_pos hj']; exact hlo i (by omega)
          · rw [if_neg hj']
            by_cases hjl : l < j ∧ j ≤ k
            · rw [if_pos hjl]
              rcases Nat.lt_or_ge i (j - 1) with q | q
              · exact hr' _ _ q (by omega)
              · omega
            · rw [if_neg hjl]; exact hr' _ _ hij (by omega)
  · obtain ⟨rfl, u', hr'⟩ := hI
    rw [show max (max ok 1) n = n by omega] at hr'
    exact ⟨rfl, u', hr'⟩
  · obtain ⟨rfl, u', hr'⟩ := hI
    exact wpS_pure (h st' u' hr')
theorem sortGo (c : Cmp prog w A s kd kf a₀) (u : Under kd a₀ st) {Q : Unit → SortSt → Prop} (h2 : 2 ≤ a₀.size) (h64 : a₀.size < 64)
    (h : ∀ st', (arrOf st').Perm a₀ → failedOf st' = none → Rises kf (arrOf st') a₀.size → Q () st') : wpS (model prog w) A E s sortRuns' Q st := by
  rw [sortRuns'_eq]
  refine wpS_bind (wpS_get ?_)
  dsimp only
  have hmr : minRun' a₀.size a₀.size 0 = a₀.size := by
    obtain ⟨f, hf⟩ : ∃ f, a₀.size = f + 1 := ⟨a₀.size - 1, by omega⟩
    have e := minRun'_succ f a₀.size 0
    rw [if_pos h64, Nat.add_zero] at e
    rwa [← hf] at e
  simp only [u.size, hmr]
  refine wpS_bind (wpS_mono (wpS_forRange
    (I := fun x b st' => if x = 0 then b = (none, 0) ∧ Under kd a₀ st' else b = (none, a₀.size) ∧ (arrOf st').Perm a₀ ∧ failedOf st' = none ∧ (pendingOf st').size = 1 ∧ Rises kf (arrOf st') a₀.size)
    (Q := fun b st' => b = (none, a₀.size) ∧ (arrOf st').Perm a₀ ∧ failedOf st' = none ∧ (pendingOf st').size = 1 ∧ Rises kf (arrOf st') a₀.size) (fun x b st' _ hx hI => ?_) (fun b st' hI => ?_) (by rw [if_pos rfl]; exact ⟨rfl, u⟩)) fun b st' hI => ?_)
  · by_cases hx0 : x = 0
    · rw [if_pos hx0] at hI
      obtain ⟨rfl, u'⟩ := hI
      subst hx0
      dsimp only
      rw [if_neg (by omega), Nat.sub_zero]
      refine wpS_bind (firstRun c u' (Nat.le_refl _) (by omega) fun m st2 u2 hm1 hm2 hr2 => ?_)
      dsimp only
      have fin : ∀ st3, Under kd a₀ st3 → Rises kf (arrOf st3) a₀.size → wpS (model prog w) A E s (do
          modify fun s => setPending s ((pendingOf s).push (0, a₀.size, 0))
          pure (ForInStep.yield ((none, 0 + a₀.size) : Option Unit × Nat))) (fun r st' => match r with
            | .done c' => c' = (none, a₀.size) ∧ (arrOf st').Perm a₀ ∧ failedOf st' = none ∧ (pendingOf st').size = 1 ∧ Rises kf (arrOf st') a₀.size
            | .yield c' => if 0 + 1 = 0 then c' = (none, 0) ∧ Under kd a₀ st' else c' = (none, a₀.size) ∧ (arrOf st').Perm a₀ ∧ failedOf st' = none ∧ (pendingOf st').size = 1 ∧ Rises kf (arrOf st') a₀.size) st3 := fun st3 u3 hr3 => by
        refine wpS_bind (wpS_modify (wpS_pure ?_))
        dsimp only
        rw [if_neg (by omega), Nat.zero_add]
        refine ⟨rfl, u3.perm, u3.ok, ?_, hr3⟩
        show ((pendingOf st3).push _).size = 1
        rw [u3.pend]; rfl
      by_cases hlt : m < a₀.size
      · rw [if_pos hlt]
        refine wpS_bind (wpS_lift (wpAny_rule ⟨rfl, ?_⟩))
        simp only [Nat.min_self]
        refine wpS_bind (putIn c u2 (Nat.le_refl _) hm1 hm2 hr2 fun st3 u3 hr3 => ?_)
        rw [if_neg (by decide)]
        refine wpS_bind (wpS_get ?_)
        have hb : (pendingOf st3).back? = none := by rw [u3.pend]; rfl
        rw [hb]
        exact fin st3 u3 hr3
      · rw [if_neg hlt]
        obtain rfl : m = a₀.size := by omega
        refine wpS_bind (wpS_get ?_)
        have hb : (pendingOf st2).back? = none := by rw [u2.pend]; rfl
        rw [hb]
        exact fin st2 u2 hr2
    · rw [if_neg hx0] at hI
      obtain ⟨rfl, hq⟩ := hI
      dsimp only
      rw [if_pos (Nat.le_refl _)]
      exact wpS_pure ⟨rfl, hq⟩
  · rw [if_neg (by omega)] at hI
    exact hI
  · obtain ⟨rfl, h1, h2', h3, h4⟩ := hI
    dsimp only
    refine wpS_bind (wpS_mono (wpS_forRange (I := fun _ b st'' => st'' = st' ∧ b = (none, ())) (Q := fun b st'' => st'' = st' ∧ b = (none, ())) (fun x b st'' _ _ hJ => ?_) (fun _ _ hJ => hJ) ⟨rfl, rfl⟩) fun b st'' hJ => ?_)
    · obtain ⟨rfl, rfl⟩ := hJ
      refine wpS_bind (wpS_get ?_)
      rw [if_pos (Nat.le_of_eq h3)]
      exact wpS_pure ⟨rfl, rfl⟩
    · obtain ⟨rfl, rfl⟩ := hJ
      exact wpS_pure (h _ h1 h2' h4)
end
end FS
end
section
set_option linter.unusedVariables false
set_option maxRecDepth 100000
namespace FS
open PySem PySem.Calls PySem.W PyProof.Rows

theorem rises_pairwise {kf : Value → Int} {xs : Array Keyed} (hd : ∀ p ∈ xs.toList, p.1 = p.2) (hr : Rises kf xs xs.size) : (xs.map (·.2)).toList.Pairwise fun a b => kf a < kf b := by
  rw [List.pairwise_iff_getElem]
  intro i j hi hj hij
  have hi' : i < xs.size := by simpa using hi
  have hj' : j < xs.size := by simpa using hj
  have h := hr i j hij hj'
  unfold numAtK at h
  rw [getElem?_pos xs i hi', getElem?_pos xs j hj'] at h
  have e1 := hd xs[i] (by simp)
  have e2 := hd xs[j] (by simp)
  dsimp only at h
  rw [e1, e2] at h
  simpa using h
theorem perm_items {vs : List Value} {xs : Array Keyed} (h : xs.Perm (pairsOf vs)) : (xs.map (·.2)).toList.Perm vs ∧ ∀ p ∈ xs.toList, p.1 = p.2 := by
  have hp := Array.perm_iff_toList_perm.mp h
  refine ⟨?_, fun p hpm => ?_⟩
  · have := hp.map (·.2)
    rw [pairsOf_toList] at this
    have e : (vs.zip vs).map (·.2) = vs := by
      rw [List.map_snd_zip]; exact Nat.le_refl _
    rw [e] at this
    simpa using this
  · have := hp.mem_iff.mp hpm
    rw [pairsOf_toList] at this
    exact (mem_zip_self this).1
section
variable {prog : Program} {w : World} {A : Around} {E : Value → Shared → Prop} {s : Shared} {kd : SortKind} {kf : Value → Int} {vs : List Value}
theorem sortList {a : Addr} {n : Nat} {P : Fin → Shared → Prop} (ho : s.heap.get? a = some (seqObj "list" vs.toArray n)) (h64 : vs.length < 64)
    (hkd : 2 ≤ vs.length → ∀ (A' : Around) (h' : Heap) (Q : SortKind → Shared → Prop) (E : Value → Shared → Prop), (∀ b o, b ≠ a → s.heap.get? b = some o → h'.get? b = some o) → Q kd { s with heap := h' } → wpAny (model prog w) A' (keyKind' vs.toArray) Q E { s with heap := h' })
    (c : ∀ (A' : Around) (h' : Heap), (∀ b o, b ≠ a → s.heap.get? b = some o → h'.get? b = some o) → Cmp prog w A' { s with heap := h' } kd kf (pairsOf vs))
    (h : ∀ out : Array Value, out.toList.Perm vs → (out.toList.Pairwise fun x y => kf x < kf y) → P (.done (.ret .none)) { s with heap := sortedHeap s.heap a vs out }) :
    wpAny (model prog w) A (Builtin.«list.sort» ⟨[.ref a], []⟩) P E s := by
  have ha : a < s.heap.objs.size := Heap.lt_size ho
  obtain ⟨e1, ho1⟩ : ∃ e1, (s.heap.update a (Obj.mapSeq fun _ => #[])).get? a = some (seqObj "list" #[] e1) := ⟨_, get?_update_seq ho (fun _ => #[])⟩
  have keep : ∀ b o, b ≠ a → s.heap.get? b = some o → (((s.heap.update a (Obj.mapSeq fun _ => #[])).push (seqObj "tuple" vs.toArray 0)).push (seqObj "list" #[] 0)).get? b = some o := fun b o hb e => by
    refine Heap.get?_push_of_some _ (Heap.get?_push_of_some _ ?_)
    rw [Heap.get?_update_ne _ _ _ _ hb]; exact e
  have ho6 : (((s.heap.update a (Obj.mapSeq fun _ => #[])).push (seqObj "tuple" vs.toArray 0)).push (seqObj "list" #[] 0)).get? a = some (seqObj "list" #[] e1) :=
    Heap.get?_push_of_some _ (Heap.get?_push_of_some _ ho1)
  have fin : ∀ xs : Array Keyed, xs.Perm (pairsOf vs) → Rises kf xs xs.size → P (.done (.ret .none)) { s with heap := sortedHeap s.heap a vs (xs.map (·.2)) } := fun xs hp hr =>
    h _ (perm_items hp).1 (rises_pairwise (perm_items hp).2 hr)
  have len : ∀ xs : Array Keyed, xs.Perm (pairsOf vs) → (xs.map (·.2)).size ≤ sizeLine + 1 := fun xs hp => by
    have := hp.size_eq
    rw [pairsOf_size] at this
    rw [Array.size_map, this, sizeLine_eq]; omega
  rw [list_sort_plain]
  refine wpAny_bind (listItems_at ho rfl (wpAny_bind (listUpdate_at ho rfl ?_)))
  refine wpAny_bind (seqEpoch_at ho1 rfl (wpAny_bind (wpAny_newTuple (wpAny_bind (wpAny_newList (wpAny_holding ?_))))))
  show wpAny (model prog w) A _ P E { s with heap := ((s.heap.update a (Obj.mapSeq fun _ => #[])).push (seqObj "tuple" vs.toArray 0)).push (seqObj "list" #[] 0) }
  dsimp only
  by_cases h2 : vs.toArray.size < 2
  · rw [if_pos h2, if_pos h2]
    refine wpAny_bind (wpAny_pure ?_)
    rw [StateT.run_pure]
    refine wpAny_bind (wpAny_pure (wpAny_bind (seqEpoch_at ho6 rfl (wpAny_bind (listUpdate_at ho6 rfl ?_ (hsz2 := len _ (Array.Perm.refl _)))))))
    simp only [bne_self_eq_false, Bool.false_eq_true, if_false]
    refine wpAny_pure (fin (vs.toArray.zip vs.toArray) (Array.Perm.refl _) fun i j hij hj => ?_)
    have : (vs.toArray.zip vs.toArray).size = vs.toArray.size := by simp
    omega
  · rw [if_neg h2, if_neg h2]
    refine wpAny_bind (hkd (by simp at h2; omega) _ _ _ _ keep ?_)
    refine wpAny_bind (wpAny_mono (sortGo (a₀ := pairsOf vs) (st := SortSt.mk' kd (vs.toArray.zip vs.toArray) #[] 7 none)
      (Q := fun _ st' => (arrOf st').Perm (pairsOf vs) ∧ failedOf st' = none ∧ Rises kf (arrOf st') (pairsOf vs).size)
      (c _ _ keep) ⟨Array.Perm.refl _, rfl, rfl, rfl⟩ (by rw [pairsOf_size]; simp at h2; omega) (by rw [pairsOf_size]; exact h64) fun st' a1 a2 a3 => ⟨a1, a2, a3⟩) ?_ fun _ _ e => e)
    rintro ⟨⟨⟩, st'⟩ s' ⟨rfl, hp, hf, hr⟩
    dsimp only
    refine wpAny_bind (seqEpoch_at ho6 rfl (wpAny_bind (listUpdate_at ho6 rfl ?_ (hsz2 := len _ hp))))
    rw [hf]
    simp only [bne_self_eq_false, Bool.false_eq_true, if_false]
    exact wpAny_pure (fin _ hp (by rw [hp.size_eq]; exact hr))
theorem sortedHeap_keep {h : Heap} {a : Addr} {out : Array Value} {b : Addr} {o : Obj} (hb : b ≠ a) (e : h.get? b = some o) : (sortedHeap h a vs out).get? b = some o := by
  unfold sortedHeap
  rw [Heap.get?_update_ne _ _ _ _ hb]
  refine Heap.get?_push_of_some _ (Heap.get?_push_of_some _ ?_)
  rw [Heap.get?_update_ne _ _ _ _ hb]; exact e
theorem sortedHeap_at {h : Heap} {a : Addr} {out xs : Array Value} {n : Nat} (e : h.get? a = some (seqObj "list" xs n)) : ∃ m, (sortedHeap h a vs out).get? a = some (seqObj "list" out m) := by
  unfold sortedHeap
  have h1 := get?_update_seq e (fun _ => #[])
  have h2 : (((h.update a (Obj.mapSeq fun _ => #[])).push (seqObj "tuple" vs.toArray 0)).push (seqObj "list" #[] 0)).get? a = some (seqObj "list" #[] _) := Heap.get?_push_of_some _ (Heap.get?_push_of_some _ h1)
  exact ⟨_, get?_update_seq h2 (fun _ => out)⟩
theorem sortedTup {l : Addr} {Q : Value → Shared → Prop} (hl : s.heap.IsList l vs.toArray) (h64 : vs.length < 64)
    (hkd : 2 ≤ vs.length → ∀ (A' : Around) (h' : Heap) (Q : SortKind → Shared → Prop) (E : Value → Shared → Prop), (∀ b o, s.heap.get? b = some o → h'.get? b = some o) → Q kd { s with heap := h' } → wpAny (model prog w) A' (keyKind' vs.toArray) Q E { s with heap := h' })
    (c : ∀ (A' : Around) (h' : Heap), (∀ b o, s.heap.get? b = some o → h'.get? b = some o) → Cmp prog w A' { s with heap := h' } kd kf (pairsOf vs))
    (h : ∀ (out : Array Value) (a : Addr) (m : Nat) (h' : Heap), out.toList.Perm vs → (out.toList.Pairwise fun x y => kf x < kf y) → (∀ b o, s.heap.get? b = some o → h'.get? b = some o) → s.heap.get? a = none → h'.get? a = some (seqObj "list" out m) → Q (.ref a) { s with heap := h' }) :
    wpAny (model prog w) A (call (.builtin "sorted") [.ref l]) Q E s := by
  refine Calls.call_function_entry kind_sorted plain_sorted entry_sorted (args_sorted1 _) ?_
  unfold Builtin.«sorted»
  refine wpAny_bind (m := checkCount "sorted" 1 1 _) (wpAny_pure ?_)
  refine wpAny_bind (collect_list hl ?_ (by rw [sizeLine_eq]; omega))
  refine wpAny_bind (wpAny_newList ?_ )
  have hsz : ((s.heap.push (seqObj "list" #[] 0)).update s.heap.objs.size (Obj.mapSeq (· ++ vs.toArray))).objs.size = s.heap.objs.size + 1 := by
    rw [Heap.size_update, size_push']
  have k1 : ∀ b o, s.heap.get? b = some o → ((s.heap.push (seqObj "list" #[] 0)).update s.heap.objs.size (Obj.mapSeq (· ++ vs.toArray))).get? b = some o := fun b o e => by
    rw [Heap.get?_update_ne _ _ _ _ (Nat.ne_of_lt (Heap.lt_size e))]
    exact Heap.get?_push_of_some _ e
  have hoL : (((s.heap.push (seqObj "list" #[] 0)).update s.heap.objs.size (Obj.mapSeq (· ++ vs.toArray))).push (seqObj "list" vs.toArray 0)).get? (s.heap.objs.size + 1) = some (seqObj "list" vs.toArray 0) := by
    rw [← hsz]; exact Heap.get?_push_size _ rfl
  have ne : ∀ b o, s.heap.get? b = some o → b ≠ s.heap.objs.size + 1 := fun b o e => Nat.ne_of_lt (Nat.lt_succ_of_lt (Heap.lt_size e))
  show wpAny _ _ _ _ _ { s with heap := ((s.heap.push (seqObj "list" #[] 0)).update s.heap.objs.size (Obj.mapSeq (· ++ vs.toArray))).push (seqObj "list" vs.toArray 0) }
  rw [hsz]
  refine wpAny_bind (wpAny_holding (wpAny_call_entry slot_list_sort ⟨_, hoL, rfl⟩ entry_list_sort (sortList (kd := kd) (kf := kf) hoL h64
    (fun hv A' h' Q E k q => hkd hv A' h' Q E (fun b o e => k b o (ne b o e) (Heap.get?_push_of_some _ (k1 b o e))) q)
    (fun A' h' k => c A' h' fun b o e => k b o (ne b o e) (Heap.get?_push_of_some _ (k1 b o e))) fun out hp hs => ⟨_, rfl, ?_⟩) (args_list_sort _)))
  obtain ⟨m, hm⟩ := sortedHeap_at (vs := vs) (out := out) hoL
  exact wpAny_pure ⟨_, rfl, h out (s.heap.objs.size + 1) m _ hp hs (fun b o e => sortedHeap_keep (ne b o e) (Heap.get?_push_of_some _ (k1 b o e))) (none_ge _ (Nat.le_succ _)) hm⟩
end
end FS
end
section
set_option linter.unusedVariables false
set_option maxRecDepth 100000
namespace FS
open PySem PySem.Calls PySem.W PyProof.Rows

theorem range_pick {α : Type} : ∀ l : List α, (List.range l.length).filterMap (l[·]?) = l
  | [] => rfl
  | x :: l => by
    rw [List.length_cons, List.range_succ_eq_map, List.filterMap_cons]
    simp only [List.getElem?_cons_zero, List.filterMap_map]
    congr 1
    have e : ((fun x_1 => (x :: l)[x_1]?) ∘ Nat.succ) = (l[·]?) := by
      funext i; simp
    rw [e, range_pick l]
section
variable {prog : Program} {w : World} {A : Around} {I : View → Heap → Prop} {ds : List D}
theorem op_sorted_tup (kd : SortKind) (kI : Nat → Int) (π : List Nat) (hlen : ds.length < 64)
    (hkk : ∀ V h vs, On V h → RdL V vs ds → 2 ≤ ds.length → Looks (model prog w) h (keyKind' vs.toArray) kd)
    (hinj : ∀ i j, i < ds.length → j < ds.length → i ≠ j → kI i ≠ kI j)
    (hlt : ∀ V (s : Shared) vs, On V s.heap → RdL V vs ds → ∀ i j, i ≠ j → ∀ vi vj, vs[i]? = some vi → vs[j]? = some vj → ∀ A (Q : Bool → Shared → Prop) E, Q (decide (kI i < kI j)) s → wpAny (model prog w) A (keyLt' kd vi vj) Q E s)
    (hnd : ∀ V vs, RdL V vs ds → vs.Nodup) (hπ : π.Perm (List.range ds.length)) (hs : π.Pairwise fun i j => kI i < kI j) :
    OpN (model prog w) A I (.builtin "sorted") [] [.list ds] (.list (π.filterMap (ds[·]?))) := fun V s on i vs0 r0 Q E k => by
  obtain ⟨v, rfl, r1⟩ := r0.one
  obtain ⟨a, vs, rfl, hl, rl⟩ := r1.isList on
  have nd := hnd V vs rl
  have hn := rl.length
  let kf : Value → Int := fun v => kI (vs.idxOf v)
  have kfAt : ∀ (i : Nat) v, vs[i]? = some v → kf v = kI i := fun i v e => by
    obtain ⟨hi, rfl⟩ := List.getElem?_eq_some_iff.mp e
    show kI (vs.idxOf vs[i]) = kI i
    rw [nd.idxOf_getElem i hi]
  refine sortedTup (kd := kd) (kf := kf) (vs := vs) hl (by omega) (fun hv A' h' Q E kp q => (hkk V h' vs (on.mono kp) rl (by omega)).here q) (fun A' h' kp => ?_) fun out a' m h' hp ho kp hna hat => ?_
  · have mem : ∀ p ∈ (pairsOf vs).toList, p.1 = p.2 ∧ ∃ i : Nat, vs[i]? = some p.1 := fun p hp => by
      rw [pairsOf_toList] at hp
      obtain ⟨e, hm⟩ := mem_zip_self hp
      exact ⟨e, List.mem_iff_getElem?.mp hm⟩
    have diff : ∀ p ∈ (pairsOf vs).toList, ∀ q ∈ (pairsOf vs).toList, p ≠ q → ∀ (i j : Nat), vs[i]? = some p.1 → vs[j]? = some q.1 → i ≠ j := fun p hp q hq hne i j ei ej z => by
      subst z
      rw [ei] at ej
      have e1 : p.1 = q.1 := Option.some.inj ej
      exact hne (Prod.ext e1 (by rw [← (mem p hp).1, ← (mem q hq).1, e1]))
    refine ⟨fun p hp q hq hne Q E hQ => ?_, fun p hp q hq hne => ?_, ?_⟩
    · obtain ⟨i, ei⟩ := (mem p hp).2
      obtain ⟨j, ej⟩ := (mem q hq).2
      rw [kfAt i _ ei, kfAt j _ ej] at hQ
      exact hlt V _ vs (on.mono kp) rl i j (diff p hp q hq hne i j ei ej) p.1 q.1 ei ej A' Q E hQ
    · obtain ⟨i, ei⟩ := (mem p hp).2
      obtain ⟨j, ej⟩ := (mem q hq).2
      rw [kfAt i _ ei, kfAt j _ ej]
      have hi := (List.getElem?_eq_some_iff.mp ei).1
      have hj := (List.getElem?_eq_some_iff.mp ej).1
      exact hinj i j (by omega) (by omega) (diff p hp q hq hne i j ei ej)
    · rw [pairsOf_toList]
      rw [List.nodup_iff_pairwise_ne, List.pairwise_iff_getElem]
      intro i j hi hj hij e
      have hi' : i < vs.length := by simpa using hi
      have hj' : j < vs.length := by simpa using hj
      have e1 : vs[i] = vs[j] := by simpa using congrArg Prod.fst e
      exact (List.pairwise_iff_getElem.mp nd i j hi' hj' hij) e1
  · have hpick : (π.filterMap (vs[·]?)).Perm vs := by
      have := hπ.filterMap (vs[·]?)
      rw [← hn] at this
      rwa [range_pick vs] at this
    have hsort : (π.filterMap (vs[·]?)).Pairwise fun x y => kf x < kf y := by
      refine hs.filterMap _ fun i j hij b hb b' hb' => ?_
      rw [kfAt i b hb, kfAt j b' hb']; exact hij
    have e : out.toList = π.filterMap (vs[·]?) := List.Perm.eq_of_pairwise (fun a b _ _ h1 h2 => by omega) ho hsort (hp.trans hpick.symm)
    have g : Grow s.heap V V h' := .skip on kp
    have hV : V a' = none := on.none hna
    refine k _ _ h' s.toks (GrowK.freeze g hat hna hV) ?_
    have z := View.put_self V a' (seqObj "list" out m)
    refine .list (items := out.toList) (n := m) (by simpa using z) ?_
    rw [e]
    exact (rdL_pick rl π).mono (View.put_sub _ hV)
end
end FS
end
section
set_option linter.unusedVariables false
set_option maxRecDepth 100000
namespace FS
open PySem PySem.Calls PySem.W PyProof.Rows

theorem firstOfTuple'_eq (v : Value) : firstOfTuple' v = (do
  if (← typeOf v) != .type "tuple" then return none
  return (← Builtin.List.listItems v)[0]?) := rfl
theorem keyLt'_tuples (f : Bool) (x y : Value) : keyLt' (tuples' f) x y = (do
    let xs ← Builtin.List.listItems x; let ys ← Builtin.List.listItems y
    for ((p, q), i) in (xs.toList.zip ys.toList).zipIdx do
      if !(← eqBool p q) then return ← oneLt' (f && i == 0) p q
    return xs.size < ys.size) := rfl
theorem looks_items {M : Model} {h : Heap} {a : Addr} {c : String} {xs : Array Value} {n : Nat} (e : h.get? a = some (seqObj c xs n)) : Looks M h (Builtin.List.listItems (.ref a)) xs :=
  fun A Q E s k q => listItems_at (k _ _ e) rfl q
theorem looks_tupleType {M : Model} {h : Heap} {a : Addr} {xs : Array Value} {n : Nat} (e : h.get? a = some (seqObj "tuple" xs n)) : Looks M h (typeOf (.ref a)) (.type "tuple") :=
  fun A Q E s k q => wpAny_typeOf (T := "tuple") ⟨_, k _ _ e, rfl⟩ q
/-- a tuple whose first is of the one type -/
noncomputable def FirstIs (T : String) (d : D) : Prop := ∃ d1 r, d = .tup (d1 :: r) ∧ ∀ V v, Rd V v d1 → typeOf v = pure (.type T)
theorem looks_firsts {M : Model} {h : Heap} {V : View} {T : String} (on : On V h) : ∀ {vs : List Value} {ds : List D}, RdL V vs ds → (∀ d ∈ ds, FirstIs T d) →
    ∃ ps : List Value, ps.length = vs.length ∧ (∀ p ∈ ps, typeOf p = pure (.type T)) ∧ Looks M h (vs.mapM firstOfTuple') (ps.map some)
  | [], _, .nil, _ => ⟨[], rfl, (fun p hp => nomatch hp), by rw [List.mapM_nil]; exact .now⟩
  | v :: vs, d :: ds, .cons r rl, hd => by
    obtain ⟨ps, hl, ht, hL⟩ := looks_firsts on rl fun d hd' => hd d (.tail _ hd')
    obtain ⟨d1, rest, rfl, hT⟩ := hd _ (.head _)
    obtain ⟨a, items, n, rfl, e, q⟩ := r.isT on
    cases q with
    | @cons p ps' _ _ r1 r2 =>
      refine ⟨p :: ps, by simp [hl], fun p' hp => ?_, ?_⟩
      · cases hp with
        | head => exact hT V _ r1
        | tail _ hp => exact ht p' hp
      · rw [List.mapM_cons, firstOfTuple'_eq]
        refine Looks.andThen (a := some p) ((looks_tupleType e).andThen ?_) (hL.andThen .now)
        rw [if_neg (by decide)]
        exact (looks_items e).andThen (Looks.of_pure rfl)
theorem mapM_types {T : String} : ∀ {ps : List Value}, (∀ p ∈ ps, typeOf p = pure (.type T)) → ps.mapM typeOf = pure (ps.map fun _ => Value.type T)
  | [], _ => by simp
  | p :: ps, h => by
    rw [List.mapM_cons, h p (.head _), mapM_types fun p hp => h p (.tail _ hp)]
    simp
theorem looks_kind {M : Model} {h : Heap} {V : View} {T : String} {vs : List Value} {ds : List D} (on : On V h) (rl : RdL V vs ds) (hd : ∀ d ∈ ds, FirstIs T d) (h2 : 2 ≤ ds.length) (hT : (Value.type T != Value.type "tuple") = true) :
    Looks M h (keyKind' vs.toArray) (tuples' true) := by
  obtain ⟨ps, hl, ht, hL⟩ := looks_firsts (M := M) on rl hd
  have hn := rl.length
  rw [keyKind'_eq, List.mapM_toArray]
  refine Looks.andThen (a := (ps.map some).toArray) ?_ ?_
  · rw [map_eq_pure_bind]; exact hL.andThen .now
  · have hall : ((ps.map some).toArray.all fun x => x.isSome) = true := by simp
    rw [if_pos hall]
    refine Looks.tag ?_
    have hf : Array.filterMap id (ps.map some).toArray = ps.toArray := by
      simp [List.filterMap_map]
    rw [hf, oneTypeOnly'_eq, List.mapM_toArray, mapM_types ht]
    refine Looks.of_pure ?_
    obtain ⟨p, ps', rfl⟩ : ∃ p ps', ps = p :: ps' := by
      cases ps with
      | nil => simp at hl; omega
      | cons p ps' => exact ⟨p, ps', rfl⟩
    simp only [map_pure, pure_bind]
    have h0 : (List.map (fun _ => Value.type T) (p :: ps')).toArray[0]? = some (Value.type T) := by simp
    rw [h0]
    have ha : ((List.map (fun _ => Value.type T) (p :: ps')).toArray.all fun x => x == Value.type T) = true := by
      simp
    simp only [ha, if_true, pure_bind, Option.any_some, hT]
section
variable {prog : Program} {w : World} {A : Around} {s : Shared}
theorem lt_differ {a b : Addr} {p q : Value} {ps qs : List Value} {n m : Nat} {Q : Bool → Shared → Prop} {E : Value → Shared → Prop} (ea : s.heap.get? a = some (seqObj "tuple" (p :: ps).toArray n)) (eb : s.heap.get? b = some (seqObj "tuple" (q :: qs).toArray m))
    (he : ∀ (Q : Bool → Shared → Prop) (E : Value → Shared → Prop), Q false s → wpAny (model prog w) A (eqBool p q) Q E s) (hl : wpAny (model prog w) A (oneLt' true p q) Q E s) : wpAny (model prog w) A (keyLt' (tuples' true) (.ref a) (.ref b)) Q E s := by
  rw [keyLt'_tuples]
  refine wpAny_bind (listItems_at ea rfl (wpAny_bind (listItems_at eb rfl ?_)))
  simp only [List.zip_cons_cons, List.zipIdx_cons, List.forIn_cons]
  refine wpAny_bind (wpAny_bind (wpAny_bind (he _ _ ?_)))
  simp only [Bool.not_false, if_true, Bool.true_and, beq_self_eq_true]
  refine wpAny_bind (wpAny_mono hl (fun r s' hr => ?_) fun _ _ e => e)
  exact wpAny_pure (wpAny_pure (wpAny_pure hr))
theorem lt_second {a b : Addr} {p q p' q' : Value} {ps qs : List Value} {n m : Nat} {Q : Bool → Shared → Prop} {E : Value → Shared → Prop} (ea : s.heap.get? a = some (seqObj "tuple" (p :: p' :: ps).toArray n)) (eb : s.heap.get? b = some (seqObj "tuple" (q :: q' :: qs).toArray m))
    (he : ∀ (Q : Bool → Shared → Prop) (E : Value → Shared → Prop), Q true s → wpAny (model prog w) A (eqBool p q) Q E s) (he' : ∀ (Q : Bool → Shared → Prop) (E : Value → Shared → Prop), Q false s → wpAny (model prog w) A (eqBool p' q') Q E s)
    (hl : wpAny (model prog w) A (oneLt' false p' q') Q E s) : wpAny (model prog w) A (keyLt' (tuples' true) (.ref a) (.ref b)) Q E s := by
  rw [keyLt'_tuples]
  refine wpAny_bind (listItems_at ea rfl (wpAny_bind (listItems_at eb rfl ?_)))
  simp only [List.zip_cons_cons, List.zipIdx_cons, List.forIn_cons]
  refine wpAny_bind (wpAny_bind (wpAny_bind (he _ _ ?_)))
  simp only [Bool.not_true, Bool.false_eq_true, if_false]
  refine wpAny_pure (wpAny_bind (wpAny_bind (he' _ _ ?_)))
  simp only [Bool.not_false, if_true]
  refine wpAny_bind (wpAny_mono hl (fun r s' hr => ?_) fun _ _ e => e)
  exact wpAny_pure (wpAny_pure (wpAny_pure hr))
theorem oneLt_int2 {a b : Int} {t u : Tok} {Q : Bool → Shared → Prop} {E : Value → Shared → Prop} (h : Q (decide (a < b)) s) : wpAny (model prog w) A (oneLt' false (.int a t) (.int b u)) Q E s := by
  rw [oneLt'_eq]
  simp only [Bool.false_eq_true, if_false]
  refine wpAny_bind ?_
  show wpAny _ _ (compareOp .Lt (.int a t) (.int b u)) _ _ _
  exact PyProof.Rows.lt_int (wpAny_truthy_bool h)
end
end FS
end
section
set_option linter.unusedVariables false
set_option maxRecDepth 100000
namespace FS
open PySem PySem.Calls PySem.W PyProof.Rows

theorem RdL.at {V : View} {vs : List Value} {ds : List D} (r : RdL V vs ds) {i : Nat} {v : Value} (h : vs[i]? = some v) : ∃ d, ds[i]? = some d ∧ Rd V v d := by
  have hi : i < ds.length := r.length ▸ (List.getElem?_eq_some_iff.mp h).1
  have hd : ds[i]? = some ds[i] := by simp [hi]
  obtain ⟨v', hv', rd⟩ := r.get hd
  rw [h] at hv'; cases hv'
  exact ⟨_, hd, rd⟩
theorem rdL_nodup {V : View} {vs : List Value} {ds : List D} (r : RdL V vs ds) (hd : ∀ (i j : Nat) d d', i < j → ds[i]? = some d → ds[j]? = some d' → ∀ v, Rd V v d → Rd V v d' → False) : vs.Nodup := by
  rw [List.nodup_iff_pairwise_ne, List.pairwise_iff_getElem]
  intro i j hi hj hij e
  obtain ⟨d, ed, rd⟩ := r.at (i := i) (v := vs[i]) (by simp [hi])
  obtain ⟨d', ed', rd'⟩ := r.at (i := j) (v := vs[j]) (by simp [hj])
  rw [← e] at rd'
  exact hd i j d d' hij ed ed' _ rd rd'
theorem Rd.strEq {V : View} {v : Value} {x y : Str} (r : Rd V v (.str x)) (q : Rd V v (.str y)) : x = y := by cases r; cases q; rfl
theorem Rd.intEq {V : View} {v : Value} {x y : Int} (r : Rd V v (.int x)) (q : Rd V v (.int y)) : x = y := by cases r; cases q; rfl
/-- a letter, by its place -/
noncomputable def nmS (i : Nat) : Str := ⟨#[97 + i]⟩
noncomputable def nameD (p : Nat × Str) : D := .tup [.str (nmS p.1), .str p.2]
noncomputable def pairD (p : Int × Nat) : D := .tup [.int p.1, .int p.2]
noncomputable def kNm (l : List (Nat × Str)) (i : Nat) : Int := ((l[i]?.map fun p => (p.1 : Int)).getD 0)
noncomputable def kPr (l : List (Int × Nat)) (i : Nat) : Int := ((l[i]?.map fun p => 1000 * p.1 + (p.2 : Int)).getD 0)
theorem map_at {α : Type} {f : α → D} {l : List α} {i : Nat} {d : D} (h : (l.map f)[i]? = some d) : ∃ x, l[i]? = some x ∧ d = f x := by
  rw [List.getElem?_map] at h
  cases q : l[i]? with
  | none => rw [q] at h; cases h
  | some x => rw [q] at h; cases h; exact ⟨x, rfl, rfl⟩
theorem nm_lt (i j : Nat) : decide ((nmS i).cps.toList < (nmS j).cps.toList) = decide ((i : Int) < (j : Int)) := by
  rw [Bool.eq_iff_iff, decide_eq_true_eq, decide_eq_true_eq]
  show [97 + i] < [97 + j] ↔ _
  rw [List.cons_lt_cons_iff]
  constructor
  · rintro (h | ⟨_, h⟩)
    · omega
    · exact absurd h (by simp)
  · intro h; exact .inl (by omega)
theorem nm_inj {i j : Nat} (h : nmS i = nmS j) : i = j := by
  unfold nmS at h
  have := congrArg (fun x => x.cps.toList) h
  simp at this
  exact this
section
variable {prog : Program} {w : World} {A : Around} {I : View → Heap → Prop}
theorem eqB_str {s : Shared} {x y : Str} {t u : Tok} {Q : Bool → Shared → Prop} {E : Value → Shared → Prop} (h : Q (decide (x = y)) s) : wpAny (model prog w) A (eqBool (.str x t) (.str y u)) Q E s :=
  (PySem.strKind prog w).eqBool (strKind_is prog w x t) (strKind_is prog w y u) h
theorem eqB_int {s : Shared} {x y : Int} {t u : Tok} {Q : Bool → Shared → Prop} {E : Value → Shared → Prop} (h : Q (decide (x = y)) s) : wpAny (model prog w) A (eqBool (.int x t) (.int y u)) Q E s :=
  (intKind prog w).eqBool (intKind_is prog w x t) (intKind_is prog w y u) h
theorem op_sorted_names {l : List (Nat × Str)} (π : List Nat) (hl : l.length < 64) (hd : (l.map Prod.fst).Nodup) (hπ : π.Perm (List.range l.length)) (hs : π.Pairwise fun i j => kNm l i < kNm l j) :
    OpN (model prog w) A I (.builtin "sorted") [] [.list (l.map nameD)] (.list (π.filterMap ((l.map nameD)[·]?))) := by
  have dis : ∀ (i j : Nat) (x y : Nat × Str), i ≠ j → l[i]? = some x → l[j]? = some y → x.1 ≠ y.1 := fun i j x y hij ex ey e => by
    have nd := List.pairwise_iff_getElem.mp (List.nodup_iff_pairwise_ne.mp hd)
    obtain ⟨hi, rfl⟩ := List.getElem?_eq_some_iff.mp ex
    obtain ⟨hj, rfl⟩ := List.getElem?_eq_some_iff.mp ey
    rcases Nat.lt_or_gt_of_ne hij with z | z
    · exact nd i j (by simpa using hi) (by simpa using hj) z (by simpa using e)
    · exact nd j i (by simpa using hj) (by simpa using hi) z (by simpa using e.symm)
  refine op_sorted_tup (tuples' true) (kNm l) π (by simpa using hl) (fun V h vs on r h2' => looks_kind (T := "str") on r (fun d hd' => ?_) h2' (by decide)) (fun i j hi hj hij => ?_) (fun V s vs on r i j hij vi vj hvi hvj A Q E hQ => ?_)
    (fun V vs r => rdL_nodup r fun i j d d' hij ed ed' v rd rd' => ?_) (by simpa using hπ) hs
  · obtain ⟨p, _, rfl⟩ := List.mem_map.mp hd'
    exact ⟨_, _, rfl, fun V v rv => by cases rv; rfl⟩
  · simp only [List.length_map] at hi hj
    have e1 : l[i]? = some l[i] := by simp [hi]
    have e2 : l[j]? = some l[j] := by simp [hj]
    have := dis i j _ _ hij e1 e2
    unfold kNm
    rw [e1, e2]
    simp only [Option.map_some, Option.getD_some]
    omega
  · obtain ⟨di, edi, rdi⟩ := r.at hvi
    obtain ⟨dj, edj, rdj⟩ := r.at hvj
    obtain ⟨x, ex, rfl⟩ := map_at edi
    obtain ⟨y, ey, rfl⟩ := map_at edj
    obtain ⟨a, ia, na, rfl, ea, qa⟩ := rdi.isT on
    obtain ⟨b, ib, nb, rfl, eb, qb⟩ := rdj.isT on
    obtain ⟨v1, u1, rfl, r1, _⟩ := qa.two
    obtain ⟨v2, u2, rfl, r2, _⟩ := qb.two
    have hxy := dis i j x y hij ex ey
    cases r1; cases r2
    refine lt_differ ea eb (fun Q E h => eqB_str (by rw [decide_eq_false (fun z => hxy (nm_inj z))]; exact h)) (oneLt_str ?_)
    rw [nm_lt]
    have : kNm l i = x.1 ∧ kNm l j = y.1 := by unfold kNm; rw [ex, ey]; exact ⟨rfl, rfl⟩
    rw [this.1, this.2] at hQ
    exact hQ
  · obtain ⟨x, ex, rfl⟩ := map_at ed
    obtain ⟨y, ey, rfl⟩ := map_at ed'
    refine dis i j x y (Nat.ne_of_lt hij) ex ey ?_
    cases rd with
    | tup e q => cases rd' with
      | tup e' q' =>
        rw [e] at e'
        injection e' with e'
        injection e' with _ _ e3 _
        injection e3 with e4 _
        have e5 := congrArg Array.toList e4
        simp only at e5
        subst e5
        obtain ⟨v1, u1, rfl, r1, _⟩ := q.two
        obtain ⟨v2, u2, e6, r2, _⟩ := q'.two
        injection e6 with e7 _
        subst e7
        exact nm_inj (r1.strEq r2)
theorem op_sorted_pairs {l : List (Int × Nat)} (π : List Nat) (hl : l.length < 64) (hd : (l.map Prod.snd).Nodup) (hb : ∀ p ∈ l, p.2 < 1000) (hπ : π.Perm (List.range l.length)) (hs : π.Pairwise fun i j => kPr l i < kPr l j) :
    OpN (model prog w) A I (.builtin "sorted") [] [.list (l.map pairD)] (.list (π.filterMap ((l.map pairD)[·]?))) := by
  have dis : ∀ (i j : Nat) (x y : Int × Nat), i ≠ j → l[i]? = some x → l[j]? = some y → x.2 ≠ y.2 := fun i j x y hij ex ey e => by
    have nd := List.pairwise_iff_getElem.mp (List.nodup_iff_pairwise_ne.mp hd)
    obtain ⟨hi, rfl⟩ := List.getElem?_eq_some_iff.mp ex
    obtain ⟨hj, rfl⟩ := List.getElem?_eq_some_iff.mp ey
    rcases Nat.lt_or_gt_of_ne hij with z | z
    · exact nd i j (by simpa using hi) (by simpa using hj) z (by simpa using e)
    · exact nd j i (by simpa using hj) (by simpa using hi) z (by simpa using e.symm)
  refine op_sorted_tup (tuples' true) (kPr l) π (by simpa using hl) (fun V h vs on r h2' => looks_kind (T := "int") on r (fun d hd' => ?_) h2' (by decide)) (fun i j hi hj hij => ?_) (fun V s vs on r i j hij vi vj hvi hvj A Q E hQ => ?_)
    (fun V vs r => rdL_nodup r fun i j d d' hij ed ed' v rd rd' => ?_) (by simpa using hπ) hs
  · obtain ⟨p, _, rfl⟩ := List.mem_map.mp hd'
    exact ⟨_, _, rfl, fun V v rv => by cases rv; rfl⟩
  · simp only [List.length_map] at hi hj
    have e1 : l[i]? = some l[i] := by simp [hi]
    have e2 : l[j]? = some l[j] := by simp [hj]
    have := dis i j _ _ hij e1 e2
    have b1 := hb l[i] (by simp)
    have b2 := hb l[j] (by simp)
    unfold kPr
    rw [e1, e2]
    simp only [Option.map_some, Option.getD_some]
    omega
  · obtain ⟨di, edi, rdi⟩ := r.at hvi
    obtain ⟨dj, edj, rdj⟩ := r.at hvj
    obtain ⟨x, ex, rfl⟩ := map_at edi
    obtain ⟨y, ey, rfl⟩ := map_at edj
    obtain ⟨a, ia, na, rfl, ea, qa⟩ := rdi.isT on
    obtain ⟨b, ib, nb, rfl, eb, qb⟩ := rdj.isT on
    obtain ⟨v1, u1, rfl, r1, r1'⟩ := qa.two
    obtain ⟨v2, u2, rfl, r2, r2'⟩ := qb.two
    have hxy := dis i j x y hij ex ey
    have b1 := hb x (List.mem_of_getElem? ex)
    have b2 := hb y (List.mem_of_getElem? ey)
    have hk : kPr l i = 1000 * x.1 + x.2 ∧ kPr l j = 1000 * y.1 + y.2 := by unfold kPr; rw [ex, ey]; exact ⟨rfl, rfl⟩
    rw [hk.1, hk.2] at hQ
    cases r1; cases r2; cases r1'; cases r2'
    by_cases hx : x.1 = y.1
    · refine lt_second ea eb (fun Q E h => eqB_int (by rw [decide_eq_true hx]; exact h)) (fun Q E h => eqB_int (by rw [decide_eq_false (by omega)]; exact h)) (oneLt_int2 ?_)
      have : decide ((x.2 : Int) < (y.2 : Int)) = decide (1000 * x.1 + (x.2 : Int) < 1000 * y.1 + (y.2 : Int)) := by
        rw [Bool.eq_iff_iff, decide_eq_true_eq, decide_eq_true_eq]; omega
      rw [this]; exact hQ
    · refine lt_differ ea eb (fun Q E h => eqB_int (by rw [decide_eq_false hx]; exact h)) (oneLt_int ?_)
      have : decide (x.1 < y.1) = decide (1000 * x.1 + (x.2 : Int) < 1000 * y.1 + (y.2 : Int)) := by
        rw [Bool.eq_iff_iff, decide_eq_true_eq, decide_eq_true_eq]; omega
      rw [this]; exact hQ
  · obtain ⟨x, ex, rfl⟩ := map_at ed
    obtain ⟨y, ey, rfl⟩ := map_at ed'
    refine dis i j x y (Nat.ne_of_lt hij) ex ey ?_
    cases rd with
    | tup e q => cases rd' with
      | tup e' q' =>
        rw [e] at e'
        injection e' with e'
        injection e' with _ _ e3 _
        injection e3 with e4 _
        have e5 := congrArg Array.toList e4
        simp only at e5
        subst e5
        obtain ⟨v1, u1, rfl, _, r1⟩ := q.two
        obtain ⟨v2, u2, e6, _, r2⟩ := q'.two
        injection e6 with _ e7
        injection e7 with e8 _
        subst e8
        have z := r1.intEq r2
        omega
theorem rdL_ints {V : View} : ∀ {vs : List Value} {ns : List Int}, IntsAre vs ns → RdL V vs (ns.map D.int)
  | _, _, .nil => .nil
  | _, _, .cons n t h => .cons (.int n t) (rdL_ints h)
/-- sorted of ints: any list that is the same numbers in order -/
theorem op_sorted_ints {ns ms : List Int} (hl : ns.length < 64) (hp : ms.Perm ns) (hs : ms.Pairwise (· ≤ ·)) : OpN (model prog w) A I (.builtin "sorted") [] [.list (ns.map D.int)] (.list (ms.map D.int)) := fun V s on i vs0 r0 Q E k => by
  obtain ⟨v, rfl, r1⟩ := r0.one
  obtain ⟨a, vs, rfl, hL, rl⟩ := r1.isList on
  have hI := intsAre_of rl
  refine sorted_ints hL hI (by rw [rl.length]; simpa using hl) fun out ns' h1 h2 h3 => ?_
  have e : ns' = ms := List.Perm.eq_of_pairwise (fun a b _ _ h1 h2 => by omega) h3 hs (h2.trans hp.symm)
  subst e
  have k1 : ∀ b o, s.heap.get? b = some o → ((s.heap.push (seqObj "list" #[] 0)).update s.heap.objs.size (Obj.mapSeq (· ++ vs.toArray))).get? b = some o := fun b o e => by
    rw [Heap.get?_update_ne _ _ _ _ (Nat.ne_of_lt (Heap.lt_size e))]
    exact Heap.get?_push_of_some _ e
  have hsz : ((s.heap.push (seqObj "list" #[] 0)).update s.heap.objs.size (Obj.mapSeq (· ++ vs.toArray))).objs.size = s.heap.objs.size + 1 := by
    rw [Heap.size_update, size_push']
  have hoL : (((s.heap.push (seqObj "list" #[] 0)).update s.heap.objs.size (Obj.mapSeq (· ++ vs.toArray))).push (seqObj "list" vs.toArray 0)).get? (s.heap.objs.size + 1) = some (seqObj "list" vs.toArray 0) := by
    rw [← hsz]; exact Heap.get?_push_size _ rfl
  obtain ⟨m, hm⟩ := sortedHeap_at (vs := vs) (out := out) hoL
  have kp : ∀ b o, s.heap.get? b = some o → (sortedAll s.heap vs out).get? b = some o := fun b o e =>
    sortedHeap_keep (Nat.ne_of_lt (Nat.lt_succ_of_lt (Heap.lt_size e))) (Heap.get?_push_of_some _ (k1 b o e))
  have hna : s.heap.get? (s.heap.objs.size + 1) = none := none_ge _ (Nat.le_succ _)
  have hV : V (s.heap.objs.size + 1) = none := on.none hna
  have g : Grow s.heap V V (sortedAll s.heap vs out) := .skip on kp
  have z := View.put_self V (s.heap.objs.size + 1) (seqObj "list" out m)
  refine k _ _ _ s.toks (GrowK.freeze g hm hna hV) (.list (items := out.toList) (n := m) (by simpa using z) (rdL_ints h1))
end
end FS
end
section
set_option linter.unusedVariables false
set_option maxRecDepth 100000
namespace FS
open PySem PySem.Calls PySem.W PyProof.Rows

section
variable {prog : Program} {w : World} {A : Around} {G : Gd} {env : Env} {he V0 V : View} {s0 s : Shared} {ρ ρ' : Vars} {μ μ' : List (Addr × List D)} {a : Addr} {ds ds' : List D} {d : D} {n : Nat} {R : Value → Asn}
theorem Sa.permM (p : Sa G env he V0 s0 ρ μ V s) (h : μ.Perm μ') : Sa G env he V0 s0 ρ μ' V s :=
  { on := p.on
    cx := ⟨p.cx.base, p.cx.fm, fun q hq => p.cx.mu q (h.mem_iff.mpr hq)⟩
    gr := p.gr, rest := p.rest, loc := p.loc, locNs := p.locNs, cel := p.cel, apart := p.apart
    muOwn := fun q hq => p.muOwn q (h.mem_iff.mpr hq)
    muApart := (h.pairwise_iff (fun h => Ne.symm h)).mp p.muApart }
/-- the first list is changed -/
theorem Sa.mutate {h' : Heap} {tk : Nat} (p : Sa G env he V0 s0 ρ ((a, ds) :: μ) V s) (hs : Heap.ExtBut a s.heap h') (m : MutL V h' a ds') : Sa G env he V0 s0 ρ ((a, ds') :: μ) V { s with heap := h', toks := tk } := by
  have ma := p.cx.mu _ (.head _)
  have ha := p.muOwn _ (.head _)
  dsimp only at ma ha
  obtain ⟨_, _, _, hVa⟩ := id ma
  have apart := p.muApart
  rw [List.pairwise_cons] at apart
  have ll : env.locals ≠ a := by obtain ⟨m0, n0⟩ := p.locNs; exact fun z => (ma.ne_ns n0) z.symm
  have lc : ∀ x c, env.cells.lookup x = some c → c ≠ a := fun x c hc z => by obtain ⟨_, _, v, ic⟩ := p.cel x c hc; exact ma.ne_cell ic z.symm
  have g' := p.gr.change hs ha hVa
  exact
    { on := g'.on
      cx :=
        { base := p.cx.base
          fm := fun q hq => by
            obtain ⟨v, at', r⟩ := p.cx.fm q hq
            refine ⟨v, ?_, r⟩
            rcases at' with ⟨e, m0, n0, z⟩ | ⟨e, c, lk, o, ho, hd⟩
            · exact .inl ⟨e, m0, n0.at' fun o ho => hs _ o ll ho, z⟩
            · exact .inr ⟨e, c, lk, o, hs c o (lc _ c lk) ho, hd⟩
          mu := fun q hq => by
            cases hq with
            | head => exact m
            | tail _ hq => exact (p.cx.mu q (.tail _ hq)).change hs fun z => apart.1 q hq z.symm }
      gr := g'
      rest := by rw [p.rest]
      loc := p.loc
      locNs := let ⟨m0, n0⟩ := p.locNs; ⟨m0, n0.at' fun o ho => hs _ o ll ho⟩
      cel := fun x c hc => by
        obtain ⟨z1, z2, v, o, ho, hd⟩ := p.cel x c hc
        exact ⟨z1, z2, v, o, hs c o (lc x c hc) ho, hd⟩
      apart := p.apart
      muOwn := fun q hq => by
        cases hq with
        | head => exact ha
        | tail _ hq => exact p.muOwn q (.tail _ hq)
      muApart := by
        rw [List.pairwise_cons]
        exact apart }
/-- a list is known from now on -/
theorem Sa.freezeM (p : Sa G env he V0 s0 ρ ((a, ds) :: μ) V s) : ∃ o, MutL V s.heap a ds ∧ s.heap.get? a = some o ∧ Rd (V.put a o) (.ref a) (.list ds) ∧ Sa G env he V0 s0 ρ μ (V.put a o) s := by
  have ma := p.cx.mu _ (.head _)
  have ha := p.muOwn _ (.head _)
  dsimp only at ma ha
  obtain ⟨items, ⟨k, ho⟩, q, hVa⟩ := id ma
  have apart := p.muApart
  rw [List.pairwise_cons] at apart
  have sub : ∀ b o, V b = some o → V.put a _ b = some o := View.put_sub { cls := .type "list", data := .seq items.toArray k } hVa
  have ll : env.locals ≠ a := by obtain ⟨m0, n0⟩ := p.locNs; exact fun z => (ma.ne_ns n0) z.symm
  have lc : ∀ x c, env.cells.lookup x = some c → c ≠ a := fun x c hc z => by obtain ⟨_, _, v, ic⟩ := p.cel x c hc; exact ma.ne_cell ic z.symm
  have ne : ∀ b, b ≠ a → V.put a { cls := .type "list", data := .seq items.toArray k } b = V b := fun b hb => by unfold View.put; rw [if_neg hb]
  refine ⟨_, ma, ho, .list (View.put_self ..) (q.mono sub), ?_⟩
  have g' := p.gr.freeze ho ha hVa
  exact
    { on := g'.on
      cx := ⟨fun b o e => sub b o (p.cx.base b o e), fun q hq => let ⟨v, at', r⟩ := p.cx.fm q hq; ⟨v, at', r.mono sub⟩, fun q hq => by
          obtain ⟨its, hpl, r, hv⟩ := p.cx.mu q (.tail _ hq)
          exact ⟨its, hpl, r.mono sub, by rw [ne _ fun z => apart.1 q hq z.symm]; exact hv⟩⟩
      gr := g'
      rest := p.rest
      loc := ⟨by rw [ne _ ll]; exact p.loc.1, p.loc.2⟩
      locNs := p.locNs
      cel := fun x c hc => let ⟨z1, z2, z3⟩ := p.cel x c hc; ⟨by rw [ne _ (lc x c hc)]; exact z1, z2, z3⟩
      apart := p.apart
      muOwn := fun q hq => p.muOwn q (.tail _ hq)
      muApart := apart.2 }
/-- the names' readings, anew -/
theorem Sa.reread (p : Sa G env he V0 s0 ρ μ V s) (h : ∀ q ∈ ρ', q ∈ ρ ∨ ∃ v, (q.1, D.val v) ∈ ρ ∧ Rd V v q.2) : Sa G env he V0 s0 ρ' μ V s :=
  { on := p.on
    cx := ⟨p.cx.base, fun q hq => by
      rcases h q hq with z | ⟨v, z, r⟩
      · exact p.cx.fm q z
      · obtain ⟨u, at', r'⟩ := p.cx.fm _ z
        have e : u = v := by cases r'; rfl
        subst e
        exact ⟨u, at', r⟩, p.cx.mu⟩
    gr := p.gr, rest := p.rest, loc := p.loc, locNs := p.locNs, cel := p.cel, apart := p.apart, muOwn := p.muOwn, muApart := p.muApart }
/-- x = [] -/
theorem SaT.newList {x : Str} {p' lpos pos : Pos} (hk : env.scope.kind = .function) (hx : env.kindOf x = some .local ∨ (env.kindOf x = some .cell ∧ (env.cells.lookup x).isSome = true)) (hs : Sub x ρ ρ') :
    Tr (model prog w) A (Sa G env he V0 s0 ρ μ) (exec (.Assign [.Name x p'] (.List [] lpos) pos) env) (fun V s => ∃ a, Sa G env he V0 s0 ((x, .val (.ref a)) :: ρ') ((a, []) :: μ) V s) R := fun V s p Q E n r => by
  refine wpAny_Assign_Name (wpAny_List (spliced_none ⟨Nat.zero_le _, ?_⟩)) rfl
  generalize hO : ({ cls := .type "list", data := .seq ([] : List Value).toArray } : Obj) = O
  have hf : O.isFreed = false := by rw [← hO]; rfl
  have g : Grow s.heap V V (s.heap.push O) := Grow.pushSkip p.on O
  have p1 := p.grow (tk := s.toks) g
  have hna : s.heap.get? s.heap.objs.size = none := none_ge _ (Nat.le_refl _)
  have hge : (s.heap.push O).get? s.heap.objs.size = some O := Heap.get?_push_size _ hf
  have hne : ∀ q ∈ μ, s.heap.objs.size ≠ q.1 := fun q hq z => by
    obtain ⟨its, ⟨k, ho⟩, _⟩ := p.cx.mu q hq
    rw [← z, show s.heap.get? s.heap.objs.size = none from hna] at ho; cases ho
  have p2 : Sa G env he V0 s0 ρ ((s.heap.objs.size, []) :: μ) V { s with heap := s.heap.push O, toks := s.toks } :=
    { on := p1.on
      cx := ⟨p1.cx.base, p1.cx.fm, fun q hq => by
        cases hq with
        | head => exact ⟨[], ⟨_, by rw [show (s.heap.push O).get? s.heap.objs.size = some O from hge, ← hO]⟩, .nil, p.on.none hna⟩
        | tail _ hq => exact p1.cx.mu q hq⟩
      gr := p1.gr, rest := p1.rest, loc := p1.loc, locNs := p1.locNs, cel := p1.cel, apart := p1.apart
      muOwn := fun q hq => by
        cases hq with
        | head => cases z : he s.heap.objs.size with
          | none => rfl
          | some o => rw [p.gr.keep _ o z] at hna; cases hna
        | tail _ hq => exact p1.muOwn q hq
      muApart := by
        rw [List.pairwise_cons]
        exact ⟨hne, p1.muApart⟩ }
  exact p2.store hk hx (.val _) hs fun h'' tk' q _ => n V _ ⟨_, q⟩
/-- xs.append(e), the first of the lists -/
theorem SaT.appendM {o elt : Expr} {apos pos pos' : Pos} (h0 : PE (model prog w) A (Cx G env ρ ((a, ds) :: μ)) (eval o env) (.val (.ref a))) (h1 : PE (model prog w) A (Cx G env ρ ((a, ds) :: μ)) (eval elt env) d) (hz : ds.length ≤ 1000)
    (hbase : attributeBase o "append" env (eval o env) = eval o env := by rfl)
    (hfew : ((backTo pos (starEach [elt] env)).all (fun x => !x.1) && (backToKw pos (keywordEach [] env)).all (fun x => x.1.isSome)
      && decide (([elt] : List Expr).length + ([] : List Keyword).length + (if ([] : List Keyword).isEmpty then 0 else 1) < 30)) = true := by rfl)
    (hline : (apos.endLine == pos.line) = true := by rfl)
    (htrees : backTo pos (starEach [elt] env) = [(false, eval elt env)] := by rfl)
    (hi : interactive env = false := by rfl) (hs : swapsWith (.Call (.Attribute o (Str.ofString "append") apos) [elt] [] pos) none pos'.line env = pure false := by rfl) :
    SaT (model prog w) A G env he V0 s0 ρ ((a, ds) :: μ) (exec (.Expr (.Call (.Attribute o (Str.ofString "append") apos) [elt] [] pos) pos') env) ρ ((a, ds ++ [d]) :: μ) R := fun V s p Q E n r => by
  refine wpAny_Expr (hi := hi) (hs := hs) ?_
  refine wpAny_Call_append hbase hfew hline htrees (h0 V s p.on p.cx _ E fun v V1 a1 t1 g1 r1 => ?_)
  cases r1
  have p1 := p.grow (tk := t1) g1
  obtain ⟨items, ⟨nn, ho⟩, q, hV⟩ := p1.cx.mu _ (.head _)
  refine ⟨a, items.toArray, rfl, ⟨_, nn, ho, rfl, rfl, rfl⟩, ?_⟩
  refine h1 V1 _ p1.on p1.cx _ E fun y V2 a2 t2 g2 r2 => ?_
  have p2 := p1.grow (tk := t2) g2
  obtain ⟨items, hpl, q, hV⟩ := p2.cx.mu _ (.head _)
  dsimp only at hpl q hV
  refine wpAny_list_append_plain (hsz := by have := q.length; simp; rw [sizeLine_eq]; omega) hpl fun h' hpl' sb => ?_
  exact n V2 _ (p2.mutate (tk := t2) sb.extBut ⟨items ++ [y], by simpa using hpl', q.append (.cons r2 .nil), hV⟩)
theorem Tr.ex {α : Type} {M : Model} {P : α → Asn} {t : Sem Flow} {N : Asn} (h : ∀ x, Tr M A (P x) t N R) : Tr M A (fun V s => ∃ x, P x V s) t N R := fun V s ⟨x, p⟩ => h x V s p
end
end FS
end
section
set_option linter.unusedVariables false
set_option maxRecDepth 100000
namespace FS
open PySem PySem.Calls PySem.W PyProof.Rows

theorem pickD_plain (ds : List D) (lo hi : Option Int) : pickD ds lo hi none = (ds.drop (lo.elim 0 (clipAt ds.length))).take (hi.elim ds.length (clipAt ds.length) - lo.elim 0 (clipAt ds.length)) := by
  unfold pickD
  rw [sliceBounds_plain]
  simp only [sliceRange_one]
  have := pick_run ds.toArray (lo.elim 0 (clipAt ds.length)) (hi.elim ds.length (clipAt ds.length) - lo.elim 0 (clipAt ds.length))
  simpa using this
theorem pickD_run (ds : List D) (a n : Nat) : pickD ds (some (a : Int)) (some ((a : Int) + (n : Int))) none = (ds.drop a).take n := by
  rw [pickD_plain]
  simp only [Option.elim]
  rw [show (a : Int) + (n : Int) = ((a + n : Nat) : Int) by omega, clipAt_nat, clipAt_nat]
  rcases Nat.le_total a ds.length with h | h
  · rw [Nat.min_eq_left h]
    rcases Nat.le_total (a + n) ds.length with h' | h'
    · rw [Nat.min_eq_left h', show a + n - a = n by omega]
    · rw [Nat.min_eq_right h', List.take_of_length_le (by simp), List.take_of_length_le (by simp; omega)]
  · rw [Nat.min_eq_right h, List.drop_of_length_le (Nat.le_refl _), List.drop_of_length_le h]; simp
theorem pickD_last (ds : List D) : pickD ds (some (-1)) none none = ds.drop (ds.length - 1) := by
  rw [pickD_plain]
  simp only [Option.elim]
  rw [show (-1 : Int) = -((1 : Nat) : Int) from rfl, clipAt_neg _ _ (Nat.le_refl 1)]
  exact List.take_of_length_le (by simp)
theorem pickD_butLast (ds : List D) : pickD ds none (some (-1)) none = ds.take (ds.length - 1) := by
  rw [pickD_plain]
  simp only [Option.elim]
  rw [show (-1 : Int) = -((1 : Nat) : Int) from rfl, clipAt_neg _ _ (Nat.le_refl 1)]
  simp

/-- a name, small or great, by its place -/
noncomputable def nmG (g : Bool) (i : Nat) : Str := if g then ⟨#[65 + i]⟩ else ⟨#[97 + i]⟩
noncomputable def rowE (tx : Nat → Str) (e : Bool × Nat) : Str × Str := (nmG e.1 e.2, tx e.2)
noncomputable abbrev LS := List (Bool × Nat)
noncomputable def setL (g : Bool) (M : LS) (e : Bool × Nat) : LS := M.filter (fun x => x.2 != e.2) ++ [(g, e.2)]
theorem setL_len (g : Bool) (M : LS) (e : Bool × Nat) : (setL g M e).length ≤ M.length + 1 := by
  unfold setL
  have := List.length_filter_le (fun x : Bool × Nat => x.2 != e.2) M
  simp
  omega
noncomputable def Small (M : LS) : Prop := ∀ e ∈ M, e.2 < 8
theorem setL_small {g : Bool} {M : LS} {e : Bool × Nat} (h : Small M) (he : e.2 < 8) : Small (setL g M e) := fun x hx => by
  unfold setL at hx
  rcases List.mem_append.mp hx with q | q
  · exact h x (List.mem_filter.mp q).1
  · have : x = (g, e.2) := by simpa using q
    subst this; exact he
theorem nm_lower : ∀ (g : Bool) (i : Nat), i < 8 → Txt.lower (nmG g i) = nmG false i := by decide +kernel
theorem nm_upper : ∀ (g : Bool) (i : Nat), i < 8 → Txt.upper (nmG g i) = nmG true i := by decide +kernel
theorem nm_long : ∀ (g : Bool) (i : Nat), i < 8 → Builtin.Str.tooLong (Txt.lower (nmG g i)).length = false ∧ Builtin.Str.tooLong (Txt.upper (nmG g i)).length = false := by decide +kernel
theorem nmF (i : Nat) : nmG false i = nmS i := rfl
theorem nm_bne (i j : Nat) : (nmG false i != nmG false j) = (i != j) := by
  rw [Bool.eq_iff_iff, bne_iff_ne, bne_iff_ne, nmF, nmF]
  exact ⟨fun h q => h (by rw [q]), fun h q => h (nm_inj q)⟩
theorem noFind_nm (P : Params) (g : Bool) (i : Nat) (hi : i < 8) : NoFind P (reOf true) (nmG g i) := by
  have h : i = 0 ∨ i = 1 ∨ i = 2 ∨ i = 3 ∨ i = 4 ∨ i = 5 ∨ i = 6 ∨ i = 7 := by omega
  cases g <;> (rcases h with rfl | rfl | rfl | rfl | rfl | rfl | rfl | rfl) <;> exact fun prog t => by kernel_rfl
theorem nameOk (P : Params) (g : Bool) (i : Nat) (hi : i < 8) : NameOk P (nmG g i) :=
  ⟨noFind_nm P g i hi, by rw [nm_lower g i hi]; exact noFind_nm P false i hi, (nm_long g i hi).1, (nm_long g i hi).2⟩
theorem rows_ok {tx : Nat → Str} {M : LS} (h : Small M) : RowsOk (M.map (rowE tx)) := fun r hr => by
  obtain ⟨e, he, rfl⟩ := List.mem_map.mp hr
  exact (nm_long e.1 e.2 (h e he)).1
theorem setP_eq {tx : Nat → Str} {M : LS} {g : Bool} {e : Bool × Nat} (h : Small M) (he : e.2 < 8) : setP (M.map (rowE tx)) (nmG g e.2) (tx e.2) = (setL g M e).map (rowE tx) := by
  unfold setP setL delP
  rw [List.map_append, List.filter_map]
  congr 2
  refine List.filter_congr fun x hx => ?_
  show (Txt.lower (nmG x.1 x.2) != Txt.lower (nmG g e.2)) = _
  rw [nm_lower _ _ (h x hx), nm_lower _ _ he, nm_bne]

/-- how two texts stand -/
noncomputable def coll (x y : Str) : Int := (decide (y.cps.toList < x.cps.toList)).toInt - (decide (x.cps.toList < y.cps.toList)).toInt
theorem coll_cases (x y : Str) : coll x y = 1 ∨ coll x y = 0 ∨ coll x y = -1 := by
  unfold coll
  cases decide (y.cps.toList < x.cps.toList) <;> cases decide (x.cps.toList < y.cps.toList) <;> simp [Bool.toInt]
theorem coll_small (x y : Str) : (coll x y).natAbs.log2 < 1920 := by
  rcases coll_cases x y with h | h | h <;> rw [h] <;> decide
noncomputable def toldS (tx : Nat → Str) (k i : Nat) : Str := Str.ofString (toString (coll (plainS (tx i)) (plainS (tx k))))
/-- the texts are such as the law types -/
noncomputable def TxOk (P : Params) (tx : Nat → Str) : Prop := ∀ i, textOk (tx i) = true ∧ NoFind P (reOf false) (tx i)
noncomputable def stepS (last : Bool) (a : List Nat × Nat) (b : Bool) : List Nat × Nat := if b == last then (a.1 ++ [a.2 + 1], 0) else (a.1, a.2 + 1)
noncomputable def isOne (x : Str) : Bool := x == Str.ofString "1"
noncomputable def later (tx : Nat → Str) (k : Nat) (e : Bool × Nat) : Bool := isOne (toldS tx k e.2)
noncomputable def lastB (l : List Bool) : Bool := (l[l.length - 1]?).getD false
noncomputable def sizesOf (l : List Bool) : List Nat := (l.foldl (stepS (lastB l)) ([], 0)).1
noncomputable def rot (l : LS) : LS := l.drop (l.length - 1) ++ l.take (l.length - 1)
noncomputable def stepF (g : Bool) (tw : LS) (a : LS × Nat) (sz : Nat) : LS × Nat := ((rot ((tw.drop a.2).take sz)).foldl (setL g) a.1, a.2 + sz)
/-- the rows behind a turn -/
noncomputable def takeL (lt : Nat → Bool) (k : Nat) (g : Bool) (L : LS) : LS := setL g ((sizesOf (L.map fun e => lt e.2)).foldl (stepF g (L ++ L)) (L, 0)).1 (g, k)
theorem stepS_inv (last : Bool) : ∀ (l : List Bool) (a : List Nat × Nat) (n : Nat), (∀ z ∈ a.1, 1 ≤ z ∧ z ≤ n) → a.2 ≤ n → a.1.length ≤ n → (∀ z ∈ (l.foldl (stepS last) a).1, 1 ≤ z ∧ z ≤ n + l.length) ∧ (l.foldl (stepS last) a).2 ≤ n + l.length ∧ (l.foldl (stepS last) a).1.length ≤ n + l.length
  | [], a, n, h1, h2, h3 => ⟨h1, h2, h3⟩
  | b :: l, a, n, h1, h2, h3 => by
    have h : (∀ z ∈ (stepS last a b).1, 1 ≤ z ∧ z ≤ n + 1) ∧ (stepS last a b).2 ≤ n + 1 ∧ (stepS last a b).1.length ≤ n + 1 := by
      unfold stepS
      cases b == last
      · exact ⟨fun z hz => ⟨(h1 z hz).1, Nat.le_succ_of_le (h1 z hz).2⟩, Nat.succ_le_succ h2, Nat.le_succ_of_le h3⟩
      · refine ⟨fun z hz => ?_, Nat.zero_le _, by simp; omega⟩
        rcases List.mem_append.mp hz with q | q
        · exact ⟨(h1 z q).1, Nat.le_succ_of_le (h1 z q).2⟩
        · have : z = a.2 + 1 := by simpa using q
          omega
    have ih := stepS_inv last l (stepS last a b) (n + 1) h.1 h.2.1 h.2.2
    rw [List.foldl_cons, List.length_cons, show n + (l.length + 1) = n + 1 + l.length by omega]
    exact ih
end FS
end
section
set_option linter.unusedVariables false
set_option maxRecDepth 100000
namespace FS
open PySem PySem.Calls PySem.W PyProof.Rows

theorem Sub.skip {x y : Str} {d : D} {ρ ρ' : Vars} (h : (y == x) = false) (r : Sub x ρ ρ') : Sub x ((y, d) :: ρ) ((y, d) :: ρ') := .cons (by rintro rfl; simp at h) r
local macro_rules | `(tactic| walk_at "subs") => `(tactic| repeat (first | exact Sub.nil | (apply Sub.skip; (focus decide)) | apply Sub.same))
local macro_rules | `(tactic| walk_at "var") => `(tactic| repeat (first | exact List.Mem.head _ | apply List.Mem.tail))
/-- a run that changes the one list, with a generator made and ended -/
noncomputable def EvG (M : Model) (A : Around) (t : Sem Value) (V : View) (s : Shared) (l : Addr) (ds' : List D) (d : D) : Prop :=
  ∀ (Q : Value → Shared → Prop) (E : Value → Shared → Prop), (∀ v V' h' tk, GrowK (hide s.heap l) V V' h' → MutL V' h' l ds' → Rd V' v d → Q v { s with heap := h', toks := tk, gens := s.gens.push .finished }) → wpAny M A t Q E s
noncomputable def DoneG (he V0 : View) (s0 : Shared) (l : Addr) (ds' : List D) (d : D) (v : Value) : Asn := fun V s => GrowK he V0 V s.heap ∧ MutL V s.heap l ds' ∧ s = { s0 with heap := s.heap, toks := s.toks, gens := s0.gens.push .finished } ∧ Rd V v d
section
variable {prog : Program} {w : World} {A : Around} {G : Gd} {env : Env} {he V0 V : View} {s0 s : Shared} {ρ : Vars} {l : Addr} {ds ds' : List D} {d : D} {n : Nat}
theorem fn_gen {f : Addr} {st : Stmt} {qual : Str} {dV kV : Value} {args : List Value} {kw : List (Str × Value)} {binds : List (Str × Value)} (F : FnAt G.h₁ f st qual dV kV) (hroom : A.depth < recursionLimit) (on : On V s.heap) (base : ∀ b o, G.h₁.get? b = some o → V b = some o)
    (hbind : ∀ doc pm code ct an, bindArgs (fdOf st qual dV kV doc pm code ct an) ⟨args, kw⟩ = pure binds) (hloc : ∀ L, ∀ x ∈ binds, (fScope st).names.lookup x.1 = some .local ∨ ((fScope st).names.lookup x.1 = some .cell ∧ ((cellsFrom (L + 1) (fScope st).names []).lookup x.1).isSome = true))
    (hρ : ∀ L code, Bound (envOf st qual f L code) binds V ρ) (hm : MutL V s.heap l ds)
    (hbody : ∀ L code, Tr (model prog w) (A.deeper (envOf st qual f L code)) (Sa G (envOf st qual f L code) (hide s.heap l) V s ρ [(l, ds)]) (execs (fBody st) (envOf st qual f L code)) (fun V' s' => DoneG (hide s.heap l) V s l ds' d .none V' s') (DoneG (hide s.heap l) V s l ds' d))
    (hco : (fScope st).isCoroutine = false := by rfl) (hgen : (fScope st).isGenerator = false := by rfl) (hkind : (fScope st).kind = .function := by rfl) :
    EvG (model prog w) A (call (.ref f) args kw) V s l ds' d := fun Q E k =>
  fn_callM (μ := [(l, ds)]) F hroom on base (fun _ _ _ _ _ => Looks.of_pure (hbind _ _ _ _ _)) hloc hρ (fun p hp => by
      have : p = (l, ds) := by simpa using hp
      subst this; exact hm) (List.pairwise_singleton _ _) (hide_grow on) hide_ge (fun p hp => by
      have : p = (l, ds) := by simpa using hp
      subst this; exact hide_self) (fun L code => fun V' s' P Q' E' n r => hbody L code V' s' P Q' E'
    (fun V'' s'' q => n V'' s'' (by obtain ⟨q1, q2, q3, q4⟩ := q; rw [q3]; exact k _ _ _ _ q1 q2 q4)) (fun v V'' s'' q => r v V'' s'' (by obtain ⟨q1, q2, q3, q4⟩ := q; rw [q3]; exact k _ _ _ _ q1 q2 q4))) hco hgen hkind
end
section
variable {w : World} {A : Around} {I : View → Heap → Prop} {env : Env} {d : D}
theorem PE.neg {e : Expr} {pos : Pos} {i : Int} (h : PE (model pw w) A I (eval e env) (.int i)) : PE (model pw w) A I (eval (.UnaryOp .USub e pos) env) (.int (-i)) := fun V s on c Q E k =>
  wpAny_UnaryOp (h V s on c _ E fun v V1 h1 t1 g1 r1 => by cases r1; exact PyProof.Rows.neg_int (k _ V1 h1 _ g1 (.int _ _)))
end
noncomputable def takeZ (tx : Nat → Str) (k : Nat) (e : Bool × Nat) : D × Option D := (rowD (rowE tx e), some (.str (toldS tx k e.2)))
theorem takeZ_fst (tx : Nat → Str) (k : Nat) (L : LS) : (L.map (takeZ tx k)).map Prod.fst = rowsD (L.map (rowE tx)) := by unfold rowsD; rw [List.map_map, List.map_map]; rfl
theorem takeZ_snd (tx : Nat → Str) (k : Nat) (L : LS) : (L.map (takeZ tx k)).filterMap Prod.snd = L.map fun e => .str (toldS tx k e.2) := by
  rw [List.filterMap_map]
  show L.filterMap (fun e => some (D.str (toldS tx k e.2))) = _
  rw [← List.filterMap_eq_map]
  rfl
section
variable {w : World} {A : Around} {G : Gd} {l : Addr} {n : Nat} {tx : Nat → Str}
theorem take_told {env : Env} {μ : List (Addr × List D)} {k : Nat} {cl : List (Str × Addr)} {scope : Scope} (F : GF w G) (R : Room A (n + 3)) (ht : TxOk w.params tx) (C : Addr)
    (e : Bool × Nat) {p1 p2 p3 p4 p5 p6 p7 p8 p9 p10 : Pos} {k1 : Nat} (hk : (compEnvC scope cl C env).scope.kind = .function)
    (h1 : (compEnvC scope cl C env).kindOf (Str.ofString "str") = some .globalImplicit) (h2 : (compEnvC scope cl C env).kindOf (Str.ofString "_strcoll") = some .globalImplicit) (h3 : (compEnvC scope cl C env).kindOf (Str.ofString "_law_plain") = some .globalImplicit)
    (hg : (compEnvC scope cl C env).globals = mainGlobals) (hb : (compEnvC scope cl C env).builtins = builtinsNs) :
    PE (model pw w) A (Cx G (compEnvC scope cl C env) ((Str.ofString "row", rowD (rowE tx e)) :: [(Str.ofString "word", .str (plainS (tx k)))]) μ)
      (eval (.Call (.Name (Str.ofString "str") p1) [.Call (.Name (Str.ofString "_strcoll") p2) [.Call (.Name (Str.ofString "_law_plain") p3) [.Subscript (.Name (Str.ofString "row") p4) (.Constant (.int 1) k1 p5) p6] [] p7, .Name (Str.ofString "word") p8] [] p9] [] p10) (compEnvC scope cl C env)) (.str (toldS tx k e.2)) :=
  PE.call Cx.stable (PE.blt hk h1 hg hb F.b_str.1 F.b_str.2) (fun _ _ _ _ => keeps_type) (PL.cons Cx.stable
    (PE.fn hk h2 hg F.g_strcoll F.f_strcoll (PL.cons Cx.stable (PE.fn hk h3 hg F.g_plain F.f_plain (PL.cons Cx.stable (PE.item Cx.stable (PE.name (d := rowD (rowE tx e)) hk (.head _)) PE.cInt (op_item_tup (by decide) (by decide) rfl)) PL.nil) (plain_ok (n := 0) F (R.less (by omega)) (ht e.2).1))
      (PL.cons Cx.stable (PE.name hk (.tail _ (.head _))) PL.nil)) (strcoll_ok (n := 0) F (R.less (by omega)))) PL.nil) (op_str_int (coll_small _ _))

/-- the names that stand through most of the take -/
noncomputable def rhoT (l : Addr) (tx : Nat → Str) (k : Nat) (g : Bool) (L : LS) : Vars :=
  [(Str.ofString "told", .list (L.map fun e => .str (toldS tx k e.2))), (Str.ofString "rows", .list (rowsD (L.map (rowE tx)))), (Str.ofString "held", .held l), (Str.ofString "name", .str (nmG false k)), (Str.ofString "text", .str (tx k)), (Str.ofString "great", .bool g)]
theorem fold_take {α β : Type} (f : β → α → β) (b : β) (xs : List α) {i : Nat} {x : α} (h : xs[i]? = some x) : (xs.take (i + 1)).foldl f b = f ((xs.take i).foldl f b) x := by
  rw [List.take_add_one, h, List.foldl_append]; rfl
theorem mem_rot {L : LS} {e : Bool × Nat} (h : e ∈ rot L) : e ∈ L := by
  unfold rot at h
  rcases List.mem_append.mp h with q | q
  · exact List.mem_of_mem_drop q
  · exact List.mem_of_mem_take q
theorem rot_len (L : LS) : (rot L).length ≤ L.length + L.length := by
  unfold rot; rw [List.length_append, List.length_drop, List.length_take]; omega
/-- the part's rows are stored anew -/
theorem take_inner {env : Env} {he V0 : View} {s0 : Shared} {g : Bool} {part : LS} {M0 : LS} {ρ : Vars} {R : Value → Asn} {pos px : Pos} {iter : Expr} {body : List Stmt} (F : GF w G) (Rm : Room A (n + 4)) (ht : TxOk w.params tx)
    (hk : env.scope.kind = .function) (hrow : env.kindOf (Str.ofString "row") = some .local) (hsub : Sub (Str.ofString "row") ρ ρ)
    (hit : PE (model pw w) A (Cx G env ρ [(l, rowsD (M0.map (rowE tx)))]) (eval iter env) (.list ((rot part).map fun e => rowD (rowE tx e))))
    (hbody : ∀ he' V' s0' (M : LS) (e : Bool × Nat), Small M → M.length ≤ 900 → e.2 < 8 → Tr (model pw w) A (Sa G env he' V' s0' ((Str.ofString "row", rowD (rowE tx e)) :: ρ) [(l, rowsD (M.map (rowE tx)))]) (execs body env) (Sa G env he' V' s0' ρ [(l, rowsD ((setL g M e).map (rowE tx)))]) (fun _ _ _ => False))
    (hs0 : Small M0) (hp : Small part) (hz : M0.length + part.length + part.length ≤ 800) (hs : ∀ x, foldedSetIterable iter env x = pure x) :
    Tr (model pw w) A (Sa G env he V0 s0 ρ [(l, rowsD (M0.map (rowE tx)))]) (exec (.For (.Name (Str.ofString "row") px) iter body [] pos) env) (Sa G env he V0 s0 ρ [(l, rowsD (((rot part).foldl (setL g) M0).map (rowE tx)))]) R := by
  have hrl := rot_len part
  refine Tr.post (SaT.for_ (α := LS) ((rot part).map fun e => rowD (rowE tx e)) (fun i M => M = ((rot part).take i).foldl (setL g) M0 ∧ M.length ≤ M0.length + i ∧ Small M) (fun _ _ => ρ) (fun _ M => [(l, rowsD (M.map (rowE tx)))]) M0 (fun _ _ _ _ _ => False)
    hk (.inl hrow) ⟨rfl, Nat.le_refl _, hs0⟩ hit (Itb.list Rm.hh) (fun _ _ => hsub) (fun _ _ _ _ _ _ _ _ h => h.elim) (fun he' V' i M d hJ hd => ?_) hs) fun V s h => ?_
  · obtain ⟨e, he, rfl⟩ := map_at hd
    obtain ⟨hM, hlen, hsm⟩ := hJ
    have hi : i < (rot part).length := (List.getElem?_eq_some_iff.mp he).1
    have he8 := hp e (mem_rot (List.mem_of_getElem? he))
    refine Tr.post (hbody he' V' s0 M e hsm (by omega) he8) fun V s q => ⟨setL g M e, ⟨?_, ?_, setL_small hsm he8⟩, q⟩
    · rw [fold_take _ _ _ he, hM]
    · have := setL_len g M e; omega
  · obtain ⟨M, ⟨hM, _, _⟩, q⟩ := h
    rw [List.length_map, List.take_of_length_le (Nat.le_refl _)] at hM
    rw [← hM]; exact q
end
end FS
end
section
set_option linter.unusedVariables false
set_option maxRecDepth 100000
namespace FS
open PySem PySem.Calls PySem.W PyProof.Rows
theorem Tr.preV {M : Model} {A : Around} {P P' N : Asn} {t : Sem Flow} {R : Value → Asn} (h : Tr M A P t N R) (i : ∀ V s, P' V s → ∃ V', P V' s) : Tr M A P' t N R := fun V s p => let ⟨V', q⟩ := i V s p; h V' s q
theorem fm_some {α β : Type} (f : α → Option β) (g : α → β) : ∀ l : List α, (∀ x ∈ l, f x = some (g x)) → l.filterMap f = l.map g
  | [], _ => rfl
  | x :: l, h => by
    rw [List.filterMap_cons, h x (.head _), List.map_cons, fm_some f g l fun y hy => h y (.tail _ hy)]
/-- the letters' rows in order: the places tell where each lies -/
theorem sortNames {L : LS} {k : Nat} (f : Nat → Str) (hL : (L.map Prod.snd).Perm (List.range k)) : ∃ π : List Nat, π.Perm (List.range (L.map fun e => (e.2, f e.2)).length) ∧
    (π.Pairwise fun i j => kNm (L.map fun e => (e.2, f e.2)) i < kNm (L.map fun e => (e.2, f e.2)) j) ∧ π.filterMap (((L.map fun e => (e.2, f e.2)).map nameD)[·]?) = (List.range k).map fun p => nameD (p, f p) := by
  have nd : (L.map Prod.snd).Nodup := hL.nodup_iff.mpr List.nodup_range
  have at' : ∀ p, p < k → ∃ e, L[(L.map Prod.snd).idxOf p]? = some e ∧ e.2 = p := fun p hp => by
    have hm : p ∈ L.map Prod.snd := hL.mem_iff.mpr (List.mem_range.mpr hp)
    have hi := List.idxOf_lt_length_iff.mpr hm
    have hi' : (L.map Prod.snd).idxOf p < L.length := by simpa using hi
    refine ⟨L[(L.map Prod.snd).idxOf p], List.getElem?_eq_getElem hi', ?_⟩
    have h := List.getElem_idxOf hi
    rw [List.getElem_map] at h
    exact h
  refine ⟨(List.range k).map fun p => (L.map Prod.snd).idxOf p, ?_, ?_, ?_⟩
  · have h1 := (hL.map fun p => (L.map Prod.snd).idxOf p).symm
    refine h1.trans ?_
    have e : (L.map Prod.snd).map (fun p => (L.map Prod.snd).idxOf p) = List.range (L.map fun e => (e.2, f e.2)).length := by
      apply List.ext_getElem
      · simp
      · intro i h1 h2
        have hi : i < (L.map Prod.snd).length := by simpa using h1
        rw [List.getElem_map, List.getElem_range]
        exact nd.idxOf_getElem i hi
    rw [e]
  · rw [List.pairwise_map]
    have hk : ∀ p, p < k → kNm (L.map fun e => (e.2, f e.2)) ((L.map Prod.snd).idxOf p) = p := fun p hp => by
      obtain ⟨e, he, hep⟩ := at' p hp
      unfold kNm
      rw [List.getElem?_map, he]
      simp only [Option.map_some, Option.getD_some]
      rw [hep]
    refine List.Pairwise.imp_of_mem ?_ List.pairwise_lt_range
    intro a b ha hb hab
    rw [hk a (List.mem_range.mp ha), hk b (List.mem_range.mp hb)]
    omega
  · rw [List.filterMap_map]
    refine fm_some _ _ _ fun p hp => ?_
    obtain ⟨e, he, hep⟩ := at' p (List.mem_range.mp hp)
    show ((L.map fun e => (e.2, f e.2)).map nameD)[(L.map Prod.snd).idxOf p]? = some (nameD (p, f p))
    rw [List.getElem?_map, List.getElem?_map, he]
    simp only [Option.map_some]
    rw [hep]
end FS
end
section
set_option linter.unusedVariables false
set_option maxRecDepth 100000
namespace FS
open PySem PySem.Calls PySem.W PyProof.Rows
local macro_rules | `(tactic| walk_at "subs") => `(tactic| repeat (first | exact Sub.nil | (apply Sub.skip; (focus decide)) | apply Sub.same))
local macro_rules | `(tactic| walk_at "var") => `(tactic| repeat (first | exact List.Mem.head _ | apply List.Mem.tail))
noncomputable def tS (i : Nat) : Stmt := ((fBody (stm 18))[i]?).getD (.Pass ⟨0, 0, 0, 0⟩)
noncomputable abbrev tEnv (L' : Addr) (code : Value) : Env := envOf (stm 18) "_law_take" 270 L' code
theorem foldB {last : Bool} {tb : List Bool} {i : Nat} {b : Bool} {a : List Nat × Nat} (h : tb[i]? = some b) (ha : a = (tb.take i).foldl (stepS last) ([], 0)) : stepS last a b = (tb.take (i + 1)).foldl (stepS last) ([], 0) := by
  rw [fold_take _ _ _ h, ha]
noncomputable def natD (n : Nat) : D := .int n
section
variable {w : World} {A : Around} {G : Gd} {l : Addr} {n : Nat} {tx : Nat → Str}
theorem take_sizes {L' : Addr} {code : Value} {he V0 : View} {s0 : Shared} {k : Nat} {g : Bool} {L : LS} {sa : Addr} {R : Value → Asn} (F : GF w G) (Rm : Room A (n + 1)) (hL : L.length < 8) :
    Tr (model pw w) A (Sa G (tEnv L' code) he V0 s0 ((Str.ofString "since", .int 0) :: (Str.ofString "sizes", .val (.ref sa)) :: rhoT l tx k g L) [(sa, []), (l, rowsD (L.map (rowE tx)))]) (exec (tS 5) (tEnv L' code))
      (Sa G (tEnv L' code) he V0 s0 ((Str.ofString "sizes", .val (.ref sa)) :: rhoT l tx k g L) [(sa, (sizesOf (L.map fun e => isOne (toldS tx k e.2))).map natD), (l, rowsD (L.map (rowE tx)))]) R := by
  generalize htb : (L.map fun e => isOne (toldS tx k e.2)) = tb
  have inv : ∀ i, ((tb.take i).foldl (stepS (lastB tb)) ([], 0)).1.length ≤ 8 := fun i => by
    have h := (stepS_inv (lastB tb) (tb.take i) ([], 0) 0 (fun _ h => nomatch h) (Nat.le_refl _) (Nat.le_refl _)).2.2
    have : (tb.take i).length ≤ tb.length := by rw [List.length_take]; omega
    have : tb.length = L.length := by rw [← htb, List.length_map]
    omega
  refine Tr.post (SaT.for_ (α := List Nat × Nat) (L.map fun e => .str (toldS tx k e.2)) (fun i a => a = (tb.take i).foldl (stepS (lastB tb)) ([], 0)) (fun _ a => (Str.ofString "since", natD a.2) :: (Str.ofString "sizes", .val (.ref sa)) :: rhoT l tx k g L)
    (fun _ a => [(sa, a.1.map natD), (l, rowsD (L.map (rowE tx)))]) ([], 0) (fun _ _ _ _ _ => False) rfl (.inl rfl) rfl (PE.name rfl (by walk_at "var")) (Itb.list Rm.hh) (fun _ _ => by walk_at "subs") (fun _ _ _ _ _ _ _ _ h => h.elim) (fun he' V' i a d hJ hd => ?_)) fun V s h => ?_
  · obtain ⟨e, he, rfl⟩ := map_at hd
    have hi : i < L.length := (List.getElem?_eq_some_iff.mp he).1
    obtain ⟨el, hel⟩ : ∃ el, L[L.length - 1]? = some el := ⟨L[L.length - 1]'(by omega), List.getElem?_eq_getElem (by omega)⟩
    have hb : tb[i]? = some (isOne (toldS tx k e.2)) := by rw [← htb, List.getElem?_map, he]; rfl
    have hlast : lastB tb = isOne (toldS tx k el.2) := by
      unfold lastB
      rw [← htb, List.length_map, List.getElem?_map, hel]; rfl
    have hlen := inv i
    rw [← hJ] at hlen
    have hst := foldB hb hJ
    refine Tr.cons (SaT.aug rfl (.inl rfl) (d0 := natD a.2) (by walk_at "var") PE.cInt op_iadd_int (by walk_at "subs")) ?_
    refine Tr.last (SaT.if_ (c := isOne (toldS tx k e.2) == isOne (toldS tx k el.2)) (PB.compare Cx.stable (PE.compare Cx.stable (PE.name rfl (by walk_at "var")) PE.cStr op_eq_str) (PE.compare Cx.stable (PE.item Cx.stable (PE.name (d := .list (L.map fun e => .str (toldS tx k e.2))) rfl (by walk_at "var")) (PE.neg PE.cInt) (op_item_listNeg (d := .str (toldS tx k el.2)) (by decide) (by simp; omega) (by decide) ?_)) PE.cStr op_eq_str) op_eq_bool) (fun hc => ?_) (fun hc => ?_))
    · have z : ((-1 : Int) + ((L.map fun e => D.str (toldS tx k e.2)).length : Nat)).toNat = L.length - 1 := by rw [List.length_map]; omega
      rw [z, List.getElem?_map, hel]; rfl
    · refine Tr.cons (SaT.appendM (PE.name rfl (by walk_at "var")) (PE.name (d := .int ((a.2 : Int) + 1)) rfl (by walk_at "var")) (by rw [List.length_map]; omega)) ?_
      refine Tr.last (Tr.post (SaT.assign rfl (.inl rfl) PE.cInt (by walk_at "subs")) fun V s p => ⟨stepS (lastB tb) a (isOne (toldS tx k e.2)), hst, ?_⟩)
      have e1 : stepS (lastB tb) a (isOne (toldS tx k e.2)) = (a.1 ++ [a.2 + 1], 0) := by unfold stepS; rw [hlast, hc, if_pos rfl]
      rw [e1]
      have e2 : (a.1 ++ [a.2 + 1]).map natD = a.1.map natD ++ [.int ((a.2 : Int) + 1)] := by rw [List.map_append]; rfl
      dsimp only
      rw [e2]
      refine p.weaken fun q hq => ?_
      simp only [rhoT, List.mem_cons, List.not_mem_nil, or_false] at hq
      rcases hq with rfl | rfl | rfl | rfl | rfl | rfl | rfl | rfl <;> walk_at "var"
    · refine Tr.nil fun V s p => ⟨stepS (lastB tb) a (isOne (toldS tx k e.2)), hst, ?_⟩
      have e1 : stepS (lastB tb) a (isOne (toldS tx k e.2)) = (a.1, a.2 + 1) := by unfold stepS; rw [hlast, hc, if_neg Bool.false_ne_true]
      rw [e1]
      refine p.weaken fun q hq => ?_
      simp only [rhoT, List.mem_cons, List.not_mem_nil, or_false] at hq
      rcases hq with rfl | rfl | rfl | rfl | rfl | rfl | rfl | rfl <;> walk_at "var"
  · obtain ⟨a, hJ, p⟩ := h
    rw [List.length_map, List.take_of_length_le (by rw [← htb, List.length_map]; exact Nat.le_refl _)] at hJ
    have e1 : a.1 = sizesOf tb := by unfold sizesOf; rw [← hJ]
    rw [← e1]
    exact p.weaken fun q hq => .tail _ hq
theorem map_pick {f : Bool × Nat → D} (M : LS) (a b : Nat) : (((M.map f).drop a).take b) = ((M.drop a).take b).map f := by rw [← List.map_drop, ← List.map_take]
theorem stepF_inv {g : Bool} {tw : LS} (hs : Small tw) : ∀ (l : List Nat) (a : LS × Nat) (m : Nat), a.1.length ≤ m → Small a.1 → (l.foldl (stepF g tw) a).1.length ≤ m + l.length * (2 * tw.length) ∧ Small (l.foldl (stepF g tw) a).1
  | [], a, m, h1, h2 => ⟨by simpa using h1, h2⟩
  | z :: l, a, m, h1, h2 => by
    have inner : ∀ (es : LS) (M : LS), Small es → Small M → (es.foldl (setL g) M).length ≤ M.length + es.length ∧ Small (es.foldl (setL g) M) := fun es => by
      induction es with
      | nil => exact fun M _ h => ⟨Nat.le_refl _, h⟩
      | cons e es ih =>
        intro M h3 h4
        have := ih (setL g M e) (fun x hx => h3 x (.tail _ hx)) (setL_small h4 (h3 e (.head _)))
        have h5 := setL_len g M e
        exact ⟨by rw [List.foldl_cons, List.length_cons]; omega, this.2⟩
    have hp : Small (rot ((tw.drop a.2).take z)) := fun e he => hs e (List.mem_of_mem_drop (List.mem_of_mem_take (mem_rot he)))
    have hr := rot_len ((tw.drop a.2).take z)
    have hl : ((tw.drop a.2).take z).length ≤ tw.length := by rw [List.length_take, List.length_drop]; omega
    have h6 := inner (rot ((tw.drop a.2).take z)) a.1 hp h2
    have ih := stepF_inv (g := g) hs l (stepF g tw a z) (m + 2 * tw.length) (by show ((rot ((tw.drop a.2).take z)).foldl (setL g) a.1).length ≤ _; omega) h6.2
    rw [List.foldl_cons, List.length_cons, Nat.succ_mul]
    exact ⟨by omega, ih.2⟩
theorem take_front {L' : Addr} {code : Value} {he V0 : View} {s0 : Shared} {k : Nat} {g : Bool} {L : LS} {R : Value → Asn} (F : GF w G) (Rm : Room A (n + 4)) (ht : TxOk w.params tx) (hk : k < 8) (hL : L.length < 8) (hsm : Small L) {sz : List Nat} (hz : ∀ z ∈ sz, 1 ≤ z ∧ z ≤ 8) (hzl : sz.length ≤ 8) :
    Tr (model pw w) A (Sa G (tEnv L' code) he V0 s0 ((Str.ofString "front", .int 0) :: (Str.ofString "twice", .list (rowsD ((L ++ L).map (rowE tx)))) :: (Str.ofString "sizes", .list (sz.map natD)) :: rhoT l tx k g L) [(l, rowsD (L.map (rowE tx)))]) (exec (tS 8) (tEnv L' code))
      (Sa G (tEnv L' code) he V0 { s0 with gens := s0.gens.push .finished } (rhoT l tx k g L) [(l, rowsD ((sz.foldl (stepF g (L ++ L)) (L, 0)).1.map (rowE tx)))]) R := by
  have htw : Small (L ++ L) := fun e he => (List.mem_append.mp he).elim (hsm e) (hsm e)
  have hnat : ∀ l : List Nat, l.map natD = (l.map fun n : Nat => (n : Int)).map D.int := fun l => by rw [List.map_map]; rfl
  have hlist : ∀ V s, Sa G (tEnv L' code) he V0 s0 ((Str.ofString "front", .int 0) :: (Str.ofString "twice", .list (rowsD ((L ++ L).map (rowE tx)))) :: (Str.ofString "sizes", .list (sz.map natD)) :: rhoT l tx k g L) [(l, rowsD (L.map (rowE tx)))] V s → s.gens = s0.gens := fun V s p => by rw [p.rest]
  refine Tr.post (SaT.forS_ (α := LS × Nat) ((sz.map fun n : Nat => (n : Int)).map D.int) (fun i a => a = (sz.take i).foldl (stepF g (L ++ L)) (L, 0))
    (fun _ a => (Str.ofString "front", natD a.2) :: (Str.ofString "twice", .list (rowsD ((L ++ L).map (rowE tx)))) :: (Str.ofString "sizes", .list (sz.map natD)) :: rhoT l tx k g L) (fun _ a => [(l, rowsD (a.1.map (rowE tx)))]) (L, 0) (· = s0.gens.push .finished)
    rfl (.inl rfl) rfl (fun V s p Q E kq => gen_hit (n := n) (sizes := sz.map fun n : Nat => (n : Int)) F (Rm.less (by omega)) rfl rfl rfl ?_ ?_ rfl rfl V s p.on p.cx Q E ?_) (fun _ _ => by walk_at "subs") (fun he' V' s0' i a d hJ hd => ?_)) fun V s h => ?_
  · refine PL.cons Cx.stable ?_ PL.nil
    have e : ((sz.map fun n : Nat => (n : Int)) ++ [127, 1]).map D.int = sz.map natD ++ [.int 127, .int 1] := by rw [List.map_append, hnat]; rfl
    rw [e]
    exact PE.binop Cx.stable (PE.name rfl (by walk_at "var")) (PE.dList (PL.cons Cx.stable PE.cInt (PL.cons Cx.stable PE.cInt PL.nil))) (op_add_list (by simp; omega))
  · intro z hz'
    obtain ⟨m, hm, rfl⟩ := List.mem_map.mp hz'
    have := hz m hm
    omega
  · intro I P St V1 h' tk gs g1 it st hP
    rw [hlist V s p] at it
    exact kq I P St V1 h' tk gs g1 it st hP
  · rw [← hnat] at hd
    obtain ⟨z, hzi, rfl⟩ := map_at hd
    have hi : i < sz.length := (List.getElem?_eq_some_iff.mp hzi).1
    have inv := stepF_inv (g := g) htw (sz.take i) (L, 0) 8 (by dsimp only; omega) hsm
    rw [← hJ] at inv
    have hb : (sz.take i).length * (2 * (L ++ L).length) ≤ 256 := by
      have h1 : (sz.take i).length ≤ 8 := by rw [List.length_take]; omega
      have h2 : 2 * (L ++ L).length ≤ 32 := by rw [List.length_append]; omega
      exact Nat.mul_le_mul h1 h2
    have hpl : (((L ++ L).drop a.2).take z).length ≤ 16 := by rw [List.length_take, List.length_drop, List.length_append]; omega
    have hpart : pickD (rowsD ((L ++ L).map (rowE tx))) (some ((a.2 : Nat) : Int)) (some (((a.2 : Nat) : Int) + (z : Nat))) none = (((L ++ L).drop a.2).take z).map fun e => rowD (rowE tx e) := by
      rw [pickD_run]
      unfold rowsD
      rw [List.map_map]
      exact map_pick _ _ _
    refine Tr.cons (SaT.assign (d := .list ((((L ++ L).drop a.2).take z).map fun e => rowD (rowE tx e))) rfl (.inl rfl) ?_ (by walk_at "subs")) ?_
    · rw [← hpart]
      exact PE.slice Cx.stable (PE.name rfl (by walk_at "var")) (PPart.some (PE.name (d := natD a.2) rfl (by walk_at "var"))) (PPart.some (PE.binop Cx.stable (PE.name (d := natD a.2) rfl (by walk_at "var")) (PE.name (d := natD z) rfl (by walk_at "var")) op_add_int)) PPart.none (by decide) (by unfold rowsD; simp; omega)
    refine Tr.cons (SaT.aug rfl (.inl rfl) (d0 := natD a.2) (by walk_at "var") (PE.name (d := natD z) rfl (by walk_at "var")) op_iadd_int (by walk_at "subs")) ?_
    refine Tr.last (Tr.post (take_inner (n := n) (g := g) (part := ((L ++ L).drop a.2).take z) F Rm ht rfl rfl (by walk_at "subs") ?_ (fun he2 V2 s2 M e hM hMl he8 => ?_) inv.2 (fun e he => htw e (List.mem_of_mem_drop (List.mem_of_mem_take he))) (by omega) (by intro _; rfl)) fun V s p => ⟨stepF g (L ++ L) a z, ?_, ?_⟩)
    · generalize hq : ((L ++ L).drop a.2).take z = part at *
      have e : ((rot part).map fun e => rowD (rowE tx e)) = pickD (part.map fun e => rowD (rowE tx e)) (some (-1)) none none ++ pickD (part.map fun e => rowD (rowE tx e)) none (some (-1)) none := by
        rw [pickD_last, pickD_butLast, List.length_map]
        unfold rot
        rw [List.map_append, List.map_drop, List.map_take]
      have l1 : (pickD (part.map fun e => rowD (rowE tx e)) (some (-1)) none none).length ≤ 16 := by rw [pickD_last, List.length_drop, List.length_map]; omega
      have l2 : (pickD (part.map fun e => rowD (rowE tx e)) none (some (-1)) none).length ≤ 16 := by rw [pickD_butLast, List.length_take, List.length_map]; omega
      rw [e]
      exact PE.binop Cx.stable (PE.slice Cx.stable (PE.name rfl (by walk_at "var")) (PPart.some (PE.neg PE.cInt)) PPart.none PPart.none (by decide) (by rw [List.length_map]; omega))
        (PE.slice Cx.stable (PE.name rfl (by walk_at "var")) PPart.none (PPart.some (PE.neg PE.cInt)) PPart.none (by decide) (by rw [List.length_map]; omega)) (op_add_list (by omega))
    · refine Tr.last (Tr.post (SaT.setH (ds' := rowsD ((setL g M e).map (rowE tx))) (d1 := .str (nmG g e.2)) (d2 := .str (tx e.2)) (dr := .none) F (PE.item Cx.stable (PE.name (d := rowD (rowE tx e)) rfl (by walk_at "var")) PE.cInt (op_item_tup (by decide) (by decide) rfl)) (PE.name rfl (by walk_at "var")) (PE.ifExp (c := g) Cx.stable (PB.plain (PE.name rfl (by walk_at "var"))) (fun hg => ?_) (fun hg => ?_)) ?_) fun V s p => p.weaken fun q hq => .tail _ hq)
      · have z : Txt.upper (nmG e.1 e.2) = nmG g e.2 := by rw [nm_upper _ _ he8, hg]
        rw [← z]
        exact PE.meth0 Cx.stable (PE.item Cx.stable (PE.name (d := rowD (rowE tx e)) rfl (by walk_at "var")) PE.cInt (op_item_tup (by decide) (by decide) rfl)) mth_upper (opm_upper (nm_long _ _ he8).2)
      · have z : Txt.lower (nmG e.1 e.2) = nmG g e.2 := by rw [nm_lower _ _ he8, hg]
        rw [← z]
        exact PE.meth0 Cx.stable (PE.item Cx.stable (PE.name (d := rowD (rowE tx e)) rfl (by walk_at "var")) PE.cInt (op_item_tup (by decide) (by decide) rfl)) mth_lower (opm_lower (nm_long _ _ he8).1)
      · rw [← setP_eq hM he8]
        exact setitem_ok (n := n) F (Rm.less (by omega)) (nameOk _ _ _ he8) (ht e.2).2 (rows_ok hM) (by rw [List.length_map]; omega)
    · rw [fold_take _ _ _ hzi, hJ]
    · have e1 : natD (stepF g (L ++ L) a z).2 = .int (((a.2 : Nat) : Int) + (z : Nat)) := by
        show D.int ((a.2 + z : Nat) : Int) = _
        rw [Int.natCast_add]
      rw [e1]
      refine p.weaken fun q hq => ?_
      simp only [rhoT, List.mem_cons, List.not_mem_nil, or_false] at hq
      rcases hq with rfl | rfl | rfl | rfl | rfl | rfl | rfl | rfl | rfl <;> walk_at "var"
  · obtain ⟨a, gs, hgs, hJ, p⟩ := h
    subst hgs
    rw [List.length_map, List.length_map, List.take_of_length_le (Nat.le_refl _)] at hJ
    rw [← hJ]
    exact p.weaken fun q hq => .tail _ (.tail _ (.tail _ hq))
theorem take_ok {k : Nat} {g : Bool} {L : LS} (F : GF w G) (R : Room A (n + 5)) (ht : TxOk w.params tx) (hk : k < 8) (hL : (L.map Prod.snd).Perm (List.range k)) :
    ∀ V (s : Shared), On V s.heap → (∀ b o, G.h₁.get? b = some o → V b = some o) → MutL V s.heap l (rowsD (L.map (rowE tx))) → ∀ v1 v2 v3 v4, Rd V v1 (.held l) → Rd V v2 (.str (nmG false k)) → Rd V v3 (.str (tx k)) → Rd V v4 (.bool g) →
      EvG (model pw w) A (call (.ref 270) [v1, v2, v3, v4]) V s l (rowsD ((takeL (fun i => isOne (toldS tx k i)) k g L).map (rowE tx))) (.list ((List.range k).map fun p => nameD (p, toldS tx k p))) := fun V s on base hm v1 v2 v3 v4 r1 r2 r3 r4 => by
  have hLlen : L.length = k := by have := hL.length_eq; simpa using this
  have hLsm : Small L := fun e he => by
    have := hL.mem_iff.mp (List.mem_map_of_mem (f := Prod.snd) he)
    simp at this; omega
  refine fn_gen (ρ := [(Str.ofString "held", .held l), (Str.ofString "name", .str (nmG false k)), (Str.ofString "text", .str (tx k)), (Str.ofString "great", .bool g)]) (binds := [(Str.ofString "held", v1), (Str.ofString "name", v2), (Str.ofString "text", v3), (Str.ofString "great", v4)]) F.f_take R.lt on base (fun _ _ _ _ _ => rfl) ?_ ?_ hm ?_
  · intro L' p hp
    simp only [List.mem_cons, List.not_mem_nil, or_false] at hp
    rcases hp with rfl | rfl | rfl | rfl <;> exact .inl rfl
  · intro L' code p hp
    simp only [List.mem_cons, List.not_mem_nil, or_false] at hp
    rcases hp with rfl | rfl | rfl | rfl
    · exact ⟨_, r1, .inl ⟨rfl, rfl⟩⟩
    · exact ⟨_, r2, .inl ⟨rfl, rfl⟩⟩
    · exact ⟨_, r3, .inl ⟨rfl, rfl⟩⟩
    · exact ⟨_, r4, .inl ⟨rfl, rfl⟩⟩
  · intro L' code
    have R1 := R.deeper (envOf (stm 18) "_law_take" 270 L' code)
    -- rows, word, told
    refine Tr.cons (SaT.itemsH (n := n) F (R1.less (by omega)) (by unfold rowsD; simp; omega) rfl (.inr ⟨rfl, rfl⟩) (by walk_at "subs") (PE.name rfl (by walk_at "var"))) ?_
    refine Tr.cons (SaT.assign rfl (.inr ⟨rfl, rfl⟩) (PE.fn rfl rfl rfl F.g_plain F.f_plain (PL.cons Cx.stable (PE.name rfl (by walk_at "var")) PL.nil) (plain_ok (n := n) F (R1.less (by omega)) (ht k).1)) (by walk_at "subs")) ?_
    refine Tr.cons (SaT.assign rfl (.inr ⟨rfl, rfl⟩) (PE.comp (L.map (takeZ tx k)) (ρ' := [(Str.ofString "word", .str (plainS (tx k)))]) (cl := [(Str.ofString "word", L' + 2)]) ⟨rfl, by decide, rfl, by decide, rfl⟩ ?_ (PE.name rfl (by walk_at "var")) (by rw [takeZ_fst]; exact (Itb.list R1.hh).toG) (by simp; omega) (fun C z hz => ?_) (fun C z d hz hd => ?_)) (by walk_at "subs")) ?_
    · intro p hp
      have : p = (Str.ofString "word", .str (plainS (tx k))) := by simpa using hp
      subst this
      exact ⟨by walk_at "var", .inl rfl, fun C => .inl rfl, rfl⟩
    · obtain ⟨e, he, rfl⟩ := List.mem_map.mp hz
      exact PT.nil
    · obtain ⟨e, he, rfl⟩ := List.mem_map.mp hz
      have hd' : d = .str (toldS tx k e.2) := by
        have z : (takeZ tx k e).2 = some (.str (toldS tx k e.2)) := rfl
        rw [z] at hd; exact (Option.some.inj hd).symm
      subst hd'
      exact take_told (n := n) (k := k) F (R1.less (by omega)) ht C e rfl rfl rfl rfl rfl rfl
    rw [takeZ_snd]
    refine Tr.pre (P := Sa G (tEnv L' code) (hide s.heap l) V s (rhoT l tx k g L) [(l, rowsD (L.map (rowE tx)))]) ?_ fun V s p => p.weaken fun q hq => ?_
    rotate_left
    · simp only [rhoT, List.mem_cons, List.not_mem_nil, or_false] at hq
      rcases hq with rfl | rfl | rfl | rfl | rfl | rfl <;> walk_at "var"
    refine Tr.cons (SaT.newList rfl (.inl rfl) (by walk_at "subs")) (Tr.ex fun sa => ?_)
    refine Tr.cons (SaT.assign rfl (.inl rfl) PE.cInt (by walk_at "subs")) ?_
    refine Tr.cons (take_sizes (L' := L') (code := code) (n := n) F (R1.less (by omega)) (by omega)) ?_
    generalize hsz : sizesOf (L.map fun e => isOne (toldS tx k e.2)) = sz
    have hszI : (∀ z ∈ sz, 1 ≤ z ∧ z ≤ 8) ∧ sz.length ≤ 8 := by
      have h := stepS_inv (lastB (L.map fun e => isOne (toldS tx k e.2))) (L.map fun e => isOne (toldS tx k e.2)) ([], 0) 0 (fun _ h => nomatch h) (Nat.le_refl _) (Nat.le_refl _)
      rw [show ((L.map fun e => isOne (toldS tx k e.2)).foldl (stepS (lastB (L.map fun e => isOne (toldS tx k e.2)))) ([], 0)).1 = sz from hsz, List.length_map] at h
      exact ⟨fun z hz => ⟨(h.1 z hz).1, by have := (h.1 z hz).2; omega⟩, by have := h.2.2; omega⟩
    -- the sizes stand fast from now on
    refine Tr.preV (P := Sa G (tEnv L' code) (hide s.heap l) V s ((Str.ofString "sizes", .list (sz.map natD)) :: rhoT l tx k g L) [(l, rowsD (L.map (rowE tx)))]) ?_ fun V1 s1 p => ?_
    rotate_left
    · obtain ⟨o, _, _, rd, p2⟩ := p.freezeM
      refine ⟨_, p2.reread fun q hq => ?_⟩
      cases hq with
      | head => exact .inr ⟨.ref sa, by walk_at "var", rd⟩
      | tail _ hq => exact .inl (.tail _ hq)
    refine Tr.cons (SaT.assign (d := .list (rowsD ((L ++ L).map (rowE tx)))) rfl (.inl rfl) ?_ (by walk_at "subs")) ?_
    · have e : rowsD ((L ++ L).map (rowE tx)) = rowsD (L.map (rowE tx)) ++ rowsD (L.map (rowE tx)) := by unfold rowsD; rw [List.map_append, List.map_append]
      rw [e]
      exact PE.binop Cx.stable (PE.name rfl (by walk_at "var")) (PE.name rfl (by walk_at "var")) (op_add_list (by unfold rowsD; simp; omega))
    refine Tr.cons (SaT.assign rfl (.inl rfl) PE.cInt (by walk_at "subs")) ?_
    refine Tr.cons (take_front (n := n) F R1 ht hk (by omega) hLsm hszI.1 hszI.2) ?_
    generalize hM : (sz.foldl (stepF g (L ++ L)) (L, 0)).1 = M
    have hMI : M.length ≤ 900 ∧ Small M := by
      have htw : Small (L ++ L) := fun e he => (List.mem_append.mp he).elim (hLsm e) (hLsm e)
      have h := stepF_inv (g := g) htw sz (L, 0) 8 (by dsimp only; omega) hLsm
      rw [hM] at h
      have hb : sz.length * (2 * (L ++ L).length) ≤ 8 * 32 := Nat.mul_le_mul hszI.2 (by rw [List.length_append]; omega)
      exact ⟨by omega, h.2⟩
    refine Tr.cons (SaT.setH (ds' := rowsD ((setL g M (g, k)).map (rowE tx))) (d1 := .str (nmG g k)) (d2 := .str (tx k)) (dr := .none) F (PE.name rfl (by walk_at "var")) (PE.name rfl (by walk_at "var")) (PE.ifExp (c := g) Cx.stable (PB.plain (PE.name rfl (by walk_at "var"))) (fun hg => ?_) (fun hg => ?_)) ?_) ?_
    · have z : Txt.upper (nmG false k) = nmG g k := by rw [nm_upper _ _ hk, hg]
      rw [← z]
      exact PE.meth0 Cx.stable (PE.name rfl (by walk_at "var")) mth_upper (opm_upper (nm_long _ _ hk).2)
    · subst hg
      exact PE.name rfl (by walk_at "var")
    · rw [← setP_eq (e := (g, k)) hMI.2 hk]
      exact setitem_ok (n := n) F (R1.less (by omega)) (nameOk _ _ _ hk) (ht k).2 (rows_ok hMI.2) (by rw [List.length_map]; omega)
    obtain ⟨π, hπ, hs, hfm⟩ := sortNames (toldS tx k) hL
    have hres : takeL (fun i => isOne (toldS tx k i)) k g L = setL g M (g, k) := by
      unfold takeL
      dsimp only
      rw [hsz, hM]
    rw [hres, ← hfm]
    have hzs : ((List.range L.length).map fun i : Nat => (D.int (0 + (i : Int)), (L[i]?).map fun e => nameD (e.2, toldS tx k e.2))).filterMap Prod.snd = (L.map fun e => (e.2, toldS tx k e.2)).map nameD := by
      rw [List.filterMap_map, List.map_map]
      have e := range_pick (L.map fun e => nameD (e.2, toldS tx k e.2))
      rw [List.length_map] at e
      refine Eq.trans ?_ e
      congr 1
      funext i
      show (L[i]?).map _ = (L.map _)[i]?
      rw [List.getElem?_map]
    refine Tr.last (SaT.ret (PE.call Cx.stable (PE.blt rfl rfl rfl rfl F.b_sorted.1 F.b_sorted.2) (fun _ _ _ _ => keeps_builtin) (PL.cons Cx.stable ?_ PL.nil) (op_sorted_names π (by simp; omega) (by
        rw [List.map_map]
        exact hL.nodup_iff.mpr List.nodup_range) hπ hs)) fun V2 s2 v p r => ⟨p.gr, p.cx.mu _ (.head _), p.rest, r⟩)
    rw [← hzs]
    refine PE.comp _ (ρ' := [(Str.ofString "rows", .list (rowsD (L.map (rowE tx)))), (Str.ofString "told", .list (L.map fun e => .str (toldS tx k e.2)))]) (cl := [(Str.ofString "told", L' + 3), (Str.ofString "rows", L' + 1)]) (dx := .rng 0 L.length) ⟨rfl, by decide, rfl, by decide, rfl⟩ ?_
      (PE.call Cx.stable (PE.blt rfl rfl rfl rfl F.b_range.1 F.b_range.2) (fun _ _ _ _ => keeps_type) (PL.cons Cx.stable (PE.call (d := .int L.length) Cx.stable (PE.blt rfl rfl rfl rfl F.b_len.1 F.b_len.2) (fun _ _ _ _ => keeps_builtin) (PL.cons Cx.stable (PE.name (d := .list (rowsD (L.map (rowE tx)))) rfl (by walk_at "var")) PL.nil) ?_) PL.nil) op_range1) ?_ (by simp; omega) (fun C z hz => ?_) (fun C z d hz hd => ?_)
    · intro p hp
      simp only [List.mem_cons, List.not_mem_nil, or_false] at hp
      rcases hp with rfl | rfl
      · exact ⟨by walk_at "var", .inl rfl, fun C => .inl rfl, rfl⟩
      · exact ⟨by walk_at "var", .inl rfl, fun C => .inl rfl, rfl⟩
    · have e : (rowsD (L.map (rowE tx))).length = L.length := by unfold rowsD; rw [List.length_map, List.length_map]
      have := op_len (prog := pw) (w := w) (A := A.deeper (tEnv L' code)) (I := Cx G (tEnv L' code) (rhoT l tx k g L) [(l, rowsD ((setL g M (g, k)).map (rowE tx)))]) (ds := rowsD (L.map (rowE tx))) (by rw [e]; omega)
      rw [e] at this
      exact this
    · rw [List.map_map]
      have z := (Itb.range (prog := pw) (w := w) (a := 0) (b := (L.length : Int)) R1.hh (by omega) (by omega) (by omega) (by omega)).toG (J := Cx G (tEnv L' code) (rhoT l tx k g L) [(l, rowsD ((setL g M (g, k)).map (rowE tx)))])
      rw [show ((L.length : Int) - 0).toNat = L.length by omega] at z
      exact z
    · obtain ⟨i, hi, rfl⟩ := List.mem_map.mp hz
      have hi' : i < L.length := List.mem_range.mp hi
      have e : ((L[i]?).map fun e => nameD (e.2, toldS tx k e.2)).isSome = true := by rw [List.getElem?_eq_getElem hi']; rfl
      dsimp only
      rw [e]
      exact PT.nil
    · obtain ⟨i, hi, rfl⟩ := List.mem_map.mp hz
      have hi' : i < L.length := List.mem_range.mp hi
      have he : L[i]? = some L[i] := List.getElem?_eq_getElem hi'
      generalize L[i] = e at he
      have hd' : d = nameD (e.2, toldS tx k e.2) := by
        dsimp only at hd
        rw [he] at hd; exact (Option.some.inj hd).symm
      subst hd'
      have e8 := hLsm e (List.mem_of_getElem? he)
      have z : nameD (e.2, toldS tx k e.2) = .tup [.str (Txt.lower (nmG e.1 e.2)), .str (toldS tx k e.2)] := by rw [nm_lower _ _ e8]; rfl
      have hi0 : (0 + (i : Int)).toNat = i := by omega
      rw [z]
      refine PE.dTup (PL.cons Cx.stable (PE.meth0 Cx.stable (PE.item Cx.stable (PE.item (d := rowD (rowE tx e)) Cx.stable (PE.name (d := .list (rowsD (L.map (rowE tx)))) rfl (by walk_at "var")) (PE.name rfl (by walk_at "var")) (op_item_list (by omega) (by omega) ?_)) PE.cInt (op_item_tup (by decide) (by decide) rfl)) mth_lower (opm_lower (nm_long _ _ e8).1)) (PL.cons Cx.stable (PE.item Cx.stable (PE.name (d := .list (L.map fun e => .str (toldS tx k e.2))) rfl (by walk_at "var")) (PE.name rfl (by walk_at "var")) (op_item_list (by omega) (by omega) ?_)) PL.nil)) (by simp)
      · rw [hi0]; unfold rowsD; rw [List.map_map, List.getElem?_map, he]; rfl
      · rw [hi0, List.getElem?_map, he]; rfl
end
end FS
end
section
set_option linter.unusedVariables false
set_option maxRecDepth 100000
namespace FS
open PySem PySem.Calls PySem.W PyProof.Rows

/-- a run of code that ends well -/
noncomputable abbrev Well (post : Shared → Prop) (r : Result) (s' : Shared) : Prop := ∃ f, r = .ok f ∧ post s'
section
variable {prog : Program} {w : World} {A : Around} {s : Shared} {env : Env} {elt t0 i0 t1 i1 : Expr} {ifs : List Expr} {scope : Scope} {pos : Pos} {it acc : Value} {R : Shared → Prop}
theorem comp2_in (I : Nat → Shared → Prop) (turn : ∀ n s, I n s → ∀ E, wpAny (model prog w) A (pyNext it) (fun r s₁ => match r with
      | none => R s₁
      | some v => wpAny (model prog w) A (assign t1 env v) (fun _ s₂ => wpAny (model prog w) A (forIn ifs true fun c r => if r = true then do let ok ← isTrue c env (eval c env); pure (ForInStep.yield ok) else pure (ForInStep.yield r)) (fun ok s₃ =>
          if ok = true then wpAny (model prog w) A (eval elt env) (fun x s₄ => wpAny (model prog w) A (call (.builtin "list.append") [acc, x]) (fun _ s₅ => ∃ m, m < n ∧ I m s₅) E s₄) E s₃ else ∃ m, m < n ∧ I m s₃) E s₂) E s₁) E s)
    (n : Nat) (h : I n s) (ht : ∀ v, letOwnedTupleGo t1 it v = pure () := by intro _; rfl) :
    codeAny (model prog w) A (.compLoop (.ListComp elt [⟨t0, i0, [], 0⟩, ⟨t1, i1, ifs, 0⟩] scope pos) 1 it acc env) (Well R) s := by
  refine codeAny_loop rfl I (fun n s hI => ?_) n h
  show wpAny _ A ((compTurn (.ListComp elt [⟨t0, i0, [], 0⟩, ⟨t1, i1, ifs, 0⟩] scope pos) 1 it acc env).onRaise (fun x => do noteFrame x env; theTreesLotGoes x)) _ _ s
  refine wpAny_noted ?_
  show wpAny _ A (standAt i1.pos >>= fun _ => pyNext it >>= _) _ _ s
  refine wpAny_bind (wpAny_standAt (wpAny_bind (wpAny_mono (turn n s hI _) (fun r s₁ h₁ => ?_) fun _ _ z => z)))
  cases r with
  | none => exact wpAny_pure ⟨_, rfl, h₁⟩
  | some v =>
    refine wpAny_bind (wpAny_of_eq (ht v) ?_)
    refine wpAny_bind (wpAny_mono h₁ (fun _ s₂ h₂ => wpAny_bind (wpAny_mono h₂ (fun ok s₃ h₃ => ?_) fun _ _ z => z)) fun _ _ z => z)
    cases ok with
    | false => exact wpAny_pure ⟨rfl, h₃⟩
    | true => exact wpAny_bind (wpAny_bind (wpAny_mono h₃ (fun x s₄ h₄ => wpAny_bind (wpAny_mono h₄ (fun _ s₅ h₅ => wpAny_pure (wpAny_pure ⟨rfl, h₅⟩)) fun _ _ z => z)) fun _ _ z => z))
theorem comp2_out (I : Nat → Shared → Prop) (turn : ∀ n s, I n s → ∀ E, wpAny (model prog w) A (pyNext it) (fun r s₁ => match r with
      | none => R s₁
      | some v => wpAny (model prog w) A (assign t0 env v) (fun _ s₂ => wpAny (model prog w) A (eval i1 env) (fun x s₃ => wpAny (model prog w) A (pyIter x) (fun it1 s₄ =>
          codeAny (model prog w) A (.compStart (.ListComp elt [⟨t0, i0, [], 0⟩, ⟨t1, i1, ifs, 0⟩] scope pos) 1 it1 acc env) (Well fun s₅ => ∃ m, m < n ∧ I m s₅) s₄) E s₃) E s₂) E s₁) E s)
    (n : Nat) (h : I n s) (ht : ∀ v, letOwnedTupleGo t0 it v = pure () := by intro _; rfl) (hs : ∀ x, foldedSetIterable i1 env x = pure x := by intro _; rfl) :
    codeAny (model prog w) A (.compLoop (.ListComp elt [⟨t0, i0, [], 0⟩, ⟨t1, i1, ifs, 0⟩] scope pos) 0 it acc env) (Well R) s := by
  refine codeAny_loop rfl I (fun n s hI => ?_) n h
  show wpAny _ A ((compTurn (.ListComp elt [⟨t0, i0, [], 0⟩, ⟨t1, i1, ifs, 0⟩] scope pos) 0 it acc env).onRaise (fun x => do noteFrame x env; theTreesLotGoes x)) _ _ s
  refine wpAny_noted ?_
  show wpAny _ A (standAt i0.pos >>= fun _ => pyNext it >>= _) _ _ s
  refine wpAny_bind (wpAny_standAt (wpAny_bind (wpAny_mono (turn n s hI _) (fun r s₁ h₁ => ?_) fun _ _ z => z)))
  cases r with
  | none => exact wpAny_pure ⟨_, rfl, h₁⟩
  | some v =>
    refine wpAny_bind (wpAny_of_eq (ht v) ?_)
    refine wpAny_bind (wpAny_mono h₁ (fun _ s₂ h₂ => ?_) fun _ _ z => z)
    refine wpAny_bind (wpAny_pure ?_)
    show wpAny _ A (eval i1 env >>= fun x => (standAt i1.pos >>= fun _ => foldedSetIterable i1 env x >>= fun x => holding [x] (pyIter x) >>= fun it1 => runOwn (.compStart (.ListComp elt [⟨t0, i0, [], 0⟩, ⟨t1, i1, ifs, 0⟩] scope pos) 1 it1 acc env) env >>= fun _ => again (.compLoop (.ListComp elt [⟨t0, i0, [], 0⟩, ⟨t1, i1, ifs, 0⟩] scope pos) 0 it acc env))) _ _ s₂
    refine wpAny_bind (wpAny_mono h₂ (fun x s₃ h₃ => wpAny_bind (wpAny_standAt (wpAny_bind (wpAny_of_eq (hs x) (wpAny_bind (wpAny_holding (wpAny_mono h₃ (fun it1 s₄ h₄ => ?_) fun _ _ z => z))))))) fun _ _ z => z)
    refine wpAny_bind (wpAny_runOwn (codeAny_mono h₄ fun r s₅ hr => ?_))
    obtain ⟨f, rfl, h₅⟩ := hr
    exact wpAny_pure ⟨rfl, h₅⟩
theorem comp2_start (h0 : codeAny (model prog w) A (.compLoop (.ListComp elt [⟨t0, i0, [], 0⟩, ⟨t1, i1, ifs, 0⟩] scope pos) 1 it acc env) (Well R) s)
    (h : ∀ E, wpAny (model prog w) A (pyIter it) (fun it' s' => codeAny (model prog w) A (.compLoop (.ListComp elt [⟨t0, i0, [], 0⟩, ⟨t1, i1, ifs, 0⟩] scope pos) 1 it' acc env) (Well R) s') E s) :
    codeAny (model prog w) A (.compStart (.ListComp elt [⟨t0, i0, [], 0⟩, ⟨t1, i1, ifs, 0⟩] scope pos) 1 it acc env) (Well R) s := by
  refine codeAny_of_tree ?_
  show wpAny _ _ ((compStart (.ListComp elt [⟨t0, i0, [], 0⟩, ⟨t1, i1, ifs, 0⟩] scope pos) 1 it acc env).onRaise (fun x => do noteFrame x env; standAt theWindowsPlace)) _ _ s
  refine wpAny_notedAt ?_
  unfold compStart
  show wpAny _ _ (PySem.ask >>= _) _ _ s
  refine wpAny_bind (wpAny_askSetting (wpAny_ite ?_))
  split
  · first
      | exact wpAny_bind (wpAny_pure (wpAny_pure (And.intro rfl h0)))
      | exact wpAny_pure (And.intro rfl h0)
  · first
      | exact wpAny_bind (wpAny_rule (wpAny_bind (wpAny_standAt (wpAny_bind (wpAny_mono (h _) (fun it' s' h' => wpAny_pure (And.intro rfl h')) fun _ _ x => x)))))
      | (refine wpAny_bind (wpAny_rule ?_); show wpAny _ _ (standAt i1.pos >>= _) _ _ s; exact wpAny_bind (wpAny_standAt (wpAny_bind (wpAny_mono (h _) (fun it' s' h' => wpAny_pure (And.intro rfl h')) fun _ _ x => x))))
end
end FS
end
section
set_option linter.unusedVariables false
set_option maxRecDepth 100000
namespace FS
open PySem PySem.Calls PySem.W PyProof.Rows

/-- a comprehension's things: its list D', its frame C, seen from the state s₂ in which it began -/
structure CB (s₂ : Shared) (he V0 V : View) (I D' C : Addr) (V' : View) (h' : Heap) (m' : Str → Option Value) (ys : Array Value) (acc : List D) : Prop where
  gr : GrowK he V0 V' h'
  sub : ∀ b o, V b = some o → V' b = some o
  vC : V' C = none
  vD : V' D' = none
  vI : V' I = none
  ns : h'.Ns C m'
  pl : h'.PlainList D' ys
  rd : RdL V' ys.toList acc
  keep : ∀ b o, b ≠ I → s₂.heap.get? b = some o → h'.get? b = some o
  out : ∀ b, b ≠ I → (∃ o, s₂.heap.get? b = some o) → V b = none → V' b = none
  iN : ∃ o, h'.get? I = some o
theorem nsSome {h : Heap} {a : Addr} {m : Str → Option Value} (n : h.Ns a m) : ∃ o, h.get? a = some o := let ⟨o, _, _, ho, _⟩ := n; ⟨o, ho⟩
section
variable {s₂ : Shared} {he V0 V : View} {I D' C : Addr} {V1 V2 : View} {h1 h2 : Heap} {m : Str → Option Value} {ys : Array Value} {acc : List D}
theorem CB.grow (c : CB s₂ he V0 V I D' C V1 h1 m ys acc) (g : Grow h1 V1 V2 h2) : CB s₂ he V0 V I D' C V2 h2 m ys acc where
  gr := c.gr.trans g
  sub := fun b o e => g.sub b o (c.sub b o e)
  vC := let ⟨_, ho⟩ := nsSome c.ns; g.out ho c.vC
  vD := let ⟨_, e⟩ := c.pl; g.out e c.vD
  vI := let ⟨_, ho⟩ := c.iN; g.out ho c.vI
  ns := Heap.Ns.keeps c.ns g.keep
  pl := c.pl.at fun o e => g.keep _ o e
  rd := c.rd.mono g.sub
  keep := fun b o hb e => g.keep b o (c.keep b o hb e)
  out := fun b hb ⟨o, e⟩ q => g.out (c.keep b o hb e) (c.out b hb ⟨o, e⟩ q)
  iN := let ⟨o, ho⟩ := c.iN; ⟨o, g.keep _ _ ho⟩
/-- a change at a place that is none of its own -/
theorem CB.change {a : Addr} (c : CB s₂ he V0 V I D' C V1 h1 m ys acc) (x : Heap.ExtBut a h1 h2) (hn : he a = none) (hV : V1 a = none) (hs : a ≠ I → s₂.heap.get? a = none) (aC : a ≠ C) (aD : a ≠ D') (hI : ∃ o, h2.get? I = some o) : CB s₂ he V0 V I D' C V1 h2 m ys acc where
  gr := c.gr.change x hn hV
  sub := c.sub
  vC := c.vC
  vD := c.vD
  vI := c.vI
  ns := c.ns.at' fun o e => x C o (Ne.symm aC) e
  pl := c.pl.extBut x (Ne.symm aD)
  rd := c.rd
  keep := fun b o hb e => x b o (fun z => by subst z; rw [hs hb] at e; cases e) (c.keep b o hb e)
  out := c.out
  iN := hI
variable {G : Gd} {env : Env} {ρ ρ' σ : Vars} {μ : List (Addr × List D)} {scope : Scope} {cl : List (Str × Addr)}
theorem CB.cx (c : CB s₂ he V0 V I D' C V1 h1 m ys acc) (cx : Cx G env ρ μ V s₂.heap) (hIc : ∀ v, ¬ s₂.heap.IsCell I v) (hIm : ∀ p ∈ μ, p.1 ≠ I) (hf : ∀ p ∈ ρ', p ∈ ρ ∧ (env.kindOf p.1 = some .cell ∨ env.kindOf p.1 = some .free) ∧ (∀ C, (compEnvC scope cl C env).kindOf p.1 = some .cell ∨ (compEnvC scope cl C env).kindOf p.1 = some .free) ∧ cl.lookup p.1 = env.cells.lookup p.1)
    (hσ : ∀ p ∈ σ, (compEnvC scope cl C env).kindOf p.1 = some .local ∧ ∃ v, m p.1 = some v ∧ Rd V1 v p.2) : Cx G (compEnvC scope cl C env) (σ ++ ρ') μ V1 h1 where
  base := fun b o e => c.sub b o (cx.base b o e)
  fm := fun p hp => by
    rcases List.mem_append.mp hp with hp | hp
    · obtain ⟨k, v, hm, r⟩ := hσ p hp
      exact ⟨v, .inl ⟨k, m, c.ns, hm⟩, r⟩
    · obtain ⟨h1, h2, h3, h4⟩ := hf p hp
      obtain ⟨v, at', r⟩ := cx.fm p h1
      rcases at' with ⟨e, _⟩ | ⟨_, a, l, q⟩
      · rcases h2 with h2 | h2 <;> (rw [h2] at e; cases e)
      · refine ⟨v, .inr ⟨h3 C, a, h4.trans l, ?_⟩, r.mono c.sub⟩
        obtain ⟨o, ho, hd⟩ := q
        exact ⟨o, c.keep a o (fun z => hIc v (z ▸ ⟨o, ho, hd⟩)) ho, hd⟩
  mu := fun p hp => by
    obtain ⟨items, hl, rl, vn⟩ := cx.mu p hp
    obtain ⟨o, ho⟩ := hl
    exact ⟨items, ⟨o, c.keep _ _ (hIm p hp) ho⟩, rl.mono c.sub, c.out p.1 (hIm p hp) ⟨_, ho⟩ vn⟩
theorem CB.set {h2 : Heap} {m2 : Str → Option Value} (c : CB s₂ he V0 V I D' C V1 h1 m ys acc) (hs : s₂.heap.get? C = none) (hn : he C = none) (DC : D' ≠ C) (IC : I ≠ C) (ns : h2.Ns C m2) (sb : Heap.ExtBut C h1 h2) : CB s₂ he V0 V I D' C V1 h2 m2 ys acc where
  gr := c.gr.change sb hn c.vC
  sub := c.sub
  vC := c.vC
  vD := c.vD
  vI := c.vI
  ns := ns
  pl := c.pl.extBut sb DC
  rd := c.rd
  keep := fun b o hb e => sb b o (fun z => by subst z; rw [hs] at e; cases e) (c.keep b o hb e)
  out := c.out
  iN := let ⟨o, ho⟩ := c.iN; ⟨o, sb _ _ IC ho⟩
end

section
variable {prog : Program} {w : World} {A : Around} {G : Gd} {env : Env} {ρ ρ' : Vars} {μ : List (Addr × List D)}
theorem comp2_inner {elt iter0 iter1 : Expr} {x0 x1 : Str} {px0 px1 : Pos} {ifs : List Expr} {scope : Scope} {cl : List (Str × Addr)} {pos : Pos} {s₂ : Shared} {I D' C I1 : Addr} {he V0 V W1 : View} {z : D} {v0 : Value} {zs : List (D × Option D)} {St St1 : Nat → Heap → Prop} {P P1 : List Addr} {j : Nat}
    {acc : List D} {V1 : View} {h1 : Heap} {tk : List (Str × Value) → Nat} {tk1 : Nat} {m1 : Str → Option Value} {ys : Array Value} {R : Shared → Prop}
    (cx : Cx G env ρ μ V s₂.heap) (hIc : ∀ v, ¬ s₂.heap.IsCell I v) (hIm : ∀ p ∈ μ, p.1 ≠ I) (hfree : FreeOk scope cl env x0 ρ ρ') (hkind : scope.kind = .function) (hx0 : scope.names.lookup x0 = some .local) (hx1 : scope.names.lookup x1 = some .local) (hx01 : x0 ≠ x1)
    (it1 : ItrP P1 prog w A I1 (zs.map Prod.fst) W1 St1) (hSt : ∀ i h h', St i h → (∀ b ∈ I :: P, ∀ o, h.get? b = some o → h'.get? b = some o) → St i h')
    (sC : s₂.heap.get? C = none) (sD : s₂.heap.get? D' = none) (sI1 : s₂.heap.get? I1 = none) (eC : he C = none) (eD : he D' = none) (eI1 : he I1 = none) (DC : D' ≠ C) (hP : ∀ b ∈ I :: P, ∃ o, s₂.heap.get? b = some o) (I1C : I1 ≠ C) (I1D : I1 ≠ D') (hP1 : ∀ b ∈ P1, b ≠ C ∧ b ≠ D')
    (hlen : acc.length + zs.length ≤ 1000)
    (htest : ∀ C y, y ∈ zs → PT (model prog w) A (Cx G (compEnvC scope cl C env) ((x1, y.1) :: (x0, z) :: ρ') μ) ifs (compEnvC scope cl C env) y.2.isSome)
    (helt : ∀ C y d, y ∈ zs → y.2 = some d → PE (model prog w) A (Cx G (compEnvC scope cl C env) ((x1, y.1) :: (x0, z) :: ρ') μ) (eval elt (compEnvC scope cl C env)) d)
    (c : CB s₂ he V0 V I D' C V1 h1 m1 ys acc) (hW : ∀ b o, W1 b = some o → V1 b = some o) (vI1 : V1 I1 = none) (st1 : St1 0 h1) (st : St j h1) (hm : m1 x0 = some v0) (hv0 : Rd V1 v0 z)
    (k : ∀ V' h' tk' m' ys', CB s₂ he V0 V I D' C V' h' m' ys' (acc ++ zs.filterMap Prod.snd) → St j h' → R { s₂ with heap := h', toks := tk' }) :
    codeAny (model prog w) A (.compLoop (.ListComp elt [⟨.Name x0 px0, iter0, [], 0⟩, ⟨.Name x1 px1, iter1, ifs, 0⟩] scope pos) 1 (.ref I1) (.ref D') (compEnvC scope cl C env)) (Well R) { s₂ with heap := h1, toks := tk1 } := by
  have ne : ∀ b ∈ I :: P, b ≠ I1 ∧ b ≠ C ∧ b ≠ D' := fun b hb => by
    obtain ⟨o, e⟩ := hP b hb
    exact ⟨fun z => (by subst z; rw [sI1] at e; cases e), fun z => (by subst z; rw [sC] at e; cases e), fun z => (by subst z; rw [sD] at e; cases e)⟩
  have ne1 : ∀ b ∈ I1 :: P1, b ≠ C ∧ b ≠ D' := fun b hb => by
    cases hb with
    | head => exact ⟨I1C, I1D⟩
    | tail _ hb => exact hP1 b hb
  have hII1 : I ≠ I1 := (ne I (.head _)).1
  have hIC : I ≠ C := (ne I (.head _)).2.1
  have hID : I ≠ D' := (ne I (.head _)).2.2
  refine comp2_in (fun n s' => ∃ i V' h' tk' m' ys', s' = { s₂ with heap := h', toks := tk' } ∧ i ≤ zs.length ∧ n = zs.length + 1 - i ∧ CB s₂ he V0 V I D' C V' h' m' ys' (acc ++ (zs.take i).filterMap Prod.snd) ∧ (∀ b o, W1 b = some o → V' b = some o) ∧ V' I1 = none ∧ St1 i h' ∧ St j h' ∧ m' x0 = some v0 ∧ Rd V' v0 z) ?_ (zs.length + 1)
    ⟨0, V1, h1, tk1, m1, ys, rfl, Nat.zero_le _, rfl, by simpa using c, hW, vI1, st1, st, hm, hv0⟩
  rintro n s' ⟨i, V2, h2, tk2, m2, ys2, rfl, hi, rfl, c2, hW2, vI2, st2, sto2, hm2, hv2⟩ E
  rcases Nat.lt_or_ge i zs.length with hlt | hge
  · refine it1.item i V2 _ _ _ (by simpa using hlt) c2.gr.on hW2 st2 fun v h3 tk3 d hd rv st3 ex3 => ?_
    have hz : ∃ y, zs[i]? = some y ∧ y.1 = d := by
      rw [List.getElem?_map] at hd
      cases q : zs[i]? with
      | none => rw [q] at hd; cases hd
      | some y => rw [q] at hd; exact ⟨y, rfl, by simpa using hd⟩
    obtain ⟨y, hy, rfl⟩ := hz
    have hym : y ∈ zs := List.mem_of_getElem? hy
    have i3 : ∃ o, h3.get? I = some o := let ⟨o, ho⟩ := c2.iN; ⟨o, ex3 _ _ hII1 ho⟩
    have c3 := c2.change (a := I1) ex3 eI1 vI2 (fun _ => sI1) I1C I1D i3
    have sto3 : St j h3 := hSt _ _ _ sto2 fun b hb o e => ex3 b o (ne b hb).1 e
    dsimp only
    refine wpAny_assign_Name (wpAny_storeName_local (env := compEnvC scope cl C env) (lookup_relabel_local hx1) c3.ns (fun h4 ns4 sb4 => ?_) (by simp [compEnvC, relabel, hkind]))
    have c4 := c3.set sC eC DC hIC ns4 sb4.extBut
    have st4 : St1 (i + 1) h4 := it1.frameP _ _ _ st3 fun b hb o e => sb4.extBut b o (ne1 b hb).1 e
    have sto4 : St j h4 := hSt _ _ _ sto3 fun b hb o e => sb4.extBut b o (ne b hb).2.1 e
    have cx4 : Cx G (compEnvC scope cl C env) ((x1, y.1) :: (x0, z) :: ρ') μ V2 h4 :=
      c4.cx (σ := [(x1, y.1), (x0, z)]) cx hIc hIm hfree fun p hp => by
        simp only [List.mem_cons, List.not_mem_nil, or_false] at hp
        rcases hp with rfl | rfl
        · exact ⟨lookup_relabel_local hx1, v, by simp, rv⟩
        · exact ⟨lookup_relabel_local hx0, v0, by simp only [if_neg hx01]; exact hm2, hv2⟩
    have i4 : ∃ o, h4.get? I1 = some o := by obtain ⟨o, vs, ho, _⟩ := it1.flds _ _ st4; exact ⟨o, ho⟩
    obtain ⟨oI, hoI⟩ := i4
    refine htest C y hym V2 _ c4.gr.on cx4 _ _ fun V5 h5 tk5 g5 => ?_
    have c5 := c4.grow g5
    have vI5 : V5 I1 = none := g5.out hoI vI2
    have st5 : St1 (i + 1) h5 := it1.frameP _ _ _ st4 fun b _ o e => g5.keep _ o e
    have sto5 : St j h5 := hSt _ _ _ sto4 fun b _ o e => g5.keep _ o e
    have tkq : zs.take (i + 1) = zs.take i ++ [y] := by rw [List.take_add_one, hy]; rfl
    have hm5 : (fun q => if q = x1 then some v else m2 q) x0 = some v0 := by simp only [if_neg hx01]; exact hm2
    cases hy2 : y.2 with
    | none =>
      simp only [Option.isSome_none, Bool.false_eq_true, if_false]
      refine ⟨zs.length + 1 - (i + 1), by omega, i + 1, V5, h5, tk5, (fun q => if q = x1 then some v else m2 q), ys2, rfl, hlt, rfl, ?_, fun b o e => g5.sub b o (hW2 b o e), vI5, st5, sto5, hm5, hv2.mono g5.sub⟩
      rw [tkq, List.filterMap_append]
      simpa [hy2] using c5
    | some d =>
      simp only [Option.isSome_some, if_true]
      refine helt C y d hym hy2 V5 _ g5.on (cx4.stable _ _ _ _ g5) _ _ fun u V6 h6 tk6 g6 r6 => ?_
      have c6 := c5.grow g6
      have vI6 : V6 I1 = none := g6.out (g5.keep _ _ hoI) vI5
      have hys : ys2.size ≤ sizeLine := by
        have e1 := c6.rd.length
        have e2 : ((zs.take i).filterMap Prod.snd).length ≤ (zs.take i).length := List.length_filterMap_le _ _
        have e3 : (zs.take i).length ≤ zs.length := by rw [List.length_take]; omega
        have e4 : ys2.toList.length = ys2.size := by simp
        rw [List.length_append] at e1
        rw [sizeLine_eq]
        omega
      refine wpAny_list_append_plain (hsz := hys) c6.pl fun h7 pl7 sb7 => ?_
      refine ⟨zs.length + 1 - (i + 1), by omega, i + 1, V6, h7, tk6, (fun q => if q = x1 then some v else m2 q), ys2.push u, rfl, hlt, rfl, ?_, fun b o e => g6.sub b o (g5.sub b o (hW2 b o e)), vI6, it1.frameP _ _ _ st5 fun b hb o e => sb7.extBut b o (ne1 b hb).2 (g6.keep _ o e), hSt _ _ _ sto5 fun b hb o e => sb7.extBut b o (ne b hb).2.2 (g6.keep _ o e), hm5, (hv2.mono g5.sub).mono g6.sub⟩
      refine
        { gr := c6.gr.change sb7.extBut eD c6.vD
          sub := c6.sub, vC := c6.vC, vD := c6.vD, vI := c6.vI
          ns := c6.ns.sameBut sb7 (Ne.symm DC)
          pl := pl7
          rd := ?_
          keep := fun b o hb e => sb7.extBut b o (fun z => by subst z; rw [sD] at e; cases e) (c6.keep b o hb e)
          out := c6.out
          iN := let ⟨o, ho⟩ := c6.iN; ⟨o, sb7.extBut _ _ hID ho⟩ }
      rw [tkq, List.filterMap_append]
      have := c6.rd.append (RdL.cons r6 .nil)
      simpa [hy2] using this
  · have hin : i = zs.length := by omega
    subst hin
    refine it1.done V2 _ _ _ c2.gr.on hW2 (by simpa using st2) fun h3 tk3 ex3 => ?_
    have i3 : ∃ o, h3.get? I = some o := let ⟨o, ho⟩ := c2.iN; ⟨o, ex3 _ _ hII1 ho⟩
    have c3 := c2.change (a := I1) ex3 eI1 vI2 (fun _ => sI1) I1C I1D i3
    rw [List.take_length] at c3
    exact k V2 h3 _ _ _ c3 (hSt _ _ _ sto2 fun b hb o e => ex3 b o (ne b hb).1 e)
end
end FS
end
section
set_option linter.unusedVariables false
set_option maxRecDepth 100000
namespace FS
open PySem PySem.Calls PySem.W PyProof.Rows
section
variable {prog : Program} {w : World} {A : Around} {G : Gd} {env : Env} {ρ ρ' : Vars} {μ : List (Addr × List D)} {dx : D}
theorem comp2_block {elt iter0 iter1 : Expr} {x0 x1 : Str} {px0 px1 : Pos} {ifs : List Expr} {scope : Scope} {cl : List (Str × Addr)} {pos : Pos} {s₂ : Shared} {I : Addr} {zs0 : List D} {dd : D → D} {zs1 : D → List (D × Option D)} {St : Nat → Heap → Prop} {he V0 V : View}
    {E : Value → Shared → Prop} {RR : Value → Addr → Result → Shared → Prop} {P : List Addr}
    (it : ItrP P prog w A I zs0 V St) (hP : ∀ b ∈ P, ∃ o, s₂.heap.get? b = some o) (st : St 0 s₂.heap) (on : On V s₂.heap) (gr : GrowK he V0 V s₂.heap) (hI : he I = none) (hVI : V I = none) (cx : Cx G env ρ μ V s₂.heap) (hsz : (zs0.flatMap zs1).length ≤ 1000)
    (hcell : ∀ y ∈ scope.names, y.2 ≠ .cell) (hkind : scope.kind = .function) (hx0 : scope.names.lookup x0 = some .local) (hx1 : scope.names.lookup x1 = some .local) (hx01 : x0 ≠ x1) (hfree : FreeOk scope cl env x0 ρ ρ')
    (hit1 : ∀ C z, z ∈ zs0 → PE (model prog w) A (Cx G (compEnvC scope cl C env) ((x0, z) :: ρ') μ) (eval iter1 (compEnvC scope cl C env)) (dd z)) (hib1 : ∀ z, z ∈ zs0 → Itb prog w A (dd z) ((zs1 z).map Prod.fst))
    (htest : ∀ C z y, z ∈ zs0 → y ∈ zs1 z → PT (model prog w) A (Cx G (compEnvC scope cl C env) ((x1, y.1) :: (x0, z) :: ρ') μ) ifs (compEnvC scope cl C env) y.2.isSome)
    (helt : ∀ C z y d, z ∈ zs0 → y ∈ zs1 z → y.2 = some d → PE (model prog w) A (Cx G (compEnvC scope cl C env) ((x1, y.1) :: (x0, z) :: ρ') μ) (eval elt (compEnvC scope cl C env)) d)
    (hs1 : ∀ env x, foldedSetIterable iter1 env x = pure x)
    (hRR : ∀ D' C V' h' tk m' ys, GrowK he V0 V' h' → s₂.heap.get? D' = none → V' D' = none → s₂.heap.get? C = none → V' C = none → D' ≠ C → h'.Ns C m' → h'.PlainList D' ys →
      RdL V' ys.toList ((zs0.flatMap zs1).filterMap Prod.snd) → ∀ f, RR (.ref D') C (.ok f) { s₂ with heap := h', toks := tk }) :
    wpAny (model prog w) A (newList []) (fun acc s₃ => wpAny (model prog w) A (newFunctionEnv scope env.globals cl [] env.qual none .none (some env)) (fun cenv s₄ =>
      codeAny (model prog w) A (.compStart (.ListComp elt [⟨.Name x0 px0, iter0, [], 0⟩, ⟨.Name x1 px1, iter1, ifs, 0⟩] scope pos) 0 (.ref I) acc { cenv with scope := relabel scope env }) (RR acc cenv.locals) s₄) E s₃) E s₂ := by
  have hIf := it.flds _ _ st
  have hIlt : I < s₂.heap.objs.size := by obtain ⟨o, vs, ho, _⟩ := hIf; exact Heap.lt_size ho
  refine wpAny_newObj_type (wpAny_newFunctionEnv hcell (by intro y hy; simp at hy) (fun h₁ hns₁ hsb₁ => ?_) hkind)
  dsimp only at hns₁ hsb₁ ⊢
  generalize hH2 : s₂.heap.push { cls := .type "list", dict := none, data := .seq ([] : List Value).toArray } = H2 at hns₁ hsb₁ ⊢
  have hC : H2.objs.size = s₂.heap.objs.size + 1 := by rw [← hH2, Heap.size_push]
  generalize hCC : H2.objs.size = C at hns₁ hsb₁ hC ⊢
  generalize hDD : s₂.heap.objs.size = D' at hC hIlt ⊢
  have hDC : D' ≠ C := by omega
  have low : ∀ b o, s₂.heap.get? b = some o → b ≠ C ∧ b ≠ D' := fun b o e => by
    have hb : b < D' := hDD ▸ Heap.lt_size e
    exact ⟨hC ▸ Nat.ne_of_lt (Nat.lt_succ_of_lt hb), Nat.ne_of_lt hb⟩
  have hPl0 : ∀ b ∈ I :: P, ∃ o, s₂.heap.get? b = some o := fun b hb => by
    cases hb with
    | head => obtain ⟨o, vs, ho, _⟩ := hIf; exact ⟨o, ho⟩
    | tail _ hb => exact hP b hb
  have hPl : ∀ b ∈ I :: P, b ≠ C ∧ b ≠ D' := fun b hb => let ⟨o, e⟩ := hPl0 b hb; low b o e
  have hIC : I ≠ C := (hPl I (.head _)).1
  have fresh : ∀ a, D' ≤ a → s₂.heap.get? a = none := fun a ha => none_ge a (by omega)
  have old : ∀ b o, s₂.heap.get? b = some o → h₁.get? b = some o := fun b o e => by
    exact hsb₁.extBut b o (low b o e).1 (Heap.get?_push_of_some _ (hH2 ▸ Heap.get?_push_of_some _ e))
  have hacc : h₁.PlainList D' #[] := ⟨_, hsb₁.extBut _ _ hDC (Heap.get?_push_of_some _ (hH2 ▸ hDD ▸ Heap.get?_push_size _ rfl))⟩
  have leC : D' ≤ C := hC ▸ Nat.le_succ _
  have heN : ∀ b, s₂.heap.get? b = none → he b = none := fun b hb => by
    cases q : he b with
    | none => rfl
    | some o => rw [gr.keep b o q] at hb; cases hb
  have VN : ∀ b, s₂.heap.get? b = none → V b = none := fun b hb => on.none hb
  have hIm : ∀ p ∈ μ, p.1 ≠ I := fun p hp z => by
    obtain ⟨items, hl, _⟩ := cx.mu p hp
    exact hIf.noList _ (z ▸ hl.isList)
  have sC := fresh C leC
  have sD := fresh D' (Nat.le_refl _)
  have start : ∀ s₃ : Shared, s₃ = { s₂ with heap := h₁, toks := s₂.toks + ([] : List (Str × Value)).length } →
      codeAny (model prog w) A (.compLoop (.ListComp elt [⟨.Name x0 px0, iter0, [], 0⟩, ⟨.Name x1 px1, iter1, ifs, 0⟩] scope pos) 0 (.ref I) (.ref D') (compEnvC scope cl C env)) (RR (.ref D') C) s₃ := by
    rintro s₃ rfl
    refine codeAny_mono (R := Well fun s' => ∀ f, RR (.ref D') C (.ok f) s') ?_ fun r s' h => by obtain ⟨f, rfl, h⟩ := h; exact h f
    refine comp2_out
      (fun k s' => ∃ i V' h' tk m' ys, s' = { s₂ with heap := h', toks := tk } ∧ i ≤ zs0.length ∧ k = zs0.length + 1 - i ∧ CB s₂ he V0 V I D' C V' h' m' ys (((zs0.take i).flatMap zs1).filterMap Prod.snd) ∧ St i h') ?_ (zs0.length + 1)
      ⟨0, V, h₁, _, _, #[], rfl, Nat.zero_le _, rfl,
        { gr := gr.trans (.skip on old), sub := fun _ _ e => e, vC := VN _ sC, vD := VN _ sD, vI := hVI, ns := hns₁, pl := hacc, rd := .nil, keep := fun b o _ e => old b o e, out := fun b _ _ q => q, iN := let ⟨o, ho⟩ := hPl0 I (.head _); ⟨o, old _ _ ho⟩ },
        it.frameP _ _ _ st fun b _ o e => old _ o e⟩ (hs := hs1 _)
    rintro k s' ⟨i, V1, h1, tk1, m1, ys, rfl, hi, rfl, c1, st1⟩ E'
    rcases Nat.lt_or_ge i zs0.length with hlt | hge
    · refine it.item i V1 _ _ _ hlt c1.gr.on c1.sub st1 fun v h2 tk2 z hd rv st2 ex2 => ?_
      have hzm : z ∈ zs0 := List.mem_of_getElem? hd
      have i2 : ∃ o, h2.get? I = some o := by obtain ⟨o, vs, ho, _⟩ := it.flds _ _ st2; exact ⟨o, ho⟩
      have c2 := c1.change (a := I) ex2 hI c1.vI (fun z => (z rfl).elim) hIC (hPl I (.head _)).2 i2
      dsimp only
      refine wpAny_assign_Name (wpAny_storeName_local (env := compEnvC scope cl C env) (lookup_relabel_local hx0) c2.ns (fun h3 ns3 sb3 => ?_) (by simp [compEnvC, relabel, hkind]))
      have c3 := c2.set sC (heN _ sC) hDC hIC ns3 sb3.extBut
      have st3 : St (i + 1) h3 := it.frameP _ _ _ st2 fun b hb o e => sb3.extBut _ o (hPl b hb).1 e
      have cx3 : Cx G (compEnvC scope cl C env) ((x0, z) :: ρ') μ V1 h3 :=
        c3.cx (σ := [(x0, z)]) cx hIf.noCell hIm hfree fun p hp => by
          have : p = (x0, z) := by simpa using hp
          subst this
          exact ⟨lookup_relabel_local hx0, v, by simp, rv⟩
      refine hit1 C z hzm V1 _ c3.gr.on cx3 _ _ fun x V4 h4 tk4 g4 r4 => ?_
      have c4 := c3.grow g4
      have st4 : St (i + 1) h4 := it.frameP _ _ _ st3 fun b _ o e => g4.keep _ o e
      refine hib1 z hzm V4 _ x g4.on r4 _ _ fun o St1 hof it1 st5 => ?_
      dsimp only at it1 st5 ⊢
      have gp : Grow h4 V4 V4 (h4.push o) := Grow.pushSkip g4.on o
      have c5 := c4.grow gp
      have lt4 : ∀ b o', s₂.heap.get? b = some o' → b < h4.objs.size := fun b o' e => by
        by_cases hb : b = I
        · subst hb; obtain ⟨o, ho⟩ := c4.iN; exact Heap.lt_size ho
        · exact Heap.lt_size (c4.keep b o' hb e)
      have sI1 : s₂.heap.get? h4.objs.size = none := by
        cases q : s₂.heap.get? h4.objs.size with
        | none => rfl
        | some o' => exact absurd (lt4 _ _ q) (Nat.lt_irrefl _)
      have vI1 : V4 h4.objs.size = none := g4.on.none (none_ge _ (Nat.le_refl _))
      have tkq : zs0.take (i + 1) = zs0.take i ++ [z] := by rw [List.take_add_one, hd]; rfl
      have hacc1 : (((zs0.take i).flatMap zs1).filterMap Prod.snd).length + (zs1 z).length ≤ 1000 := by
        have e1 : (((zs0.take i).flatMap zs1).filterMap Prod.snd).length ≤ ((zs0.take i).flatMap zs1).length := List.length_filterMap_le _ _
        have e2 : zs0.flatMap zs1 = (zs0.take (i + 1)).flatMap zs1 ++ (zs0.drop (i + 1)).flatMap zs1 := by rw [← List.flatMap_append, List.take_append_drop]
        have e3 : ((zs0.take (i + 1)).flatMap zs1).length = ((zs0.take i).flatMap zs1).length + (zs1 z).length := by rw [tkq, List.flatMap_append, List.length_append]; simp
        have e4 : (zs0.flatMap zs1).length = ((zs0.take (i + 1)).flatMap zs1).length + ((zs0.drop (i + 1)).flatMap zs1).length := by rw [e2, List.length_append]
        omega
      obtain ⟨oC, hoC⟩ := nsSome c4.ns
      obtain ⟨nD, hoD⟩ := id c4.pl
      have main : codeAny (model prog w) A (.compLoop (.ListComp elt [⟨.Name x0 px0, iter0, [], 0⟩, ⟨.Name x1 px1, iter1, ifs, 0⟩] scope pos) 1 (.ref h4.objs.size) (.ref D') (compEnvC scope cl C env)) (Well fun s5 => ∃ m, m < zs0.length + 1 - i ∧ ∃ i V' h' tk m' ys, s5 = { s₂ with heap := h', toks := tk } ∧ i ≤ zs0.length ∧ m = zs0.length + 1 - i ∧ CB s₂ he V0 V I D' C V' h' m' ys (((zs0.take i).flatMap zs1).filterMap Prod.snd) ∧ St i h') { s₂ with heap := h4.push o, toks := tk4 } := by
        refine comp2_inner (j := i + 1) (z := z) (v0 := v) (P1 := []) (tk := fun _ => 0) cx hIf.noCell hIm hfree hkind hx0 hx1 hx01 it1 it.frameP sC sD sI1 (heN _ sC) (heN _ sD) (heN _ sI1) hDC hPl0 (Ne.symm (Nat.ne_of_lt (Heap.lt_size hoC))) (Ne.symm (Nat.ne_of_lt (Heap.lt_size hoD))) (fun _ h => nomatch h) hacc1
          (fun C y hy => htest C z y hzm hy) (fun C y d hy hd => helt C z y d hzm hy hd) c5 (fun _ _ e => e) vI1 st5 (it.frameP _ _ _ st4 fun b _ o e => gp.keep _ o e) (by simp) (rv.mono g4.sub) fun V6 h6 tk6 m6 ys6 c6 st6 => ?_
        refine ⟨zs0.length + 1 - (i + 1), by omega, i + 1, V6, h6, tk6, m6, ys6, rfl, hlt, rfl, ?_, st6⟩
        rw [tkq, List.flatMap_append, List.filterMap_append]
        simpa using c6
      exact comp2_start main fun E2 => it1.self 0 _ _ _ st5 main
    · have hin : i = zs0.length := by omega
      subst hin
      refine it.done V1 _ _ _ c1.gr.on c1.sub st1 fun h2 tk2 ex2 f => ?_
      have g2 := c1.gr.change ex2 hI c1.vI
      have rd := c1.rd
      rw [List.take_length] at rd
      exact hRR D' C V1 h2 tk2 m1 ys g2 sD c1.vD sC c1.vC hDC (c1.ns.at' fun o e => ex2 C o (Ne.symm hIC) e) (c1.pl.extBut ex2 (Ne.symm (hPl I (.head _)).2)) rd f
  exact codeAny_compStart_list (start _ rfl) (it.self 0 _ _ _ (it.frameP _ _ _ st fun b _ o e => old _ o e) (start _ rfl))
theorem PE.comp2 {elt iter0 iter1 : Expr} {x0 x1 : Str} {px0 px1 : Pos} {ifs : List Expr} {scope : Scope} {cl : List (Str × Addr)} {pos : Pos} {zs0 : List D} {dd : D → D} {zs1 : D → List (D × Option D)}
    (sc : ScOk scope cl env x0) (hx1 : scope.names.lookup x1 = some .local) (hx01 : x0 ≠ x1) (hfree : FreeOk scope cl env x0 ρ ρ') (hit : PE (model prog w) A (Cx G env ρ μ) (eval iter0 env) dx) (hib : ItbG prog w A (Cx G env ρ μ) dx zs0) (hsz : (zs0.flatMap zs1).length ≤ 1000)
    (hit1 : ∀ C z, z ∈ zs0 → PE (model prog w) A (Cx G (compEnvC scope cl C env) ((x0, z) :: ρ') μ) (eval iter1 (compEnvC scope cl C env)) (dd z)) (hib1 : ∀ z, z ∈ zs0 → Itb prog w A (dd z) ((zs1 z).map Prod.fst))
    (htest : ∀ C z y, z ∈ zs0 → y ∈ zs1 z → PT (model prog w) A (Cx G (compEnvC scope cl C env) ((x1, y.1) :: (x0, z) :: ρ') μ) ifs (compEnvC scope cl C env) y.2.isSome)
    (helt : ∀ C z y d, z ∈ zs0 → y ∈ zs1 z → y.2 = some d → PE (model prog w) A (Cx G (compEnvC scope cl C env) ((x1, y.1) :: (x0, z) :: ρ') μ) (eval elt (compEnvC scope cl C env)) d)
    (hs : ∀ x, foldedSetIterable iter0 env x = pure x := by intro _; rfl) (hs1 : ∀ env x, foldedSetIterable iter1 env x = pure x := by intro _ _; rfl) :
    PE (model prog w) A (Cx G env ρ μ) (eval (.ListComp elt [⟨.Name x0 px0, iter0, [], 0⟩, ⟨.Name x1 px1, iter1, ifs, 0⟩] scope pos) env) (.list ((zs0.flatMap zs1).filterMap Prod.snd)) := fun V s on cx Q E k => by
  rw [eval_ListComp]
  refine wpAny_comprehension_free rfl hs sc.clos sc.kind sc.names (hit V s on cx _ E fun v V1 h1 t1 g1 r1 => hib V1 _ v g1.on (cx.stable _ _ _ _ g1) r1 _ E fun o St P hf it hP st => ?_)
  have gp : Grow h1 V1 V1 (h1.push o) := Grow.pushSkip g1.on o
  have hI : h1.get? h1.objs.size = none := none_ge _ (Nat.le_refl _)
  refine comp2_block (RR := fun acc C => compPost (model prog w) A E none Q acc C) it (fun b hb => let ⟨o', e⟩ := hP b hb; ⟨o', Heap.get?_push_of_some _ e⟩) st gp.on gp hI (g1.on.none hI) ((cx.stable _ _ _ _ g1).stable _ _ _ _ gp) hsz sc.cell sc.kind sc.x hx1 hx01 hfree hit1 hib1 htest helt hs1 ?_
  intro D' C V' h' tk m' ys g hD hVD hC hVC hDC hns hpl rd f
  have back : ∀ b, (h1.push o).get? b = none → s.heap.get? b = none := fun b hb => by
    cases q : s.heap.get? b with
    | none => rfl
    | some o' => rw [Heap.get?_push_of_some _ (g1.keep b o' q)] at hb; cases hb
  refine ⟨m', hns, fun h'' sb => ?_⟩
  have g2 : GrowK s.heap.get? V V' h'' := (g1.trans g).change sb.extBut (back _ hC) hVC
  obtain ⟨n, e⟩ := hpl.extBut sb.extBut hDC
  exact k _ _ _ _ (g2.freeze e (back _ hD) hVD) (rd_plain rd hVD)
end
end FS
end
section
set_option linter.unusedVariables false
set_option maxRecDepth 100000
namespace FS
open PySem PySem.Calls PySem.W PyProof.Rows
local macro_rules | `(tactic| walk_at "subs") => `(tactic| repeat (first | exact Sub.nil | (apply Sub.skip; (focus decide)) | apply Sub.same))
local macro_rules | `(tactic| walk_at "var") => `(tactic| repeat (first | exact List.Mem.head _ | apply List.Mem.tail))

theorem lay_ints {ns : List Int} (hl : ns.length ≤ 1000) (hb : ∀ k ∈ ns, k.natAbs.log2 ≤ 100) : PyData.layable0 (.list (ns.map .int)) = true := by
  have h : ∀ l : List Int, (∀ k ∈ l, k.natAbs.log2 ≤ 100) → PyData.canLayAll0 (l.map .int) = true ∧ PyData.depthAll (l.map .int) = 0 ∧ PyData.weightAll (l.map .int) ≤ 102 * l.length := fun l => by
    induction l with
    | nil => exact fun _ => ⟨by simp [PyData.canLayAll0], by simp [PyData.depthAll], by simp [PyData.weightAll]⟩
    | cons x l ih =>
      intro hx
      obtain ⟨h1, h2, h3⟩ := ih fun k hk => hx k (.tail _ hk)
      have hw : PyData.weight (.int x) ≤ 101 := by
        unfold PyData.weight
        have := hx x (.head _)
        split <;> omega
      refine ⟨by simp [PyData.canLayAll0, PyData.canLay0, h1], by simp [PyData.depthAll, PyData.depth, h2], ?_⟩
      rw [List.map_cons, PyData.weightAll, List.length_cons]
      omega
  obtain ⟨h1, h2, h3⟩ := h ns hb
  unfold PyData.layable0
  have e1 : PyData.canLay0 (.list (ns.map .int)) = true := by rw [PyData.canLay0]; exact h1
  have e2 : PyData.depth (.list (ns.map .int)) ≤ 64 := by rw [PyData.depth, h2]; omega
  have e3 : PyData.weight (.list (ns.map .int)) ≤ 2 ^ 20 := by
    rw [PyData.weight]
    exact Nat.le_trans h3 (by omega)
  simp [e1, e2, e3]
noncomputable def intsOf (l : List Nat) : List Int := l.map fun n : Nat => (n : Int)
theorem natD_ints (l : List Nat) : l.map natD = (intsOf l).map D.int := by unfold intsOf; rw [List.map_map]; rfl
theorem idxOf_ints (k : Nat) : ∀ l : List Nat, (intsOf l).idxOf (k : Int) = l.idxOf k
  | [] => rfl
  | x :: l => by
    have ih := idxOf_ints k l
    unfold intsOf at ih ⊢
    rw [List.map_cons, List.idxOf_cons, List.idxOf_cons, ih]
    have : (((x : Int) == (k : Int)) : Bool) = (x == k) := by
      rw [Bool.eq_iff_iff, beq_iff_eq, beq_iff_eq]; omega
    rw [this]
noncomputable def gN (l : List Nat) (i : Nat) : Nat := (l[i]?).getD 0
theorem gN_some {l : List Nat} {i : Nat} (h : i < l.length) : l[i]? = some (gN l i) := by
  unfold gN; rw [List.getElem?_eq_getElem h]; rfl
theorem log_small {k : Nat} (h : k < 2 ^ 60) : k.log2 ≤ 100 := by
  rcases Nat.eq_zero_or_pos k with rfl | hp
  · decide
  · have := (Nat.log2_lt (by omega)).mpr h
    omega
section
variable {prog : Program} {w : World} {A : Around} {I : View → Heap → Prop}
theorem opm_index {l : List Nat} {k : Nat} (hl : l.length ≤ 1000) (hb : ∀ x ∈ l, x < 1000) (hk : k ∈ l) : OpM prog w A I "list.index" (.list (l.map natD)) [.int k] (.int (l.idxOf k : Nat)) := fun V s v0 vs on i r rl Q E q => by
  rw [natD_ints] at r
  obtain ⟨v, rfl, r1⟩ := rl.one
  obtain ⟨a, items, rfl, hl', q'⟩ := r.isList on
  cases r1
  refine index_list_ints hl' (intsAre_of q') (lay_ints (by unfold intsOf; simpa using hl) fun x hx => ?_) (List.mem_map_of_mem hk) ?_
  · obtain ⟨y, hy, rfl⟩ := List.mem_map.mp hx
    have h1 := hb y hy
    have e : (y : Int).natAbs = y := rfl
    rw [e]
    exact log_small (Nat.lt_trans h1 (by decide))
  · rw [idxOf_ints]
    exact q _ V s.heap _ (.refl on) (.int _ _)
end

-- what _law_counts counts
noncomputable def pairZ (row ranks : List Nat) (j i : Nat) : D × Option D := (.int (0 + (i : Int)), if gN ranks (gN row j) < gN ranks (gN row i) then some (.int 1) else none)
noncomputable def pairZ1 (row ranks : List Nat) : D → List (D × Option D)
  | .int j => (List.range j.toNat).map (pairZ row ranks j.toNat)
  | _ => []
noncomputable def idD (d : D) : D := match d with
  | .int j => .rng 0 j
  | _ => d
noncomputable def pairsN (row ranks : List Nat) : Nat := (((rangeD 0 row.length).flatMap (pairZ1 row ranks)).filterMap Prod.snd).length
noncomputable def fallZ (ranks : List Nat) (t : Nat) : D × Option D := (.int (1 + (t : Int)), if gN ranks (t + 1) < gN ranks t then some (.int (1 + (t : Int))) else none)
noncomputable def fallsL (ranks : List Nat) (n : Nat) : List Int := (List.range (n - 1)).filterMap fun t => if gN ranks (t + 1) < gN ranks t then some (1 + (t : Int)) else none
theorem fallZ_snd (ranks : List Nat) (l : List Nat) : (l.map (fallZ ranks)).filterMap Prod.snd = (l.filterMap fun t => if gN ranks (t + 1) < gN ranks t then some (1 + (t : Int)) else none).map D.int := by
  induction l with
  | nil => rfl
  | cons t l ih =>
    have e : (fallZ ranks t).2 = if gN ranks (t + 1) < gN ranks t then some (.int (1 + (t : Int))) else none := rfl
    by_cases h : gN ranks (t + 1) < gN ranks t
    · rw [if_pos h] at e
      rw [List.map_cons, List.filterMap_cons_some e, List.filterMap_cons_some (by rw [if_pos h]), ih]; rfl
    · rw [if_neg h] at e
      rw [List.map_cons, List.filterMap_cons_none e, List.filterMap_cons_none (by rw [if_neg h]), ih]
/-- what the loop of _law_counts asks -/
noncomputable def idxOkN (row π : List Nat) : Bool := (List.range (row.length - 1)).all fun t => decide (row.idxOf (gN π t) < row.idxOf (gN π (t + 1))) == decide (gN π t < gN π (t + 1))
structure CountsOk (row ranks π : List Nat) : Prop where
  n8 : row.length ≤ 8
  lr : ranks.length = row.length
  b : ∀ x ∈ ranks, x < 1000
  pr : row.Perm (List.range row.length)
  pp : π.Perm (List.range row.length)
  sorted : π.Pairwise fun i j => 1000 * gN ranks i + i < 1000 * gN ranks j + j
  idx : idxOkN row π = true
  cnt : (pairsN row ranks : Int) = (fallsL ranks row.length).sum
noncomputable abbrev cEnv (L' : Addr) (code : Value) : Env := envOf (stm 19) "_law_counts" 275 L' code
noncomputable def cS (i : Nat) : Stmt := ((fBody (stm 19))[i]?).getD (.Pass ⟨0, 0, 0, 0⟩)
noncomputable def prL (ranks : List Nat) (n : Nat) : List (Int × Nat) := (List.range n).map fun i => ((gN ranks i : Int), i)
theorem prL_at {ranks : List Nat} {n i : Nat} (h : i < n) : (prL ranks n)[i]? = some ((gN ranks i : Int), i) := by
  unfold prL; rw [List.getElem?_map, List.getElem?_range h]; rfl
section
variable {w : World} {A : Around} {G : Gd} {n : Nat}
theorem counts_ok {row ranks π : List Nat} (F : GF w G) (R : Room A (n + 1)) (c : CountsOk row ranks π) : Con pw w A G 275 [.list (row.map natD), .list (ranks.map natD)] (.bool true) := fun V s on base vs r => by
  obtain ⟨v1, v2, rfl, r1, r2⟩ := r.two
  have n8 := c.n8
  have lr := c.lr
  have rowB : ∀ i, i < row.length → gN row i < row.length := fun i hi => by
    have h1 : gN row i ∈ row := List.mem_of_getElem? (gN_some hi)
    exact List.mem_range.mp (c.pr.mem_iff.mp h1)
  have πlen : π.length = row.length := by have := c.pp.length_eq; simpa using this
  have πB : ∀ i, i < row.length → gN π i < row.length := fun i hi => by
    have h1 : gN π i ∈ π := List.mem_of_getElem? (gN_some (by omega))
    exact List.mem_range.mp (c.pp.mem_iff.mp h1)
  have natAt : ∀ (l : List Nat) (i : Nat), i < l.length → (l.map natD)[i]? = some (.int (gN l i : Nat)) := fun l i hi => by rw [List.getElem?_map, gN_some hi]; rfl
  refine fn_pure (ρ := [(Str.ofString "row", .list (row.map natD)), (Str.ofString "ranks", .list (ranks.map natD))]) (binds := [(Str.ofString "row", v1), (Str.ofString "ranks", v2)]) F.f_counts R.lt on base (fun _ _ _ _ _ => rfl) ?_ ?_ ?_
  · intro L p hp
    simp only [List.mem_cons, List.not_mem_nil, or_false] at hp
    rcases hp with rfl | rfl <;> exact .inr ⟨rfl, rfl⟩
  · intro L code p hp
    simp only [List.mem_cons, List.not_mem_nil, or_false] at hp
    rcases hp with rfl | rfl
    · exact ⟨_, r1, .inr ⟨rfl, L + 1, rfl, rfl⟩⟩
    · exact ⟨_, r2, .inr ⟨rfl, L + 2, rfl, rfl⟩⟩
  · intro L code
    have R1 := R.deeper (cEnv L code)
    have rng : ∀ {I : View → Heap → Prop} {a b : Int}, OpN (model pw w) (A.deeper (cEnv L code)) I (.type "range") [] [.int a, .int b] (.rng a b) := op_range2
    -- n = len(row)
    refine Tr.cons (SaT.assign (d := .int (row.length : Nat)) rfl (.inl rfl) (PE.call Cx.stable (PE.blt rfl rfl rfl rfl F.b_len.1 F.b_len.2) (fun _ _ _ _ => keeps_builtin) (PL.cons Cx.stable (PE.name rfl (by walk_at "var")) PL.nil) ?_) (by walk_at "subs")) ?_
    · have := op_len (prog := pw) (w := w) (A := A.deeper (cEnv L code)) (I := Cx G (cEnv L code) [(Str.ofString "row", .list (row.map natD)), (Str.ofString "ranks", .list (ranks.map natD))] []) (ds := row.map natD) (by rw [List.length_map]; omega)
      rw [List.length_map] at this
      exact this
    -- pairs
    have hfl : ((rangeD 0 row.length).flatMap (pairZ1 row ranks)).length ≤ 1000 := by
      unfold rangeD
      rw [List.flatMap_map, List.length_flatMap]
      have : ∀ (l : List Nat), (∀ x ∈ l, x ≤ 8) → (l.map fun a : Nat => (pairZ1 row ranks (.int (0 + (a : Int)))).length).sum ≤ 8 * l.length := fun l => by
        induction l with
        | nil => intro _; simp
        | cons x l ih =>
          intro h
          have h1 := ih fun y hy => h y (.tail _ hy)
          have h2 := h x (.head _)
          rw [List.map_cons, List.sum_cons, List.length_cons]
          have e : (pairZ1 row ranks (.int (0 + (x : Int)))).length = (0 + (x : Int)).toNat := by unfold pairZ1; simp
          rw [e]
          omega
      have h := this (List.range row.length) fun x hx => by have := List.mem_range.mp hx; omega
      rw [List.length_range] at h
      exact Nat.le_trans h (by omega)
    refine Tr.cons (SaT.assign (d := .int (pairsN row ranks : Nat)) rfl (.inl rfl) (PE.call Cx.stable (PE.blt rfl rfl rfl rfl F.b_len.1 F.b_len.2) (fun _ _ _ _ => keeps_builtin) (PL.cons Cx.stable (PE.comp2 (zs0 := rangeD 0 row.length) (dd := idD) (zs1 := pairZ1 row ranks) (ρ' := [(Str.ofString "row", .list (row.map natD)), (Str.ofString "ranks", .list (ranks.map natD))]) (cl := [(Str.ofString "row", L + 1), (Str.ofString "ranks", L + 2)]) (dx := .rng 0 row.length) ⟨rfl, by decide, rfl, by decide, rfl⟩ rfl (by decide) ?_
      (PE.call Cx.stable (PE.blt rfl rfl rfl rfl F.b_range.1 F.b_range.2) (fun _ _ _ _ => keeps_type) (PL.cons Cx.stable (PE.name rfl (by walk_at "var")) PL.nil) op_range1) ?_ hfl (fun C z hz => ?_) (fun z hz => ?_) (fun C z y hz hy => ?_) (fun C z y d hz hy hd => ?_)) PL.nil) (op_len ?_)) (by walk_at "subs")) ?_
    · intro p hp
      simp only [List.mem_cons, List.not_mem_nil, or_false] at hp
      rcases hp with rfl | rfl
      · exact ⟨by walk_at "var", .inl rfl, fun C => .inl rfl, rfl⟩
      · exact ⟨by walk_at "var", .inl rfl, fun C => .inl rfl, rfl⟩
    · have z := (Itb.range (prog := pw) (w := w) (a := 0) (b := (row.length : Int)) R1.hh (by omega) (by omega) (by omega) (by omega)).toG (J := Cx G (cEnv L code) ((Str.ofString "n", .int (row.length : Nat)) :: [(Str.ofString "row", .list (row.map natD)), (Str.ofString "ranks", .list (ranks.map natD))]) [])
      rw [show ((row.length : Int) - 0).toNat = row.length by omega] at z
      exact z
    · obtain ⟨j, hj, rfl⟩ := List.mem_map.mp hz
      exact PE.call Cx.stable (PE.blt rfl rfl rfl rfl F.b_range.1 F.b_range.2) (fun _ _ _ _ => keeps_type) (PL.cons Cx.stable (PE.name rfl (by walk_at "var")) PL.nil) op_range1
    · obtain ⟨j, hj, rfl⟩ := List.mem_map.mp hz
      have hj' := List.mem_range.mp hj
      have z := Itb.range (prog := pw) (w := w) (a := 0) (b := (0 + (j : Int))) R1.hh (by omega) (by omega) (by omega) (by omega)
      have e : (pairZ1 row ranks (.int (0 + (j : Int)))).map Prod.fst = rangeD 0 ((0 + (j : Int)) - 0).toNat := by
        unfold pairZ1 rangeD
        rw [List.map_map, show ((0 + (j : Int)) - 0).toNat = (0 + (j : Int)).toNat by omega]
        rfl
      rw [e]; exact z
    · obtain ⟨j, hj, rfl⟩ := List.mem_map.mp hz
      have hj' := List.mem_range.mp hj
      obtain ⟨i, hi, rfl⟩ := List.mem_map.mp hy
      have hi' : i < j := by have := List.mem_range.mp hi; omega
      have e : (pairZ row ranks (0 + (j : Int)).toNat i).2.isSome = decide (((gN ranks (gN row j) : Nat) : Int) < ((gN ranks (gN row i) : Nat) : Int)) := by
        rw [show (0 + (j : Int)).toNat = j by omega]
        unfold pairZ
        by_cases h : gN ranks (gN row j) < gN ranks (gN row i)
        · rw [if_pos h]; simp [h]
        · rw [if_neg h]; simp [h]
      rw [e]
      have b1 := rowB i (by omega)
      have b2 := rowB j (by omega)
      refine PT.one (PB.compare Cx.stable (PE.item Cx.stable (PE.name (d := .list (ranks.map natD)) rfl (by walk_at "var")) (PE.item (d := .int (gN row i : Nat)) Cx.stable (PE.name (d := .list (row.map natD)) rfl (by walk_at "var")) (PE.name rfl (by walk_at "var")) (op_item_list (by omega) (by omega) ?_)) (op_item_list (by omega) (by omega) ?_))
        (PE.item Cx.stable (PE.name (d := .list (ranks.map natD)) rfl (by walk_at "var")) (PE.item (d := .int (gN row j : Nat)) Cx.stable (PE.name (d := .list (row.map natD)) rfl (by walk_at "var")) (PE.name rfl (by walk_at "var")) (op_item_list (by omega) (by omega) ?_)) (op_item_list (by omega) (by omega) ?_)) op_gt_int)
      · rw [show (0 + (i : Int)).toNat = i by omega]; exact natAt row i (by omega)
      · exact natAt ranks _ (by omega)
      · rw [show (0 + (j : Int)).toNat = j by omega]; exact natAt row j (by omega)
      · exact natAt ranks _ (by omega)
    · obtain ⟨j, hj, rfl⟩ := List.mem_map.mp hz
      obtain ⟨i, hi, rfl⟩ := List.mem_map.mp hy
      have e : d = .int 1 := by
        unfold pairZ at hd
        dsimp only at hd
        split at hd
        · exact (Option.some.inj hd).symm
        · cases hd
      subst e
      exact PE.cInt
    · exact Nat.lt_of_le_of_lt (Nat.le_trans (List.length_filterMap_le _ _) hfl) (by decide)
    -- falls
    refine Tr.cons (SaT.assign (d := .int (fallsL ranks row.length).sum) rfl (.inl rfl) (PE.call Cx.stable (PE.blt rfl rfl rfl rfl F.b_sum.1 F.b_sum.2) (fun _ _ _ _ => keeps_builtin) (PL.cons Cx.stable ?_ PL.nil) (op_sum R1.hh ?_)) (by walk_at "subs")) ?_
    · unfold fallsL
      rw [← fallZ_snd]
      refine PE.comp _ (ρ' := [(Str.ofString "ranks", .list (ranks.map natD))]) (cl := [(Str.ofString "ranks", L + 2)]) (dx := .rng 1 row.length) ⟨rfl, by decide, rfl, by decide, rfl⟩ ?_
        (PE.call Cx.stable (PE.blt rfl rfl rfl rfl F.b_range.1 F.b_range.2) (fun _ _ _ _ => keeps_type) (PL.cons Cx.stable PE.cInt (PL.cons Cx.stable (PE.name rfl (by walk_at "var")) PL.nil)) rng) ?_ (by simp; omega) (fun C z hz => ?_) (fun C z d hz hd => ?_)
      · intro p hp
        have : p = (Str.ofString "ranks", .list (ranks.map natD)) := by simpa using hp
        subst this
        exact ⟨by walk_at "var", .inl rfl, fun C => .inl rfl, rfl⟩
      · refine Itb.toG ?_
        have z := Itb.range (prog := pw) (w := w) (a := 1) (b := (row.length : Int)) R1.hh (by omega) (by omega) (by omega) (by omega)
        rw [show ((row.length : Int) - 1).toNat = row.length - 1 by omega] at z
        rw [List.map_map]
        exact z
      · obtain ⟨t, ht, rfl⟩ := List.mem_map.mp hz
        have ht' : t + 1 < row.length := by have := List.mem_range.mp ht; omega
        have e : (fallZ ranks t).2.isSome = decide (((gN ranks (t + 1) : Nat) : Int) < ((gN ranks t : Nat) : Int)) := by
          unfold fallZ
          by_cases h : gN ranks (t + 1) < gN ranks t
          · rw [if_pos h]; simp [h]
          · rw [if_neg h]; simp [h]
        rw [e]
        refine PT.one (PB.compare Cx.stable (PE.item Cx.stable (PE.name (d := .list (ranks.map natD)) rfl (by walk_at "var")) (PE.binop Cx.stable (PE.name (d := .int (1 + (t : Int))) rfl (by walk_at "var")) PE.cInt op_sub_int) (op_item_list (by omega) (by omega) ?_))
          (PE.item Cx.stable (PE.name (d := .list (ranks.map natD)) rfl (by walk_at "var")) (PE.name (d := .int (1 + (t : Int))) rfl (by walk_at "var")) (op_item_list (by omega) (by omega) ?_)) op_gt_int)
        · rw [show ((1 : Int) + (t : Int) - 1).toNat = t by omega]; exact natAt ranks t (by omega)
        · rw [show ((1 : Int) + (t : Int)).toNat = t + 1 by omega]; exact natAt ranks (t + 1) (by omega)
      · obtain ⟨t, ht, rfl⟩ := List.mem_map.mp hz
        have e : d = .int (1 + (t : Int)) := by
          unfold fallZ at hd
          dsimp only at hd
          split at hd
          · exact (Option.some.inj hd).symm
          · cases hd
        subst e
        exact PE.name rfl (by walk_at "var")
    · unfold fallsL
      exact Nat.le_trans (List.length_filterMap_le _ _) (by rw [List.length_range]; omega)
    -- order
    have hord : (π.filterMap (((prL ranks row.length).map pairD)[·]?)) = π.map fun i => pairD ((gN ranks i : Int), i) := by
      refine fm_some _ _ _ fun i hi => ?_
      have hi' := List.mem_range.mp (c.pp.mem_iff.mp hi)
      show ((prL ranks row.length).map pairD)[i]? = _
      rw [List.getElem?_map, prL_at hi']; rfl
    have ez : (π.map fun i => (pairD ((gN ranks i : Int), i), some (natD i))).filterMap Prod.snd = π.map natD := by
      rw [List.filterMap_map]
      exact fm_some _ _ _ fun _ _ => rfl
    refine Tr.cons (SaT.assignComp (dx := .list (π.map fun i => pairD ((gN ranks i : Int), i))) (π.map fun i => (pairD ((gN ranks i : Int), i), some (natD i))) (ρ' := []) (cl := []) rfl (.inl rfl) (by walk_at "subs") ⟨rfl, by decide, rfl, by decide, rfl⟩ (fun _ h => nomatch h) ?_ ?_ (by simp; omega) (fun C z hz => ?_) (fun C z d hz hd => ?_) rfl) ?_
    · rw [← hord]
      refine PE.call Cx.stable (PE.blt rfl rfl rfl rfl F.b_sorted.1 F.b_sorted.2) (fun _ _ _ _ => keeps_builtin) (PL.cons Cx.stable ?_ PL.nil) (op_sorted_pairs π (by unfold prL; simp; omega) ?_ ?_ ?_ ?_)
      · have e2 : (prL ranks row.length).map pairD = ((List.range row.length).map fun i : Nat => (D.int (0 + (i : Int)), some (pairD ((gN ranks i : Int), i)))).filterMap Prod.snd := by
          unfold prL
          rw [List.filterMap_map, List.map_map]
          exact (fm_some _ _ _ fun _ _ => rfl).symm
        rw [e2]
        refine PE.comp _ (ρ' := [(Str.ofString "ranks", .list (ranks.map natD))]) (cl := [(Str.ofString "ranks", L + 2)]) (dx := .rng 0 row.length) ⟨rfl, by decide, rfl, by decide, rfl⟩ ?_
          (PE.call Cx.stable (PE.blt rfl rfl rfl rfl F.b_range.1 F.b_range.2) (fun _ _ _ _ => keeps_type) (PL.cons Cx.stable (PE.name rfl (by walk_at "var")) PL.nil) op_range1) ?_ (by simp; omega) (fun C z hz => ?_) (fun C z d hz hd => ?_)
        · intro p hp
          have : p = (Str.ofString "ranks", .list (ranks.map natD)) := by simpa using hp
          subst this
          exact ⟨by walk_at "var", .inl rfl, fun C => .inl rfl, rfl⟩
        · refine Itb.toG ?_
          have z := Itb.range (prog := pw) (w := w) (a := 0) (b := (row.length : Int)) R1.hh (by omega) (by omega) (by omega) (by omega)
          rw [show ((row.length : Int) - 0).toNat = row.length by omega] at z
          rw [List.map_map]
          exact z
        · obtain ⟨i, hi, rfl⟩ := List.mem_map.mp hz
          exact PT.nil
        · obtain ⟨i, hi, rfl⟩ := List.mem_map.mp hz
          have hi' := List.mem_range.mp hi
          have e3 : d = .tup [.int (gN ranks i : Nat), .int (0 + (i : Int))] := by
            rw [Int.zero_add]
            exact (Option.some.inj hd).symm
          subst e3
          refine PE.dTup (PL.cons Cx.stable (PE.item Cx.stable (PE.name (d := .list (ranks.map natD)) rfl (by walk_at "var")) (PE.name rfl (by walk_at "var")) (op_item_list (by omega) (by omega) ?_)) (PL.cons Cx.stable (PE.name rfl (by walk_at "var")) PL.nil)) (by simp)
          rw [show ((0 : Int) + (i : Int)).toNat = i by omega]; exact natAt ranks i (by omega)
      · have e3 : (prL ranks row.length).map Prod.snd = List.range row.length := by unfold prL; rw [List.map_map]; exact List.map_id _
        rw [e3]; exact List.nodup_range
      · intro p hp
        obtain ⟨i, hi, rfl⟩ := List.mem_map.mp hp
        have := List.mem_range.mp hi
        dsimp only; omega
      · have e3 : (prL ranks row.length).length = row.length := by unfold prL; simp
        rw [e3]; exact c.pp
      · refine List.Pairwise.imp_of_mem ?_ c.sorted
        intro a b ha hb hab
        have ha' := List.mem_range.mp (c.pp.mem_iff.mp ha)
        have hb' := List.mem_range.mp (c.pp.mem_iff.mp hb)
        unfold kPr
        rw [prL_at ha', prL_at hb']
        simp only [Option.map_some, Option.getD_some]
        omega
    · rw [List.map_map]
      exact (Itb.list R1.hh).toG
    · obtain ⟨i, hi, rfl⟩ := List.mem_map.mp hz
      exact PT.nil
    · obtain ⟨i, hi, rfl⟩ := List.mem_map.mp hz
      have e3 : d = natD i := (Option.some.inj hd).symm
      subst e3
      exact PE.item Cx.stable (PE.name (d := pairD ((gN ranks i : Int), i)) rfl (by walk_at "var")) PE.cInt (op_item_tup (by decide) (by decide) rfl)
    rw [ez]
    -- the loop
    have hidx := c.idx
    refine Tr.cons (Tr.post (SaT.for_ (α := Unit) (rangeD 1 (row.length - 1)) (fun _ _ => True) (fun _ _ => [(Str.ofString "order", .list (π.map natD)), (Str.ofString "falls", .int (fallsL ranks row.length).sum), (Str.ofString "pairs", .int (pairsN row ranks : Nat)), (Str.ofString "n", .int (row.length : Nat)), (Str.ofString "row", .list (row.map natD)), (Str.ofString "ranks", .list (ranks.map natD))])
      (fun _ _ => []) () (fun _ _ _ _ _ => False) rfl (.inl rfl) trivial (PE.call (d := .rng 1 row.length) Cx.stable (PE.blt rfl rfl rfl rfl F.b_range.1 F.b_range.2) (fun _ _ _ _ => keeps_type) (PL.cons Cx.stable PE.cInt (PL.cons Cx.stable (PE.name rfl (by walk_at "var")) PL.nil)) rng) ?_ (fun _ _ => by walk_at "subs") (fun _ _ _ _ _ _ _ _ h => h.elim) (fun he' V' i a d hJ hd => ?_)) fun V s h => h) ?_
    · have z := Itb.range (prog := pw) (w := w) (a := 1) (b := (row.length : Int)) R1.hh (by omega) (by omega) (by omega) (by omega)
      rw [show ((row.length : Int) - 1).toNat = row.length - 1 by omega] at z
      exact z
    · have ht : i < row.length - 1 := by
        have := (List.getElem?_eq_some_iff.mp hd).1
        unfold rangeD at this
        simpa using this
      have e : d = .int (1 + (i : Int)) := by
        unfold rangeD at hd
        rw [List.getElem?_map, List.getElem?_range ht] at hd
        exact (Option.some.inj hd).symm
      subst e
      have hm : ∀ j, j < row.length → gN π j ∈ row := fun j hj => c.pr.mem_iff.mpr (List.mem_range.mpr (πB j hj))
      have hb : ∀ x ∈ row, x < 1000 := fun x hx => by have := List.mem_range.mp (c.pr.mem_iff.mp hx); omega
      have o1 : (π.map natD)[((1 : Int) + (i : Int) - 1).toNat]? = some (.int (gN π i : Nat)) := by
        rw [show ((1 : Int) + (i : Int) - 1).toNat = i by omega]; exact natAt π i (by omega)
      have o2 : (π.map natD)[((1 : Int) + (i : Int)).toNat]? = some (.int (gN π (i + 1) : Nat)) := by
        rw [show ((1 : Int) + (i : Int)).toNat = i + 1 by omega]; exact natAt π (i + 1) (by omega)
      refine Tr.last (SaT.if_ (c := (decide (((row.idxOf (gN π i) : Nat) : Int) < ((row.idxOf (gN π (i + 1)) : Nat) : Int)) != decide (((gN π i : Nat) : Int) < ((gN π (i + 1) : Nat) : Int)))) (PB.compare Cx.stable
        (PE.compare Cx.stable (PE.meth1 Cx.stable (PE.name (d := .list (row.map natD)) rfl (by walk_at "var")) mth_index (PL.cons Cx.stable (PE.item Cx.stable (PE.name (d := .list (π.map natD)) rfl (by walk_at "var")) (PE.binop Cx.stable (PE.name (d := .int (1 + (i : Int))) rfl (by walk_at "var")) PE.cInt op_sub_int) (op_item_list (by omega) (by omega) o1)) PL.nil) (opm_index (by omega) hb (hm i (by omega))))
          (PE.meth1 Cx.stable (PE.name (d := .list (row.map natD)) rfl (by walk_at "var")) mth_index (PL.cons Cx.stable (PE.item Cx.stable (PE.name (d := .list (π.map natD)) rfl (by walk_at "var")) (PE.name (d := .int (1 + (i : Int))) rfl (by walk_at "var")) (op_item_list (by omega) (by omega) o2)) PL.nil) (opm_index (by omega) hb (hm (i + 1) (by omega)))) op_lt_int)
        (PE.compare Cx.stable (PE.item Cx.stable (PE.name (d := .list (π.map natD)) rfl (by walk_at "var")) (PE.binop Cx.stable (PE.name (d := .int (1 + (i : Int))) rfl (by walk_at "var")) PE.cInt op_sub_int) (op_item_list (by omega) (by omega) o1)) (PE.item Cx.stable (PE.name (d := .list (π.map natD)) rfl (by walk_at "var")) (PE.name (d := .int (1 + (i : Int))) rfl (by walk_at "var")) (op_item_list (by omega) (by omega) o2)) op_lt_int) op_ne_bool) (fun hc => ?_) (fun hc => ?_))
      · exfalso
        have h := List.all_eq_true.mp hidx i (List.mem_range.mpr ht)
        rw [beq_iff_eq, decide_eq_decide] at h
        have h' : (decide (((row.idxOf (gN π i) : Nat) : Int) < ((row.idxOf (gN π (i + 1)) : Nat) : Int))) = decide (((gN π i : Nat) : Int) < ((gN π (i + 1) : Nat) : Int)) := by
          rw [decide_eq_decide, Int.ofNat_lt, Int.ofNat_lt]; exact h
        rw [h'] at hc
        simp at hc
      · exact Tr.nil fun V s p => ⟨(), trivial, p.weaken fun q hq => .tail _ hq⟩
    refine Tr.pre (P := Sa G (cEnv L code) s.heap.get? V s [(Str.ofString "order", .list (π.map natD)), (Str.ofString "falls", .int (fallsL ranks row.length).sum), (Str.ofString "pairs", .int (pairsN row ranks : Nat)), (Str.ofString "n", .int (row.length : Nat)), (Str.ofString "row", .list (row.map natD)), (Str.ofString "ranks", .list (ranks.map natD))] []) ?_ fun V s p => let ⟨_, _, q⟩ := p; q
    refine Tr.last (SaT.ret (d := .bool true) ?_ fun V s v p r => p.done r)
    have e : (true : Bool) = (((pairsN row ranks : Nat) : Int) == (fallsL ranks row.length).sum) := by rw [c.cnt]; simp
    rw [e]
    exact PE.compare Cx.stable (PE.name rfl (by walk_at "var")) (PE.name rfl (by walk_at "var")) op_eq_int
end
end FS
end
section
set_option linter.unusedVariables false
set_option maxRecDepth 100000
namespace FS
open PySem PySem.Calls PySem.W PyProof.Rows

/-- the tree ends with a fresh list -/
noncomputable def EvF (M : Model) (A : Around) (t : Sem Value) (V : View) (s : Shared) (ds : List D) : Prop :=
  ∀ (Q : Value → Shared → Prop) (E : Value → Shared → Prop), (∀ a V' h' tk, Grow s.heap V V' h' → s.heap.get? a = none → MutL V' h' a ds → Q (.ref a) { s with heap := h', toks := tk }) → wpAny M A t Q E s
noncomputable def PEF (M : Model) (A : Around) (I : View → Heap → Prop) (t : Sem Value) (ds : List D) : Prop := ∀ V s, On V s.heap → I V s.heap → EvF M A t V s ds
section
variable {prog : Program} {w : World} {A : Around} {I : View → Heap → Prop} {env : Env} {d : D} {ds xs ys : List D}
theorem PEF.add {l r : Expr} {pos : Pos} (st : Stable I) (h1 : PE (model prog w) A I (eval l env) (.list xs)) (h2 : PE (model prog w) A I (eval r env) (.list ys)) (h : xs.length + ys.length ≤ 1000) : PEF (model prog w) A I (eval (.BinOp l .Add r pos) env) (xs ++ ys) :=
  fun V s on i Q E k => wpAny_BinOp (h1 V s on i _ E fun v1 V1 s1 t1 g1 r1 => h2 V1 _ g1.on (st _ _ _ _ i g1) _ E fun v2 V2 s2 t2 g2 r2 => by
    obtain ⟨a, ia, na, rfl, ea, qa⟩ := (r1.mono g2.sub).isL g2.on
    obtain ⟨b, ib, nb, rfl, eb, qb⟩ := r2.isL g2.on
    refine PySem.P.add_list ea eb ?_ (by have := qa.length; have := qb.length; simp; rw [sizeLine_eq]; omega)
    have g3 : Grow s2 V2 V2 (s2.push { cls := .type "list", data := .seq (ia.toArray ++ ib.toArray) }) := .pushSkip g2.on _
    have hn : s2.get? s2.objs.size = none := none_ge _ (Nat.le_refl _)
    refine k _ _ _ _ ((g1.trans g2).trans g3) ?_ ⟨ia ++ ib, ⟨0, ?_⟩, qa.append qb, g2.on.none hn⟩
    · cases q : s.heap.get? s2.objs.size with
      | none => rfl
      | some o => rw [(g1.trans g2).keep _ o q] at hn; cases hn
    · rw [← List.append_toArray]
      exact Heap.get?_push_size _ rfl)
theorem PEF.lit {elts : List Expr} {pos : Pos} (h : PL (model prog w) A I (spliced (backTo pos (starEach elts env))) ds) (hs : ds.length ≤ 1000) : PEF (model prog w) A I (eval (.List elts pos) env) ds :=
  fun V s on i Q E k => wpAny_List (h V s on i _ E fun vs V1 s1 t1 g1 r1 => ⟨by rw [r1.length, sizeLine_eq]; omega, by
    have hn : s1.get? s1.objs.size = none := none_ge _ (Nat.le_refl _)
    refine k _ _ _ _ (g1.trans (.pushSkip g1.on _)) ?_ ⟨vs, ⟨_, Heap.get?_push_size _ rfl⟩, r1, g1.on.none hn⟩
    cases q : s.heap.get? s1.objs.size with
    | none => rfl
    | some o => rw [g1.keep _ o q] at hn; cases hn⟩)
theorem PEF.listCall {x : Str} {np pos : Pos} {e : Expr} (st : Stable I) (hf : PE (model prog w) A I (eval (.Name x np) env) (.val (.type "list"))) (h2 : PE (model prog w) A I (eval e env) (.list ds)) (hs : ds.length ≤ 1000)
    (hpl : ((backTo pos (starEach [e] env)).any (·.1)) = false := by rfl) (he : starEach [e] env = (false, eval e env) :: starEach [] env := by rfl) : PEF (model prog w) A I (eval (.Call (.Name x np) [e] [] pos) env) ds := fun V s on i Q E k =>
  wpAny_Call_NameR (hf V s on i _ E fun v V1 s1 t1 g1 r1 => by
    have : v = .type "list" := by cases r1; rfl
    subst this
    refine callWith_of (P := fun h => Keeps1 (model prog w) (.type "list") h) (by rw [hpl]; rfl) (fun h x => x) ?_
    have go : wpAny (model prog w) A (spliced (backTo pos (starEach [e] env))) (fun vs s₁ => Keeps1 (model prog w) (.type "list") s₁.heap ∧ wpAny (model prog w) A (PySem.call (.type "list") ([] ++ vs)) Q E s₁) E { s with heap := s1, toks := t1 } :=
      PL.cons (pos := pos) st h2 PL.nil he V1 _ g1.on (st _ _ _ _ i g1) _ E fun vs V2 s2 t2 g2 r2 => ⟨keeps_type, by
        obtain ⟨v, rfl, r3⟩ := r2.one
        obtain ⟨a, items, n, rfl, e, q⟩ := r3.isL g2.on
        refine call_list_seq a (.inl rfl) e rfl rfl (fun h' c' hk ho => ?_) (by have := q.length; simp; rw [sizeLine_eq]; omega)
        have g3 : Grow s2 V2 V2 h' := .skip g2.on hk
        have hn : s2.get? s2.objs.size = none := none_ge _ (Nat.le_refl _)
        refine k _ _ _ _ ((g1.trans g2).trans g3) ?_ ⟨items, ⟨_, ho⟩, q, g2.on.none hn⟩
        cases z : s.heap.get? s2.objs.size with
        | none => rfl
        | some o => rw [(g1.trans g2).keep _ o z] at hn; cases hn⟩
    rw [he] at go ⊢
    exact evalArgs_plain go)
end
section
variable {prog : Program} {w : World} {A : Around} {G : Gd} {env : Env} {he V0 V V' : View} {s0 s : Shared} {ρ ρ' : Vars} {μ μ' : List (Addr × List D)} {a : Addr} {ds ds' es : List D} {d : D} {n : Nat} {R : Value → Asn}
/-- a fresh list is one more of the frame's -/
theorem Sa.addM {h' : Heap} {tk : Nat} (p : Sa G env he V0 s0 ρ μ V s) (g : Grow s.heap V V' h') (hn : s.heap.get? a = none) (m : MutL V' h' a ds) : Sa G env he V0 s0 ρ ((a, ds) :: μ) V' { s with heap := h', toks := tk } :=
  have p1 := p.grow (tk := tk) g
  { on := p1.on
    cx := ⟨p1.cx.base, p1.cx.fm, fun q hq => by
      cases hq with
      | head => exact m
      | tail _ hq => exact p1.cx.mu q hq⟩
    gr := p1.gr, rest := p1.rest, loc := p1.loc, locNs := p1.locNs, cel := p1.cel, apart := p1.apart
    muOwn := fun q hq => by
      cases hq with
      | head => cases z : he a with
        | none => rfl
        | some o => rw [p.gr.keep _ o z] at hn; cases hn
      | tail _ hq => exact p1.muOwn q hq
    muApart := by
      rw [List.pairwise_cons]
      refine ⟨fun q hq z => ?_, p1.muApart⟩
      obtain ⟨its, ⟨k, ho⟩, _⟩ := p.cx.mu q hq
      dsimp only at z
      rw [← z, hn] at ho; cases ho }
/-- x = e, where e is a fresh list -/
theorem SaT.assignF {x : Str} {e : Expr} {p' pos : Pos} (hk : env.scope.kind = .function) (hx : env.kindOf x = some .local ∨ (env.kindOf x = some .cell ∧ (env.cells.lookup x).isSome = true)) (h : PEF (model prog w) A (Cx G env ρ μ) (eval e env) ds) (hs : Sub x ρ ρ')
    (hw : swapsWith e (some (.Name x p')) pos.line env = pure false := by rfl) : Tr (model prog w) A (Sa G env he V0 s0 ρ μ) (exec (.Assign [.Name x p'] e pos) env) (fun V s => ∃ a, Sa G env he V0 s0 ((x, .val (.ref a)) :: ρ') ((a, ds) :: μ) V s) R := fun V s p Q E n r =>
  wpAny_Assign_Name (h V s p.on p.cx _ E fun a V' h' tk g hn m => (p.addM (tk := tk) g hn m).store hk hx (.val _) hs fun h'' tk' q _ => n V' _ ⟨a, q⟩) hw
/-- xs.append([..]) -/
theorem SaT.appendF {o elt : Expr} {apos pos pos' : Pos} (h0 : PE (model prog w) A (Cx G env ρ ((a, ds) :: μ)) (eval o env) (.val (.ref a))) (h1 : PEF (model prog w) A (Cx G env ρ ((a, ds) :: μ)) (eval elt env) es) (hz : ds.length ≤ 1000)
    (hbase : attributeBase o "append" env (eval o env) = eval o env := by rfl)
    (hfew : ((backTo pos (starEach [elt] env)).all (fun x => !x.1) && (backToKw pos (keywordEach [] env)).all (fun x => x.1.isSome)
      && decide (([elt] : List Expr).length + ([] : List Keyword).length + (if ([] : List Keyword).isEmpty then 0 else 1) < 30)) = true := by rfl)
    (hline : (apos.endLine == pos.line) = true := by rfl)
    (htrees : backTo pos (starEach [elt] env) = [(false, eval elt env)] := by rfl)
    (hi : interactive env = false := by rfl) (hs : swapsWith (.Call (.Attribute o (Str.ofString "append") apos) [elt] [] pos) none pos'.line env = pure false := by rfl) :
    Tr (model prog w) A (Sa G env he V0 s0 ρ ((a, ds) :: μ)) (exec (.Expr (.Call (.Attribute o (Str.ofString "append") apos) [elt] [] pos) pos') env) (fun V s => ∃ b, Sa G env he V0 s0 ρ ((b, es) :: (a, ds ++ [.val (.ref b)]) :: μ) V s) R := fun V s p Q E n r => by
  refine wpAny_Expr (hi := hi) (hs := hs) ?_
  refine wpAny_Call_append hbase hfew hline htrees (h0 V s p.on p.cx _ E fun v V1 a1 t1 g1 r1 => ?_)
  cases r1
  have p1 := p.grow (tk := t1) g1
  obtain ⟨items, ⟨nn, ho⟩, q, hV⟩ := p1.cx.mu _ (.head _)
  refine ⟨a, items.toArray, rfl, ⟨_, nn, ho, rfl, rfl, rfl⟩, ?_⟩
  refine h1 V1 _ p1.on p1.cx _ E fun b V2 a2 t2 g2 hn m => ?_
  have p2 := (p1.addM (tk := t2) g2 hn m).permM (List.Perm.swap _ _ _)
  obtain ⟨items, hpl, q, hV⟩ := p2.cx.mu _ (.head _)
  dsimp only at hpl q hV
  refine wpAny_list_append_plain (hsz := by have := q.length; simp; rw [sizeLine_eq]; omega) hpl fun h' hpl' sb => ?_
  exact n V2 _ ⟨b, (p2.mutate (tk := t2) sb.extBut ⟨items ++ [.ref b], by simpa using hpl', q.append (.cons (.val _) .nil), hV⟩).permM (List.Perm.swap _ _ _)⟩

theorem Cx.frozen {G : Gd} {env : Env} {ρ ρ' : Vars} {μ : List (Addr × List D)} {V : View} {h : Heap} (cx : Cx G env ρ ((a, ds) :: μ) V h) (on : On V h) (hr : ∀ q ∈ ρ', q ∈ ρ ∨ ((q.1, D.val (.ref a)) ∈ ρ ∧ q.2 = .list ds)) :
    ∃ o, h.get? a = some o ∧ V a = none ∧ On (V.put a o) h ∧ Cx G env ρ' [] (V.put a o) h := by
  obtain ⟨items, ⟨k, ho⟩, q, hV⟩ := cx.mu _ (.head _)
  dsimp only at ho q hV
  have sub : ∀ b o, V b = some o → V.put a _ b = some o := View.put_sub { cls := .type "list", data := .seq items.toArray k } hV
  refine ⟨_, ho, hV, fun b o e => ?_, fun b o e => sub b o (cx.base b o e), fun p hp => ?_, fun _ h => nomatch h⟩
  · unfold View.put at e
    by_cases hb : b = a
    · rw [if_pos hb] at e; cases e; subst hb; exact ho
    · rw [if_neg hb] at e; exact on b o e
  · rcases hr p hp with z | ⟨z, e⟩
    · obtain ⟨v, at', r⟩ := cx.fm p z; exact ⟨v, at', r.mono sub⟩
    · obtain ⟨u, at', r⟩ := cx.fm _ z
      have hu : u = .ref a := by cases r; rfl
      subst hu
      exact ⟨_, at', e ▸ .list (View.put_self ..) (q.mono sub)⟩
theorem Grow.thaw {h h' : Heap} {V V' : View} {a : Addr} {o : Obj} (ho : h.get? a = some o) (hV : V a = none) (g : Grow h (V.put a o) V' h') : Grow h V (fun b => if b = a then none else V' b) h' where
  keep := g.keep
  sub := fun b o' e => by
    have hb : b ≠ a := fun z => by subst z; rw [hV] at e; cases e
    show (if b = a then none else V' b) = _
    rw [if_neg hb]
    exact g.sub b o' (View.put_sub _ hV b o' e)
  on := fun b o' e => by
    replace e : (if b = a then none else V' b) = some o' := e
    by_cases hb : b = a
    · rw [if_pos hb] at e; cases e
    · rw [if_neg hb] at e; exact g.on b o' e
  new := fun b o' e => by
    replace e : (if b = a then none else V' b) = some o' := e
    by_cases hb : b = a
    · rw [if_pos hb] at e; cases e
    · rw [if_neg hb] at e
      have := g.new b o' e
      unfold View.put at this
      rw [if_neg hb] at this
      exact this
/-- what is asked of a list that is being changed, for a moment as of one that stands fast -/
theorem PE.thaw {M : Model} {t : Sem Value} (hf : d.flat = true) (hr : ∀ q ∈ ρ', q ∈ ρ ∨ ((q.1, D.val (.ref a)) ∈ ρ ∧ q.2 = .list ds)) (h : PE M A (Cx G env ρ' []) t d) : PE M A (Cx G env ρ ((a, ds) :: μ)) t d := fun V s on cx Q E k => by
  obtain ⟨o, ho, hV, on', cx'⟩ := cx.frozen on hr
  exact h _ s on' cx' Q E fun v V' h' tk g r => k v _ h' tk (g.thaw ho hV) (r.ofFlat hf)
theorem PB.thaw {M : Model} {t : Sem Bool} {b : Bool} (hr : ∀ q ∈ ρ', q ∈ ρ ∨ ((q.1, D.val (.ref a)) ∈ ρ ∧ q.2 = .list ds)) (h : PB M A (Cx G env ρ' []) t b) : PB M A (Cx G env ρ ((a, ds) :: μ)) t b := fun V s on cx Q E k => by
  obtain ⟨o, ho, hV, on', cx'⟩ := cx.frozen on hr
  exact h _ s on' cx' Q E fun V' h' tk g => k _ h' tk (g.thaw ho hV)
/-- x = xs.pop() -/
theorem SaT.popM {x : Str} {o : Expr} {apos pos p' pos' : Pos} {pl : Sem Bool} (hk : env.scope.kind = .function) (hx : env.kindOf x = some .local ∨ (env.kindOf x = some .cell ∧ (env.cells.lookup x).isSome = true)) (hs : Sub x ρ ρ')
    (h0 : PE (model prog w) A (Cx G env ρ ((a, ds ++ [d]) :: μ)) (eval o env) (.val (.ref a))) (hz : ds.length ≤ 1000)
    (he' : eval (.Call (.Attribute o (Str.ofString "pop") apos) [] [] pos) env = (do
      let ov ← eval o env
      standAt apos.atName
      let (f, first) ← holding [ov] (getMethod ov (Str.ofString "pop") pl)
      callWith pos f first (backTo pos (starEach [] env)) []) := by rfl)
    (hw : swapsWith (.Call (.Attribute o (Str.ofString "pop") apos) [] [] pos) (some (.Name x p')) pos'.line env = pure false := by rfl) :
    SaT (model prog w) A G env he V0 s0 ρ ((a, ds ++ [d]) :: μ) (exec (.Assign [.Name x p'] (.Call (.Attribute o (Str.ofString "pop") apos) [] [] pos) pos') env) ((x, d) :: ρ') ((a, ds) :: μ) R := fun V s p Q E n r => by
  refine wpAny_Assign_Name (MethodCall_ (h0 V s p.on p.cx _ E fun v V1 h1 t1 g1 r1 => ?_) he') hw
  cases r1
  have p1 := p.grow (tk := t1) g1
  obtain ⟨items, ⟨nn, ho⟩, q, hV⟩ := p1.cx.mu _ (.head _)
  dsimp only at ho q hV
  refine getMethod_builtin ⟨_, ho, rfl⟩ PySem.F.plainAttrs_list PySem.F.slot_list_pop PySem.F.type_list_pop (fun b q => by cases q; exact ⟨_, ho, rfl⟩) ?_
  have hl := q.length
  have hitems : items = items.dropLast ++ [items.getLast (by intro z; subst z; simp at hl)] := (List.dropLast_concat_getLast _).symm
  generalize items.dropLast = pre at hitems
  generalize items.getLast _ = y at hitems
  subst hitems
  have hpl : pre.length = ds.length := by simpa using hl
  have split : ∀ {vs : List Value} {xs : List D}, RdL V1 (vs ++ [y]) (xs ++ [d]) → vs.length = xs.length → RdL V1 vs xs ∧ Rd V1 y d := fun {vs} => by
    induction vs with
    | nil =>
      intro xs h e
      cases xs with
      | nil => cases h with | cons r _ => exact ⟨.nil, r⟩
      | cons _ _ => cases e
    | cons v vs ih =>
      intro xs h e
      cases xs with
      | nil => cases e
      | cons x xs =>
        cases h with
        | cons r h =>
          obtain ⟨h1, h2⟩ := ih h (by simpa using e)
          exact ⟨.cons r h1, h2⟩
  obtain ⟨q1, q2⟩ := split q hpl
  have hk' : (pre ++ [y]).toArray.size - 1 = pre.length := by rw [List.size_toArray, List.length_append]; rfl
  have hy : (pre ++ [y]).toArray[(pre ++ [y]).toArray.size - 1]? = some y := by rw [hk']; simp
  have hsz : (pre ++ [y]).toArray.size ≤ sizeLine := by rw [List.size_toArray, List.length_append, sizeLine_eq]; simp; omega
  refine callWith_of (P := fun h => Keeps1 (model prog w) (.builtin "list.pop") h) rfl (fun h x => x) (evalArgs_nil3 ⟨keeps_builtin, ?_⟩)
  refine call_meets PySem.F.slot_list_pop ⟨_, ho, rfl⟩ PySem.F.entry_list_pop (PySem.F.args_list_pop_1 _) (PySem.MeetsSeq.list_pop_last a _ _ y hy hsz) ⟨ho, ?_⟩
  have hm : MutL V1 (h1.update a (Obj.mapSeq fun xs => xs.eraseIdxIfInBounds ((pre ++ [y]).toArray.size - 1))) a ds := by
    refine ⟨pre, ⟨nn + 1, ?_⟩, q1, hV⟩
    have e := PySem.IsL.update ho (fun xs : Array Value => xs.eraseIdxIfInBounds ((pre ++ [y]).toArray.size - 1))
    have e2 : (pre ++ [y]).toArray.eraseIdxIfInBounds ((pre ++ [y]).toArray.size - 1) = pre.toArray := by rw [hk', kl_erase, List.append_nil]
    rw [e2, if_neg (by simp)] at e
    exact e
  refine (p1.mutate (tk := t1) (Heap.SameBut.update ..).extBut hm).store hk hx q2 hs fun h'' tk' q _ => n V1 _ q
end
end FS
end
section
set_option linter.unusedVariables false
set_option maxRecDepth 100000
namespace FS
open PySem PySem.Calls PySem.W PyProof.Rows
local macro_rules | `(tactic| walk_at "subs") => `(tactic| repeat (first | exact Sub.nil | (apply Sub.skip; (focus decide)) | apply Sub.same))
local macro_rules | `(tactic| walk_at "var") => `(tactic| repeat (first | exact List.Mem.head _ | apply List.Mem.tail))

theorem fit_nats (l : List Nat) : D.fit (.list (l.map natD)) = true := by
  have h : D.plains (l.map natD) = true ∧ PyData.canLayAll0 (D.pys (l.map natD)) = true ∧ PyData.depthAll (D.pys (l.map natD)) = 0 := by
    induction l with
    | nil => exact ⟨by simp [D.plains], by simp [D.pys, PyData.canLayAll0], by simp [D.pys, PyData.depthAll]⟩
    | cons x l ih =>
      obtain ⟨h1, h2, h3⟩ := ih
      refine ⟨?_, ?_, ?_⟩
      · rw [List.map_cons, D.plains, h1]; rfl
      · rw [List.map_cons, D.pys, PyData.canLayAll0, h2]; rfl
      · rw [List.map_cons, D.pys, PyData.depthAll, h3]; rfl
  obtain ⟨h1, h2, h3⟩ := h
  unfold D.fit SeqAt.shaped
  have e1 : D.plain (.list (l.map natD)) = true := by rw [D.plain]; exact h1
  have e2 : PyData.canLay0 (D.py (.list (l.map natD))) = true := by rw [D.py, PyData.canLay0]; exact h2
  have e3 : PyData.depth (D.py (.list (l.map natD))) ≤ 64 := by rw [D.py, PyData.depth, h3]; omega
  simp [e1, e2, e3]
section
variable {prog : Program} {w : World} {A : Around} {G : Gd} {env : Env} {he V0 V : View} {s0 s : Shared} {ρ ρ' : Vars} {μ : List (Addr × List D)} {R : Value → Asn}
theorem SaT.while_ {α : Type} {test : Expr} {body : List Stmt} {pos : Pos} (J : Nat → α → Prop) (b : α → Bool) (ρf : α → Vars) (μf : α → List (Addr × List D)) (n0 : Nat) (a0 : α) (hJ0 : J n0 a0)
    (htest : ∀ n a, J n a → PB (model prog w) A (Cx G env (ρf a) (μf a)) (isTrue test env (eval test env)) (b a))
    (hbody : ∀ n a, J n a → b a = true → Tr (model prog w) A (Sa G env he V0 s0 (ρf a) (μf a)) (execs body env) (fun V s => ∃ m a', m < n ∧ J m a' ∧ Sa G env he V0 s0 (ρf a') (μf a') V s) R) :
    Tr (model prog w) A (Sa G env he V0 s0 (ρf a0) (μf a0)) (exec (.While test body [] pos) env) (fun V s => ∃ n a, J n a ∧ b a = false ∧ Sa G env he V0 s0 (ρf a) (μf a) V s) R := fun V s p Q E n r => by
  refine wpAny_While (codeAny_whileLoop (fun n s' => ∃ V a, J n a ∧ Sa G env he V0 s0 (ρf a) (μf a) V s') ?_ n0 ⟨V, a0, hJ0, p⟩)
  rintro k s' ⟨V', a, hJ, p'⟩
  refine htest k a hJ V' s' p'.on p'.cx _ _ fun V1 h1 t1 g1 => ?_
  have p1 := p'.grow (tk := t1) g1
  cases hb : b a with
  | false =>
    simp only [Bool.false_eq_true, if_false]
    exact wpAny_execs_nil (n _ _ ⟨k, a, hJ, hb, p1⟩)
  | true =>
    simp only [if_true]
    exact hbody k a hJ hb V1 _ p1 _ _ (fun V2 s2 ⟨m, a', hm, hJ', p2⟩ => ⟨m, hm, V2, a', hJ', p2⟩) fun v V2 s2 hr => r v V2 s2 hr
theorem Sa.freezeMany : ∀ (st : List (Addr × List Nat)) {V : View}, Sa G env he V0 s0 ρ (st.map (fun e => (e.1, e.2.map natD)) ++ μ) V s → ∃ V', Sa G env he V0 s0 ρ μ V' s ∧ (∀ b o, V b = some o → V' b = some o) ∧ ∀ e ∈ st, Rd V' (.ref e.1) (.list (e.2.map natD))
  | [], V, p => ⟨V, p, fun _ _ e => e, fun _ h => nomatch h⟩
  | e :: st, V, p => by
    have hV := p.cx.mu _ (.head _)
    obtain ⟨o, _, _, rd, p1⟩ := p.freezeM
    obtain ⟨V', p2, sub, h⟩ := Sa.freezeMany st p1
    obtain ⟨_, _, _, hVa⟩ := hV
    exact ⟨V', p2, fun b o' q => sub b o' (View.put_sub _ hVa b o' q), fun x hx => by
      cases hx with
      | head => exact rd.mono sub
      | tail _ hx => exact h x hx⟩
/-- the first list's items, read anew -/
theorem Sa.rereadM {a : Addr} {ds ds' : List D} (p : Sa G env he V0 s0 ρ ((a, ds) :: μ) V s) (h : ∀ vs, RdL V vs ds → RdL V vs ds') : Sa G env he V0 s0 ρ ((a, ds') :: μ) V s :=
  { on := p.on
    cx := ⟨p.cx.base, p.cx.fm, fun q hq => by
      cases hq with
      | head => obtain ⟨items, h1, h2, h3⟩ := p.cx.mu _ (.head _); exact ⟨items, h1, h _ h2, h3⟩
      | tail _ hq => exact p.cx.mu q (.tail _ hq)⟩
    gr := p.gr, rest := p.rest, loc := p.loc, locNs := p.locNs, cel := p.cel, apart := p.apart
    muOwn := fun q hq => by
      cases hq with
      | head => exact p.muOwn (a, ds) (.head _)
      | tail _ hq => exact p.muOwn q (.tail _ hq)
    muApart := by
      have := p.muApart
      rw [List.pairwise_cons] at this ⊢
      exact ⟨fun q hq => this.1 q hq, this.2⟩ }
theorem rdL_vals {V : View} : ∀ {st : List (Addr × List Nat)} {vs : List Value}, (∀ e ∈ st, Rd V (.ref e.1) (.list (e.2.map natD))) → RdL V vs (st.map fun e => .val (.ref e.1)) → RdL V vs (st.map fun e => .list (e.2.map natD))
  | [], _, _, r => by cases r; exact .nil
  | e :: st, _, h, r => by
    cases r with
    | @cons v _ _ _ r1 r2 =>
      have : v = Value.ref e.1 := by cases r1; rfl
      subst this
      exact .cons (h e (.head _)) (rdL_vals (fun x hx => h x (.tail _ hx)) r2)
end
-- what _law_undone does
noncomputable def grpG (c : Nat → Bool) (c0 : Bool) (st : List (List Nat)) (x : Nat) : List (List Nat) := if (c x == c0) = true then [x] :: st else match st with
  | [] => [[x]]
  | g :: st' => (g ++ [x]) :: st'
noncomputable def undStep (ranks : List Nat) (last : Nat) (rest : List Nat) : List Nat :=
  (((rest.foldl (grpG (fun x => decide (gN ranks last < gN ranks x)) (decide (gN ranks last < gN ranks (gN rest 0)))) []).reverse).map fun g => g.drop 1 ++ g.take 1).flatten
noncomputable def undoGo (ranks : List Nat) : Nat → List Nat → List Nat → List Nat
  | 0, _, B => B
  | k + 1, L, B => undoGo ranks k (undStep ranks (L.getLastD 0) L.dropLast) (B ++ [L.getLastD 0])
theorem grp_inv (c : Nat → Bool) (c0 : Bool) : ∀ (l : List Nat) (st : List (List Nat)), (l.foldl (grpG c c0) st).flatten.length = st.flatten.length + l.length ∧ (∀ g ∈ l.foldl (grpG c c0) st, ∀ x ∈ g, (∃ h ∈ st, x ∈ h) ∨ x ∈ l) ∧ (st ≠ [] ∨ l ≠ [] → l.foldl (grpG c c0) st ≠ [])
  | [], st => ⟨rfl, fun g hg x hx => .inl ⟨g, hg, hx⟩, fun h => h.elim id fun z => (z rfl).elim⟩
  | x :: l, st => by
    obtain ⟨h1, h2, h3⟩ := grp_inv c c0 l (grpG c c0 st x)
    have e : (grpG c c0 st x).flatten.length = st.flatten.length + 1 ∧ grpG c c0 st x ≠ [] ∧ ∀ g ∈ grpG c c0 st x, ∀ y ∈ g, (∃ h ∈ st, y ∈ h) ∨ y = x := by
      unfold grpG
      by_cases hc : (c x == c0) = true
      · rw [if_pos hc]
        refine ⟨by simp, by simp, fun g hg y hy => ?_⟩
        cases hg with
        | head => exact .inr (by simpa using hy)
        | tail _ hg => exact .inl ⟨g, hg, hy⟩
      · rw [if_neg hc]
        cases st with
        | nil => exact ⟨rfl, by simp, fun g hg y hy => .inr (by simp at hg; subst hg; simpa using hy)⟩
        | cons g st' =>
          refine ⟨by simp; omega, by simp, fun h hh y hy => ?_⟩
          cases hh with
          | head =>
            rcases List.mem_append.mp hy with q | q
            · exact .inl ⟨g, .head _, q⟩
            · exact .inr (by simpa using q)
          | tail _ hh => exact .inl ⟨h, .tail _ hh, hy⟩
    refine ⟨by rw [List.foldl_cons, h1, e.1, List.length_cons]; omega, fun g hg y hy => ?_, fun _ => h3 (.inl e.2.1)⟩
    rcases h2 g hg y hy with ⟨h, hh, q⟩ | q
    · rcases e.2.2 h hh y q with z | rfl
      · exact .inl z
      · exact .inr (.head _)
    · exact .inr (.tail _ q)
theorem und_len (ranks : List Nat) (last : Nat) (rest : List Nat) : (undStep ranks last rest).length = rest.length ∧ ∀ x ∈ undStep ranks last rest, x ∈ rest := by
  unfold undStep
  generalize hst : rest.foldl (grpG (fun x => decide (gN ranks last < gN ranks x)) (decide (gN ranks last < gN ranks (gN rest 0)))) [] = st
  have inv := grp_inv (fun x => decide (gN ranks last < gN ranks x)) (decide (gN ranks last < gN ranks (gN rest 0))) rest []
  rw [hst] at inv
  have len : ∀ l : List (List Nat), ((l.map fun g => g.drop 1 ++ g.take 1).flatten).length = l.flatten.length := fun l => by
    induction l with
    | nil => rfl
    | cons g l ih =>
      rw [List.map_cons, List.flatten_cons, List.flatten_cons, List.length_append, List.length_append, ih, List.length_append, List.length_drop, List.length_take]
      omega
  have rev : ∀ l : List (List Nat), l.reverse.flatten.length = l.flatten.length := fun l => by
    induction l with
    | nil => rfl
    | cons g l ih => rw [List.reverse_cons, List.flatten_append, List.length_append, ih, List.flatten_cons, List.length_append]; simp; omega
  refine ⟨by rw [len, rev, inv.1]; simp, fun x hx => ?_⟩
  obtain ⟨g, hg, hxg⟩ := List.mem_flatten.mp hx
  obtain ⟨g', hg', rfl⟩ := List.mem_map.mp hg
  have hx' : x ∈ g' := by
    rcases List.mem_append.mp hxg with q | q
    · exact List.mem_of_mem_drop q
    · exact List.mem_of_mem_take q
  rcases inv.2.1 g' (List.mem_reverse.mp hg') x hx' with ⟨h, hh, _⟩ | q
  · exact nomatch hh
  · exact q
end FS
end
section
set_option linter.unusedVariables false
set_option maxRecDepth 100000
namespace FS
open PySem PySem.Calls PySem.W PyProof.Rows
theorem fm_congr {α β : Type} {f g : α → Option β} : ∀ {l : List α}, (∀ x ∈ l, f x = g x) → l.filterMap f = l.filterMap g
  | [], _ => rfl
  | x :: l, h => by rw [List.filterMap_cons, List.filterMap_cons, h x (.head _), fm_congr fun y hy => h y (.tail _ hy)]
theorem pickD_rev (ds : List D) : pickD ds none none (some (-1)) = ds.reverse := by
  unfold pickD
  have e : sliceBounds none none (some (-1)) ds.length = ((ds.length : Int) - 1, -1, -1) := rfl
  rw [e]
  have e2 : sliceRange ((ds.length : Int) - 1) (-1) (-1) = (List.range ds.length).map fun k => ds.length - 1 - k := by
    unfold sliceRange
    rcases Nat.eq_zero_or_pos ds.length with h | h
    · rw [h]; rfl
    · have hc : (if (-1 : Int) > 0 then (if ((ds.length : Int) - 1) < -1 then ((-1 : Int) - ((ds.length : Int) - 1) + -1 - 1) / -1 else 0) else (if ((ds.length : Int) - 1) > -1 then (((ds.length : Int) - 1) - -1 - -1 - 1) / (-(-1)) else 0)) = (ds.length : Int) := by
        rw [if_neg (by omega), if_pos (by omega), Int.neg_neg, Int.ediv_one]
        omega
      dsimp only
      rw [hc, Int.toNat_natCast]
      refine List.map_congr_left fun k hk => ?_
      have := List.mem_range.mp hk
      omega
  show (sliceRange ((ds.length : Int) - 1) (-1) (-1)).filterMap (ds[·]?) = _
  rw [e2, List.filterMap_map]
  have e3 : (List.range ds.length).filterMap ((ds[·]?) ∘ fun k => ds.length - 1 - k) = (List.range ds.length).filterMap (ds.reverse[·]?) := by
    refine fm_congr fun k hk => ?_
    have hk' := List.mem_range.mp hk
    show ds[ds.length - 1 - k]? = ds.reverse[k]?
    rw [List.getElem?_reverse hk']
  rw [e3]
  have := range_pick ds.reverse
  rw [List.length_reverse] at this
  exact this
theorem pickD_drop1 (ds : List D) : pickD ds (some 1) none none = ds.drop 1 := by
  rw [pickD_plain]
  simp only [Option.elim]
  rw [show (1 : Int) = ((1 : Nat) : Int) from rfl, clipAt_nat]
  rcases Nat.eq_zero_or_pos ds.length with h | h
  · rw [List.eq_nil_of_length_eq_zero h]; rfl
  · rw [Nat.min_eq_left h, List.take_of_length_le (by simp)]
theorem pickD_take1 (ds : List D) : pickD ds none (some 1) none = ds.take 1 := by
  rw [pickD_plain]
  simp only [Option.elim]
  rw [show (1 : Int) = ((1 : Nat) : Int) from rfl, clipAt_nat, List.drop_zero, Nat.sub_zero]
  rcases Nat.eq_zero_or_pos ds.length with h | h
  · rw [List.eq_nil_of_length_eq_zero h]; rfl
  · rw [Nat.min_eq_left h]
section
variable {M : Model} {A : Around} {G : Gd} {env : Env} {ρ ρ' : Vars} {μ : List (Addr × List D)} {a : Addr} {ds : List D} {d : D}
theorem PE.thawIn {t : Sem Value} (hm : (a, ds) ∈ μ) (hf : d.flat = true) (hr : ∀ q ∈ ρ', q ∈ ρ ∨ ((q.1, D.val (.ref a)) ∈ ρ ∧ q.2 = .list ds)) (h : PE M A (Cx G env ρ' []) t d) : PE M A (Cx G env ρ μ) t d := fun V s on cx =>
  PE.thaw (μ := μ) hf hr h V s on ⟨cx.base, cx.fm, fun q hq => by
    cases hq with
    | head => exact cx.mu _ hm
    | tail _ hq => exact cx.mu q hq⟩
end
end FS
end
section
set_option linter.unusedVariables false
set_option maxRecDepth 100000
namespace FS
open PySem PySem.Calls PySem.W PyProof.Rows
local macro_rules | `(tactic| walk_at "subs") => `(tactic| repeat (first | exact Sub.nil | (apply Sub.skip; (focus decide)) | apply Sub.same))
local macro_rules | `(tactic| walk_at "var") => `(tactic| repeat (first | exact List.Mem.head _ | apply List.Mem.tail))
noncomputable abbrev uEnv (L' : Addr) (code : Value) : Env := envOf (stm 20) "_law_undone" 282 L' code
noncomputable def uS (i : Nat) : Stmt := ((fBody (stm 20))[i]?).getD (.Pass ⟨0, 0, 0, 0⟩)
noncomputable def whB : Stmt → List Stmt
  | .While _ b _ _ => b
  | _ => []
noncomputable def uW (i : Nat) : Stmt := ((whB (uS 2))[i]?).getD (.Pass ⟨0, 0, 0, 0⟩)
noncomputable abbrev uC (ranks : List Nat) (last : Nat) (x : Nat) : Bool := decide (gN ranks last < gN ranks x)
noncomputable def muG (st : List (Addr × List Nat)) : List (Addr × List D) := st.map fun e => (e.1, e.2.map natD)
noncomputable def vaG (st : List (Addr × List Nat)) : List D := st.reverse.map fun e => .val (.ref e.1)
noncomputable def liG (st : List (Addr × List Nat)) : List D := st.reverse.map fun e => .list (e.2.map natD)
theorem Tr.postV {M : Model} {A : Around} {P N N' : Asn} {t : Sem Flow} {R : Value → Asn} (h : Tr M A P t N R) (i : ∀ V s, N V s → ∃ V', N' V' s) : Tr M A P t N' R := fun V s p Q E n r => h V s p Q E (fun V' s' x => let ⟨V2, y⟩ := i V' s' x; n V2 s' y) r
section
variable {w : World} {A : Around} {G : Gd} {n : Nat} {L' : Addr} {code : Value} {he V0 : View} {s0 : Shared} {R : Value → Asn}
/-- the inner loop: the parts are made -/
theorem und_parts {ranks rest : List Nat} {last : Nat} {pa ba : Addr} {bs : List D} (hh : A.handled = none) (h8 : rest.length ≤ 8) (hr : ∀ x ∈ rest, x < ranks.length) (hlast : last < ranks.length) (hr8 : ranks.length ≤ 1000) :
    Tr (model pw w) A (Sa G (uEnv L' code) he V0 s0 [(Str.ofString "parts", .val (.ref pa)), (Str.ofString "left", .list (rest.map natD)), (Str.ofString "last", natD last), (Str.ofString "back", .val (.ref ba)), (Str.ofString "ranks", .list (ranks.map natD))] [(pa, []), (ba, bs)]) (exec (uW 3) (uEnv L' code))
      (fun V s => ∃ st : List (Addr × List Nat), st.map Prod.snd = rest.foldl (grpG (uC ranks last) (uC ranks last (gN rest 0))) [] ∧ Sa G (uEnv L' code) he V0 s0 [(Str.ofString "parts", .list (liG st)), (Str.ofString "left", .list (rest.map natD)), (Str.ofString "last", natD last), (Str.ofString "back", .val (.ref ba)), (Str.ofString "ranks", .list (ranks.map natD))] [(ba, bs)] V s) R := by
  have natAt : ∀ (l : List Nat) (i : Nat), i < l.length → (l.map natD)[i]? = some (.int (gN l i : Nat)) := fun l i hi => by rw [List.getElem?_map, gN_some hi]; rfl
  refine Tr.postV (SaT.for_ (α := List (Addr × List Nat)) (rest.map natD) (fun i st => st.map Prod.snd = (rest.take i).foldl (grpG (uC ranks last) (uC ranks last (gN rest 0))) [])
    (fun _ _ => [(Str.ofString "parts", .val (.ref pa)), (Str.ofString "left", .list (rest.map natD)), (Str.ofString "last", natD last), (Str.ofString "back", .val (.ref ba)), (Str.ofString "ranks", .list (ranks.map natD))])
    (fun _ st => muG st ++ [(pa, vaG st), (ba, bs)]) [] (fun _ _ _ _ _ => False) rfl (.inl rfl) rfl (PE.name rfl (by walk_at "var")) (Itb.list hh) (fun _ _ => by walk_at "subs") (fun _ _ _ _ _ _ _ _ h => h.elim) (fun he' V' i st d hJ hd => ?_)) fun V s h => ?_
  · have hi : i < rest.length := by
      have := (List.getElem?_eq_some_iff.mp hd).1
      simpa using this
    have hx : gN rest i ∈ rest := List.mem_of_getElem? (gN_some hi)
    have e : d = natD (gN rest i) := by
      rw [natAt rest i hi] at hd; exact (Option.some.inj hd).symm
    subst e
    have hx0 : gN rest 0 ∈ rest := List.mem_of_getElem? (gN_some (by omega))
    have hxl := hr _ hx
    have hx0l := hr _ hx0
    have tkq : rest.take (i + 1) = rest.take i ++ [gN rest i] := by rw [List.take_add_one, gN_some hi]; rfl
    have hstep : ∀ st' : List (List Nat), st' = grpG (uC ranks last) (uC ranks last (gN rest 0)) (st.map Prod.snd) (gN rest i) → st' = (rest.take (i + 1)).foldl (grpG (uC ranks last) (uC ranks last (gN rest 0))) [] := fun st' h => by
      rw [tkq, List.foldl_append, ← hJ]; exact h
    have stlen : st.length ≤ i := by
      have := (grp_inv (uC ranks last) (uC ranks last (gN rest 0)) (rest.take i) []).1
      have cnt : ∀ l : List Nat, ∀ s : List (List Nat), (l.foldl (grpG (uC ranks last) (uC ranks last (gN rest 0))) s).length ≤ s.length + l.length := fun l => by
        induction l with
        | nil => exact fun s => Nat.le_refl _
        | cons x l ih =>
          intro s
          have h1 := ih (grpG (uC ranks last) (uC ranks last (gN rest 0)) s x)
          have h2 : (grpG (uC ranks last) (uC ranks last (gN rest 0)) s x).length ≤ s.length + 1 := by
            unfold grpG
            split
            · simp
            · cases s <;> simp
          rw [List.foldl_cons, List.length_cons]; omega
      have h3 := cnt (rest.take i) []
      rw [← hJ, List.length_map, List.length_take] at h3
      simp at h3
      omega
    refine Tr.last (SaT.if_ (c := uC ranks last (gN rest i) == uC ranks last (gN rest 0)) ?_ (fun hc => ?_) (fun hc => ?_))
    · have e1 : ∀ x, uC ranks last x = decide (((gN ranks last : Nat) : Int) < ((gN ranks x : Nat) : Int)) := fun x => by
        unfold uC; rw [decide_eq_decide]; omega
      rw [e1, e1]
      exact PB.compare Cx.stable
        (PE.compare Cx.stable (PE.item Cx.stable (PE.name (d := .list (ranks.map natD)) rfl (by walk_at "var")) (PE.name (d := .int (gN rest i : Nat)) rfl (by walk_at "var")) (op_item_list (by omega) (by omega) (natAt ranks _ hxl)))
          (PE.item Cx.stable (PE.name (d := .list (ranks.map natD)) rfl (by walk_at "var")) (PE.name (d := .int (last : Nat)) rfl (by walk_at "var")) (op_item_list (by omega) (by omega) (natAt ranks _ hlast))) op_gt_int)
        (PE.compare Cx.stable (PE.item Cx.stable (PE.name (d := .list (ranks.map natD)) rfl (by walk_at "var")) (PE.item (d := .int (gN rest 0 : Nat)) Cx.stable (PE.name (d := .list (rest.map natD)) rfl (by walk_at "var")) PE.cInt (op_item_list (by omega) (by omega) (natAt rest 0 (by omega)))) (op_item_list (by omega) (by omega) (natAt ranks _ hx0l)))
          (PE.item Cx.stable (PE.name (d := .list (ranks.map natD)) rfl (by walk_at "var")) (PE.name (d := .int (last : Nat)) rfl (by walk_at "var")) (op_item_list (by omega) (by omega) (natAt ranks _ hlast))) op_gt_int) op_eq_bool
    · refine Tr.last ?_
      refine Tr.pre (P := Sa G (uEnv L' code) he' V' s0 _ ((pa, vaG st) :: (muG st ++ [(ba, bs)]))) ?_ fun V s p => p.permM List.perm_middle
      refine Tr.post (SaT.appendF (es := [natD (gN rest i)]) (PE.name rfl (by walk_at "var")) (PEF.lit (PL.cons Cx.stable (PE.name rfl (by walk_at "var")) PL.nil) (by simp)) (by unfold vaG; simp; omega)) fun V s h => ?_
      obtain ⟨b, p⟩ := h
      refine ⟨(b, [gN rest i]) :: st, hstep _ ?_, ?_⟩
      · unfold grpG
        rw [if_pos hc]
        rfl
      · have ev : vaG ((b, [gN rest i]) :: st) = vaG st ++ [.val (.ref b)] := by unfold vaG; rw [List.reverse_cons, List.map_append]; rfl
        rw [ev]
        exact (p.permM (List.Perm.cons _ List.perm_middle.symm)).weaken fun q hq => .tail _ hq
    · have hne : st ≠ [] := by
        rintro rfl
        have hi0 : i = 0 := by
          rcases Nat.eq_zero_or_pos i with h | h
          · exact h
          · exfalso
            have := (grp_inv (uC ranks last) (uC ranks last (gN rest 0)) (rest.take i) []).2.2 (.inr fun z => by
              have := congrArg List.length z
              rw [List.length_take, List.length_nil] at this
              omega)
            exact this hJ.symm
        subst hi0
        simp at hc
      cases st with
      | nil => exact (hne rfl).elim
      | cons e st' =>
      obtain ⟨b, g⟩ := e
      refine Tr.last ?_
      refine Tr.post (SaT.appendM (a := b) (ds := g.map natD) (d := natD (gN rest i)) (PE.thawIn (a := pa) (ds := vaG ((b, g) :: st')) (ρ' := [(Str.ofString "parts", .list (vaG ((b, g) :: st')))]) ?_ rfl ?_ ?_) (PE.name rfl (by walk_at "var")) ?_) fun V s p => ?_
      · show _ ∈ muG ((b, g) :: st') ++ [(pa, vaG ((b, g) :: st')), (ba, bs)]
        exact List.mem_append.mpr (.inr (.head _))
      · intro q hq
        have : q = (Str.ofString "parts", .list (vaG ((b, g) :: st'))) := by simpa using hq
        subst this
        exact .inr ⟨by walk_at "var", rfl⟩
      · have el : (vaG ((b, g) :: st')).length = st'.length + 1 := by unfold vaG; simp
        refine PE.item Cx.stable (PE.name rfl (by walk_at "var")) (PE.neg PE.cInt) (op_item_listNeg (by decide) (by rw [el]; omega) (by decide) ?_)
        rw [el]
        have z : ((-1 : Int) + ((st'.length + 1 : Nat) : Int)).toNat = st'.length := by omega
        rw [z]
        unfold vaG
        rw [List.reverse_cons, List.map_append, List.getElem?_append_right (by simp)]
        simp
      · have := (grp_inv (uC ranks last) (uC ranks last (gN rest 0)) (rest.take i) []).1
        rw [← hJ] at this
        simp at this
        simp
        omega
      · refine ⟨(b, g ++ [gN rest i]) :: st', hstep _ ?_, ?_⟩
        · unfold grpG
          rw [if_neg (by rw [hc]; exact Bool.false_ne_true)]
          rfl
        · have ev : vaG ((b, g ++ [gN rest i]) :: st') = vaG ((b, g) :: st') := by unfold vaG; rw [List.reverse_cons, List.reverse_cons, List.map_append, List.map_append]; rfl
          rw [ev]
          have em : muG ((b, g ++ [gN rest i]) :: st') = (b, g.map natD ++ [natD (gN rest i)]) :: muG st' := by unfold muG; rw [List.map_cons, List.map_append]; rfl
          rw [em]
          exact p.weaken fun q hq => .tail _ hq
  · obtain ⟨st, hJ, p⟩ := h
    rw [List.length_map, List.take_length] at hJ
    obtain ⟨V1, p1, sub, rd⟩ := Sa.freezeMany st p
    have p2 := p1.rereadM (ds' := liG st) fun vs r => by
      unfold vaG at r
      unfold liG
      exact rdL_vals (fun e he => rd e (List.mem_reverse.mp he)) r
    obtain ⟨o, _, _, rd3, p3⟩ := p2.freezeM
    refine ⟨_, st, hJ, p3.reread fun q hq => ?_⟩
    cases hq with
    | head => exact .inr ⟨.ref pa, by walk_at "var", rd3⟩
    | tail _ hq => exact .inl (.tail _ hq)
end
end FS
end
section
set_option linter.unusedVariables false
set_option maxRecDepth 100000
namespace FS
open PySem PySem.Calls PySem.W PyProof.Rows
local macro_rules | `(tactic| walk_at "subs") => `(tactic| repeat (first | exact Sub.nil | (apply Sub.skip; (focus decide)) | apply Sub.same))
local macro_rules | `(tactic| walk_at "var") => `(tactic| repeat (first | exact List.Mem.head _ | apply List.Mem.tail))
section
variable {w : World} {A : Around} {G : Gd} {n : Nat} {L' : Addr} {code : Value} {he V0 : View} {s0 : Shared} {R : Value → Asn}
noncomputable def rotL (l : List Nat) : List Nat := l.drop 1 ++ l.take 1
/-- the second inner loop: the parts are joined, each behind its first -/
theorem und_join {ranks : List Nat} {last : Nat} {la ba : Addr} {bs : List D} {gs : List (List Nat)} (hh : A.handled = none) (hz : gs.flatten.length ≤ 100) (hgl : gs.length ≤ 100) :
    Tr (model pw w) A (Sa G (uEnv L' code) he V0 s0 [(Str.ofString "left", .val (.ref la)), (Str.ofString "parts", .list (gs.map fun g => .list (g.map natD))), (Str.ofString "back", .val (.ref ba)), (Str.ofString "ranks", .list (ranks.map natD))] [(la, []), (ba, bs)]) (exec (uW 5) (uEnv L' code))
      (fun V s => ∃ a, Sa G (uEnv L' code) he V0 s0 [(Str.ofString "left", .val (.ref a)), (Str.ofString "back", .val (.ref ba)), (Str.ofString "ranks", .list (ranks.map natD))] [(a, ((gs.map rotL).flatten).map natD), (ba, bs)] V s) R := by
  refine Tr.post (SaT.for_ (α := Addr × List Nat) (gs.map fun g => .list (g.map natD)) (fun i a => a.2 = ((gs.take i).map rotL).flatten)
    (fun _ a => [(Str.ofString "left", .val (.ref a.1)), (Str.ofString "parts", .list (gs.map fun g => .list (g.map natD))), (Str.ofString "back", .val (.ref ba)), (Str.ofString "ranks", .list (ranks.map natD))])
    (fun _ a => [(a.1, a.2.map natD), (ba, bs)]) (la, []) (fun _ _ _ _ _ => False) rfl (.inl rfl) rfl (PE.name rfl (by walk_at "var")) (Itb.list hh) (fun _ _ => by walk_at "subs") (fun _ _ _ _ _ _ _ _ h => h.elim) (fun he' V' i a d hJ hd => ?_)) fun V s h => ?_
  · obtain ⟨g, hg, rfl⟩ := map_at hd
    have hi : i < gs.length := (List.getElem?_eq_some_iff.mp hg).1
    obtain ⟨la', l⟩ := a
    dsimp only at hJ ⊢
    have tkq : gs.take (i + 1) = gs.take i ++ [g] := by rw [List.take_add_one, hg]; rfl
    have rl : ∀ xs : List (List Nat), ((xs.map rotL).flatten).length = xs.flatten.length := fun xs => by
      induction xs with
      | nil => rfl
      | cons x xs ih =>
        rw [List.map_cons, List.flatten_cons, List.flatten_cons, List.length_append, List.length_append, ih]
        unfold rotL
        rw [List.length_append, List.length_drop, List.length_take]; omega
    have hsplit : gs.flatten.length = (gs.take i).flatten.length + g.length + (gs.drop (i + 1)).flatten.length := by
      have e : gs = gs.take i ++ [g] ++ gs.drop (i + 1) := by rw [← tkq, List.take_append_drop]
      have := congrArg (fun x : List (List Nat) => x.flatten.length) e
      rw [List.flatten_append, List.flatten_append, List.length_append, List.length_append] at this
      simpa using this
    have hll : l.length = (gs.take i).flatten.length := by rw [hJ, rl]
    refine Tr.preV (P := Sa G (uEnv L' code) he' V' s0 [(Str.ofString "left", .list (l.map natD)), (Str.ofString "part", .list (g.map natD)), (Str.ofString "parts", .list (gs.map fun g => .list (g.map natD))), (Str.ofString "back", .val (.ref ba)), (Str.ofString "ranks", .list (ranks.map natD))] [(ba, bs)]) ?_ fun V1 s1 p => ?_
    rotate_left
    · obtain ⟨o, _, _, rd, p2⟩ := p.freezeM
      refine ⟨_, p2.reread fun q hq => ?_⟩
      simp only [List.mem_cons, List.not_mem_nil, or_false] at hq
      rcases hq with rfl | rfl | rfl | rfl | rfl
      · exact .inr ⟨.ref la', by walk_at "var", rd⟩
      all_goals exact .inl (by walk_at "var")
    have e1 : (l ++ rotL g).map natD = (l.map natD ++ (g.map natD).drop 1) ++ (g.map natD).take 1 := by
      unfold rotL
      rw [List.map_append, List.map_append, List.map_drop, List.map_take, List.append_assoc]
    refine Tr.last (Tr.post (SaT.assignF (ds := (l ++ rotL g).map natD) rfl (.inl rfl) ?_ (by walk_at "subs")) fun V s h => ?_)
    · rw [e1]
      refine PEF.add Cx.stable (PE.binop Cx.stable (PE.name rfl (by walk_at "var")) ?_ (op_add_list ?_)) ?_ ?_
      · rw [← pickD_drop1]
        exact PE.slice Cx.stable (PE.name rfl (by walk_at "var")) (PPart.some PE.cInt) PPart.none PPart.none (by decide) (by rw [List.length_map]; omega)
      · rw [List.length_map, List.length_drop, List.length_map]; omega
      · rw [← pickD_take1]
        exact PE.slice Cx.stable (PE.name rfl (by walk_at "var")) PPart.none (PPart.some PE.cInt) PPart.none (by decide) (by rw [List.length_map]; omega)
      · rw [List.length_append, List.length_map, List.length_drop, List.length_take, List.length_map]; omega
    · obtain ⟨a', p⟩ := h
      refine ⟨(a', l ++ rotL g), ?_, p.weaken fun q hq => ?_⟩
      · rw [tkq, List.map_append, List.flatten_append, ← hJ]; simp
      · simp only [List.mem_cons, List.not_mem_nil, or_false] at hq
        rcases hq with rfl | rfl | rfl | rfl <;> walk_at "var"
  · obtain ⟨a, hJ, p⟩ := h
    rw [List.length_map, List.take_length] at hJ
    rw [← hJ]
    refine ⟨a.1, p.weaken fun q hq => ?_⟩
    simp only [List.mem_cons, List.not_mem_nil, or_false] at hq
    rcases hq with rfl | rfl | rfl <;> walk_at "var"
structure US where
  la : Addr
  L : List Nat
  B : List Nat
theorem undone_ok {row ranks : List Nat} (F : GF w G) (Rm : Room A (n + 1)) (h8 : row.length ≤ 8) (hr : ∀ x ∈ row, x < ranks.length) (hr8 : ranks.length ≤ 1000) : Con pw w A G 282 [.list (row.map natD), .list (ranks.map natD)] (.list ((undoGo ranks row.length row []).reverse.map natD)) := fun V s on base vs r => by
  obtain ⟨v1, v2, rfl, r1, r2⟩ := r.two
  refine fn_pure (ρ := [(Str.ofString "row", .list (row.map natD)), (Str.ofString "ranks", .list (ranks.map natD))]) (binds := [(Str.ofString "row", v1), (Str.ofString "ranks", v2)]) F.f_undone Rm.lt on base (fun _ _ _ _ _ => rfl) ?_ ?_ ?_
  · intro L p hp
    simp only [List.mem_cons, List.not_mem_nil, or_false] at hp
    rcases hp with rfl | rfl <;> exact .inl rfl
  · intro L code p hp
    simp only [List.mem_cons, List.not_mem_nil, or_false] at hp
    rcases hp with rfl | rfl
    · exact ⟨_, r1, .inl ⟨rfl, rfl⟩⟩
    · exact ⟨_, r2, .inl ⟨rfl, rfl⟩⟩
  · intro L code
    have R1 := Rm.deeper (uEnv L code)
    refine Tr.cons (SaT.assignF (ds := row.map natD) rfl (.inl rfl) (PEF.listCall Cx.stable (PE.blt rfl rfl rfl rfl F.b_list.1 F.b_list.2) (PE.name rfl (by walk_at "var")) (by rw [List.length_map]; omega)) (by walk_at "subs")) (Tr.ex fun la => ?_)
    refine Tr.cons (SaT.newList rfl (.inl rfl) (by walk_at "subs")) (Tr.ex fun ba => ?_)
    refine Tr.pre (P := Sa G (uEnv L code) s.heap.get? V s [(Str.ofString "left", .val (.ref la)), (Str.ofString "back", .val (.ref ba)), (Str.ofString "ranks", .list (ranks.map natD))] [(la, row.map natD), (ba, ([] : List Nat).map natD)]) ?_ fun V s p => (p.permM (List.Perm.swap _ _ _)).weaken fun q hq => ?_
    rotate_left
    · simp only [List.mem_cons, List.not_mem_nil, or_false] at hq
      rcases hq with rfl | rfl | rfl <;> walk_at "var"
    refine Tr.cons (SaT.while_ (α := US) (fun k a => a.L.length = k ∧ a.B.length + k = row.length ∧ (∀ x ∈ a.L, x < ranks.length) ∧ undoGo ranks k a.L a.B = undoGo ranks row.length row []) (fun a => !a.L.isEmpty)
      (fun a => [(Str.ofString "left", .val (.ref a.la)), (Str.ofString "back", .val (.ref ba)), (Str.ofString "ranks", .list (ranks.map natD))]) (fun a => [(a.la, a.L.map natD), (ba, a.B.map natD)]) row.length ⟨la, row, []⟩ ⟨rfl, by simp, hr, rfl⟩ (fun k a hJ => ?_) (fun k a hJ hb => ?_)) ?_
    · have e : (!a.L.isEmpty) = (!PyData.eqv (D.list (a.L.map natD)).py (D.list []).py) := by
        cases a.L with
        | nil => simp [D.py, D.pys, PyData.eqv, PyData.eqvAll]
        | cons x l => simp [D.py, D.pys, PyData.eqv, PyData.eqvAll]
      rw [e]
      refine PB.thaw (ρ' := [(Str.ofString "left", .list (a.L.map natD))]) (fun q hq => ?_) (PB.compare Cx.stable (PE.name rfl (by walk_at "var")) (PE.dList PL.nil) (op_ne_deep R1.cl (fit_nats _) (fit_nats [])))
      have : q = (Str.ofString "left", .list (a.L.map natD)) := by simpa using hq
      subst this
      exact .inr ⟨by walk_at "var", rfl⟩
    · obtain ⟨la1, Lx, B⟩ := a
      obtain ⟨h1, h2, h3, h4⟩ := hJ
      dsimp only at h1 h2 h3 h4 hb ⊢
      have hne : Lx ≠ [] := by rintro rfl; simp at hb
      obtain ⟨rest, last, rfl⟩ : ∃ rest last, Lx = rest ++ [last] := ⟨_, _, (List.dropLast_concat_getLast hne).symm⟩
      have hlen : rest.length + 1 = k := by simpa using h1
      have hlast : last < ranks.length := h3 last (by simp)
      have hrest : ∀ x ∈ rest, x < ranks.length := fun x hx => h3 x (by simp [hx])
      refine Tr.pre (P := Sa G (uEnv L code) s.heap.get? V s [(Str.ofString "left", .val (.ref la1)), (Str.ofString "back", .val (.ref ba)), (Str.ofString "ranks", .list (ranks.map natD))] [(la1, rest.map natD ++ [natD last]), (ba, B.map natD)]) ?_ fun V s p => by
        rw [List.map_append] at p; exact p
      refine Tr.cons (SaT.popM rfl (.inl rfl) (by walk_at "subs") (PE.name rfl (by walk_at "var")) (by rw [List.length_map]; omega)) ?_
      refine Tr.preV (P := Sa G (uEnv L code) s.heap.get? V s [(Str.ofString "left", .list (rest.map natD)), (Str.ofString "last", natD last), (Str.ofString "back", .val (.ref ba)), (Str.ofString "ranks", .list (ranks.map natD))] [(ba, B.map natD)]) ?_ fun V1 s1 p => ?_
      rotate_left
      · obtain ⟨o, _, _, rd, p2⟩ := p.freezeM
        refine ⟨_, p2.reread fun q hq => ?_⟩
        simp only [List.mem_cons, List.not_mem_nil, or_false] at hq
        rcases hq with rfl | rfl | rfl | rfl
        · exact .inr ⟨.ref la1, by walk_at "var", rd⟩
        all_goals exact .inl (by walk_at "var")
      refine Tr.cons (SaT.appendM (PE.name rfl (by walk_at "var")) (PE.name rfl (by walk_at "var")) (by rw [List.length_map]; omega)) ?_
      refine Tr.cons (SaT.newList rfl (.inl rfl) (by walk_at "subs")) (Tr.ex fun pa => ?_)
      refine Tr.cons (und_parts (last := last) R1.hh (by omega) hrest hlast hr8) (Tr.ex fun st => ?_)
      refine Tr.preV (P := fun V1 s1 => st.map Prod.snd = rest.foldl (grpG (uC ranks last) (uC ranks last (gN rest 0))) [] ∧ Sa G (uEnv L code) s.heap.get? V s [(Str.ofString "parts", .list (liG st)), (Str.ofString "last", natD last), (Str.ofString "back", .val (.ref ba)), (Str.ofString "ranks", .list (ranks.map natD))] [(ba, B.map natD ++ [natD last])] V1 s1) ?_ fun V1 s1 p => ⟨V1, p.1, p.2.weaken fun q hq => ?_⟩
      rotate_left
      · simp only [List.mem_cons, List.not_mem_nil, or_false] at hq
        rcases hq with rfl | rfl | rfl | rfl <;> walk_at "var"
      intro V1 s1 ⟨hst, p⟩
      revert p
      refine fun p => (?_ : Tr (model pw w) (A.deeper (uEnv L code)) (Sa G (uEnv L code) s.heap.get? V s [(Str.ofString "parts", .list (liG st)), (Str.ofString "last", natD last), (Str.ofString "back", .val (.ref ba)), (Str.ofString "ranks", .list (ranks.map natD))] [(ba, B.map natD ++ [natD last])]) _ _ _) V1 s1 p
      clear p
      have hinv := grp_inv (uC ranks last) (uC ranks last (gN rest 0)) rest []
      have hli : liG st = ((st.reverse.map Prod.snd).map fun g : List Nat => D.list (g.map natD)) := by unfold liG; rw [List.map_map]; rfl
      have hG : st.reverse.map Prod.snd = (rest.foldl (grpG (uC ranks last) (uC ranks last (gN rest 0))) []).reverse := by rw [List.map_reverse, hst]
      have hund : ((st.reverse.map Prod.snd).map rotL).flatten = undStep ranks last rest := by rw [hG]; rfl
      generalize hgs : st.reverse.map Prod.snd = gs at hli hG hund
      rw [hli]
      have hfl : gs.flatten.length ≤ 100 ∧ gs.length ≤ 100 := by
        have rev : ∀ l : List (List Nat), l.reverse.flatten.length = l.flatten.length := fun l => by
          induction l with
          | nil => rfl
          | cons g l ih => rw [List.reverse_cons, List.flatten_append, List.length_append, ih, List.flatten_cons, List.length_append]; simp; omega
        have cnt : ∀ l : List Nat, ∀ s : List (List Nat), (l.foldl (grpG (uC ranks last) (uC ranks last (gN rest 0))) s).length ≤ s.length + l.length := fun l => by
          induction l with
          | nil => exact fun s => Nat.le_refl _
          | cons x l ih =>
            intro s
            have h1 := ih (grpG (uC ranks last) (uC ranks last (gN rest 0)) s x)
            have h2 : (grpG (uC ranks last) (uC ranks last (gN rest 0)) s x).length ≤ s.length + 1 := by
              unfold grpG
              split
              · simp
              · cases s <;> simp
            rw [List.foldl_cons, List.length_cons]; omega
        refine ⟨?_, ?_⟩
        · rw [hG, rev, hinv.1]; simp; omega
        · rw [hG, List.length_reverse]
          have := cnt rest []
          simp at this
          omega
      refine Tr.cons (SaT.newList rfl (.inl rfl) (by walk_at "subs")) (Tr.ex fun la2 => ?_)
      refine Tr.pre (P := Sa G (uEnv L code) s.heap.get? V s [(Str.ofString "left", .val (.ref la2)), (Str.ofString "parts", .list (gs.map fun g => .list (g.map natD))), (Str.ofString "back", .val (.ref ba)), (Str.ofString "ranks", .list (ranks.map natD))] [(la2, []), (ba, B.map natD ++ [natD last])]) ?_ fun V s p => p.weaken fun q hq => ?_
      rotate_left
      · simp only [List.mem_cons, List.not_mem_nil, or_false] at hq
        rcases hq with rfl | rfl | rfl | rfl <;> walk_at "var"
      refine Tr.last (Tr.post (und_join (last := last) R1.hh hfl.1 hfl.2) fun V s h => ?_)
      obtain ⟨a', p⟩ := h
      rw [hund] at p
      obtain ⟨ul, um⟩ := und_len ranks last rest
      refine ⟨rest.length, ⟨a', undStep ranks last rest, B ++ [last]⟩, by omega, ⟨ul, by simp; omega, fun x hx => hrest x (um x hx), ?_⟩, ?_⟩
      · rw [← h4, ← hlen]
        show _ = undoGo ranks rest.length (undStep ranks ((rest ++ [last]).getLastD 0) (rest ++ [last]).dropLast) (B ++ [(rest ++ [last]).getLastD 0])
        simp
      · dsimp only
        rw [List.map_append]
        exact p
    · refine Tr.preV (P := Sa G (uEnv L code) s.heap.get? V s [(Str.ofString "back", .list ((undoGo ranks row.length row []).map natD))] []) ?_ fun V1 s1 h => ?_
      rotate_left
      · obtain ⟨k, a, ⟨h1, h2, h3, h4⟩, hb, p⟩ := h
        have hL : a.L = [] := by
          cases q : a.L with
          | nil => rfl
          | cons x l => rw [q] at hb; simp at hb
        have hk : k = 0 := by rw [hL] at h1; simpa using h1.symm
        subst hk
        have hB : a.B = undoGo ranks row.length row [] := h4
        obtain ⟨o, _, _, rd, p2⟩ := (p.permM (List.Perm.swap _ _ _)).freezeM
        rw [hB] at rd
        have p3 := p2.reread (ρ' := [(Str.ofString "back", .list ((undoGo ranks row.length row []).map natD))]) fun q hq => by
          have : q = (Str.ofString "back", .list ((undoGo ranks row.length row []).map natD)) := by simpa using hq
          subst this
          exact .inr ⟨.ref ba, by walk_at "var", rd⟩
        obtain ⟨o', _, _, _, p4⟩ := p3.freezeM
        exact ⟨_, p4⟩
      have hlen : (undoGo ranks row.length row []).length ≤ 1000 := by
        have : ∀ k L B, (undoGo ranks k L B).length = B.length + k := fun k => by
          induction k with
          | zero => exact fun L B => rfl
          | succ k ih => intro L B; rw [undoGo, ih]; simp; omega
        rw [this]; simp; omega
      have e : (undoGo ranks row.length row []).reverse.map natD = pickD ((undoGo ranks row.length row []).map natD) none none (some (-1)) := by rw [pickD_rev, List.map_reverse]
      rw [e]
      exact Tr.last (SaT.ret (PE.slice Cx.stable (PE.name rfl (by walk_at "var")) PPart.none PPart.none (PPart.some (PE.neg PE.cInt)) (by decide) (by rw [List.length_map]; exact hlen) (fun x y => ⟨[.ref x, .ref y], by with_unfolding_all rfl⟩)) fun V s v p r => p.done r)
end
end FS
end
section
set_option linter.unusedVariables false
set_option maxRecDepth 100000
namespace FS
open PySem PySem.Calls PySem.W PyProof.Rows
local macro_rules | `(tactic| walk_at "subs") => `(tactic| repeat (first | exact Sub.nil | (apply Sub.skip; (focus decide)) | apply Sub.same))
local macro_rules | `(tactic| walk_at "var") => `(tactic| repeat (first | exact List.Mem.head _ | apply List.Mem.tail))

theorem hi_set (P : Params) : findIn (KT P) (.ref 249) "__setattr__" = some (some (.builtin "object.__setattr__")) := by kernel_rfl
theorem hi_over (P : Params) : plainOver (KT P) 249 = true := by kernel_rfl
theorem hi_take (P : Params) : takerIn (KT P) 249 "_headers" = some none := by kernel_rfl
theorem hi_has (P : Params) : (clsIn (KT P) 249).any (·.hasDict) = true := by kernel_rfl
theorem hi_makes (P : Params) : makesIn (KT P) 249 = true := by kernel_rfl
theorem hi_init (P : Params) : findIn (KT P) (.ref 249) "__init__" = some (some (.ref 141)) := by kernel_rfl
theorem hi_fn (P : Params) : typeIn (KT P) (.ref 141) = some (.type "function") := by kernel_rfl
theorem hi_keep (P : Params) : keepIn (KT P) (.ref 249) = true := by kernel_rfl
theorem hi_dflt (P : Params) : (KT P).lookup 134 = some (Obj.mk (Value.type "tuple") none (Data.seq #[Value.none]) #[]) := by kernel_rfl

section
variable {prog : Program} {w : World} {A : Around} {K : Frag} {C x dx : Addr} {s : Shared} {R : Result → Shared → Prop}
theorem osa_new {ox : Obj} {name : Str} {tk : Tok} {v : Value} (X : K.In s.heap) (I : InstAt s.heap x ox C (some emptyDict)) (hd : ox.dict = some dx) (hp : plainOver K C = true) (ht : takerIn K C name = some none) (hh : (clsIn K C).any (·.hasDict) = true)
    (h : R (.ok (.ret .none)) { s with heap := s.heap.update dx (Obj.putName name (PyData.keyHash w.params name) (.str name s.toks) v), toks := s.toks + 1 }) :
    codeAny (model prog w) A (.call (.builtin "object.__setattr__") ⟨[.ref x, .str name tk, v], []⟩) R s := by
  refine osa_open X I hp ht fun b => ?_
  obtain ⟨cd, hc, hd'⟩ := any_some hh
  obtain ⟨hx, hcl, hn, hdict⟩ := I
  obtain ⟨oc, odi, oda, osl⟩ := ox
  dsimp only at hcl hd hdict
  subst hcl hd
  have D : s.heap.get? dx = some emptyDict := hdict
  refine wpAny_bind (wpAny_pure (wpAny_bind (wpAny_bind (wpAny_loadPart hx (wpAny_bind ((looks_clsIn X hc).here ?_))))))
  rw [hd']
  refine wpAny_pure (a := some dx) (wpAny_bind (wpAny_pure (wpAny_bind ?_)))
  unfold nsSet
  refine wpAny_bind (wpAny_bind (wpAny_askSetting (wpAny_pure (wpAny_bind (wpAny_mkText (wpAny_bind (wpAny_loadPart D ?_)))))))
  dsimp only
  have c : (!(#[] : Array DictEntry).any (·.key.isStr name) && (#[] : Array DictEntry).any (·.refKey)) = false := by simp
  rw [aRefKeyMayBeTheName_at, c]
  refine wpAny_updatePart D ?_
  have D' : (s.heap.update dx (Obj.putName name (PyData.keyHash w.params name) (.str name s.toks) v)).get? dx = some (Obj.putName name (PyData.keyHash w.params name) (.str name s.toks) v emptyDict) := Heap.get?_update_self _ D (by rfl)
  have e : Obj.putName name (PyData.keyHash w.params name) (.str name s.toks) v emptyDict = dictOf (putL name (PyData.keyHash w.params name) (.str name s.toks) v []) (putN name [] 0) := putName_dict _ _ _ _ [] 0
  refine wpAny_bind (wpAny_lookBehind (D'.trans (congrArg some e)) (pastItsLine_dict (by rw [List.size_toArray, sizeLine_eq]; exact Nat.le_trans (show (putL name (PyData.keyHash w.params name) (.str name s.toks) v []).length ≤ 1 by exact Nat.le_refl _) (by decide))) ?_)
  exact wpAny_pure h
end
end FS
end
section
set_option linter.unusedVariables false
set_option maxRecDepth 100000
namespace FS
open PySem PySem.Calls PySem.W PyProof.Rows
local macro_rules | `(tactic| walk_at "subs") => `(tactic| repeat (first | exact Sub.nil | (apply Sub.skip; (focus decide)) | apply Sub.same))
local macro_rules | `(tactic| walk_at "var") => `(tactic| repeat (first | exact List.Mem.head _ | apply List.Mem.tail))
section
variable {prog : Program} {w : World} {A : Around} {G : Gd} {f : Addr} {st : Stmt} {qual : Str} {dV kV : Value} {d : D}
theorem fn_callC {args : List Value} {kw : List (Str × Value)} {binds : List (Str × Value)} {V : View} {s : Shared} {ρ : Vars} {μ : List (Addr × List D)} (F : FnAt G.h₁ f st qual dV kV) (hroom : A.depth < recursionLimit) (on : On V s.heap) (base : ∀ b o, G.h₁.get? b = some o → V b = some o)
    (hbind : ∀ doc pm code ct an, Looks (model prog w) s.heap (bindArgs (fdOf st qual dV kV doc pm code ct an) ⟨args, kw⟩) binds) (hloc : ∀ L, ∀ x ∈ binds, (fScope st).names.lookup x.1 = some .local ∨ ((fScope st).names.lookup x.1 = some .cell ∧ ((cellsFrom (L + 1) (fScope st).names []).lookup x.1).isSome = true))
    (hρ : ∀ L code, Bound (envOf st qual f L code) binds V ρ)
    (hmu : ∀ p ∈ μ, MutL V s.heap p.1 p.2) (hma : μ.Pairwise fun x y => x.1 ≠ y.1)
    {R : Result → Shared → Prop} {he : View} (gr : GrowK he V V s.heap) (hge : ∀ b, s.heap.objs.size ≤ b → he b = none) (hmo : ∀ p ∈ μ, he p.1 = none)
    (hbody : ∀ L code, Tr (model prog w) (A.deeper (envOf st qual f L code)) (Sa G (envOf st qual f L code) he V s ρ μ) (execs (fBody st) (envOf st qual f L code)) (fun V' s' => R (.ok (.ret .none)) s') (fun v V' s' => R (.ok (.ret v)) s'))
    (hco : (fScope st).isCoroutine = false := by rfl) (hgen : (fScope st).isGenerator = false := by rfl) (hkind : (fScope st).kind = .function := by rfl) :
    codeAny (model prog w) A (.call (.ref f) ⟨args, kw⟩) R s := by
  have old : ∀ b o, G.h₁.get? b = some o → s.heap.get? b = some o := fun b o e => on b o (base b o e)
  obtain ⟨doc, pm, code, ct, an, o, ho, hd, hcr⟩ := F
  refine codeAny_call_function hroom (old _ _ ho) hd hco hgen rfl (hcr.keeps old) ?_
  refine (hbind _ _ _ _ _).here (wpAny_newFunctionEnv_cells hkind (hloc _) fun env henv s' hin => ⟨?_, ?_⟩)
  · obtain ⟨h', tk, e, k⟩ := hin.done
    rw [e]; exact G.nolim.keeps fun b o e => k _ _ (old b o e)
  · obtain ⟨h', tk, e, k⟩ := hin.done
    have henv' : env = FS.envOf st qual f s.heap.objs.size code := henv
    subst henv'
    have keep : ∀ b o, s.heap.get? b = some o → s'.heap.get? b = some o := hin.toInCall.keep
    have noneV : ∀ b, s.heap.objs.size ≤ b → V b = none := fun b hb => by
      cases q : V b with
      | none => rfl
      | some o' => exact absurd (on.lt q) (Nat.not_lt.mpr hb)
    have P : Sa G (FS.envOf st qual f s.heap.objs.size code) he V s ρ μ V s' :=
      { on := on.mono keep
        cx := ⟨base, fun p hp => by
            obtain ⟨v, r, q⟩ := hρ s.heap.objs.size code p hp
            refine ⟨v, ?_, r⟩
            rcases q with ⟨q1, q2⟩ | ⟨q1, c, q2, q3⟩
            · exact .inl ⟨q1, _, hin.toInCall.ns, q2⟩
            · exact .inr ⟨.inl q1, c, q2, q3 ▸ hin.cell _ c q2⟩, fun p hp => (hmu p hp).grow (.skip on keep)⟩
        gr := gr.trans (.skip on keep)
        rest := by rw [e]
        loc := ⟨noneV _ (Nat.le_refl _), hge _ (Nat.le_refl _)⟩
        locNs := ⟨_, hin.toInCall.ns⟩
        cel := fun x c hc => by
          have hle : s.heap.objs.size ≤ c := Nat.le_of_succ_le (cellsFrom_ge _ _ [] (s.heap.objs.size + 1) (Nat.le_refl _) (fun _ h => nomatch h) _ (mem_of_lookup hc))
          exact ⟨noneV _ hle, hge _ hle, _, hin.cell _ _ hc⟩
        apart := hin.apart
        muOwn := hmo
        muApart := hma }
    exact codeAny_func (hbody _ _ V s' P _ _ (fun V' s'' q => q) fun v V' s'' q => q)
end
theorem GrowK.top {k V0 V V' : View} {h h' : Heap} (g : GrowK k V0 V h) (g2 : GrowK k V V' h') : GrowK k V0 V' h' :=
  ⟨g2.keep, fun b o e => g2.sub b o (g.sub b o e), g2.on, fun b o e => (g2.new b o e).elim (fun q => g.new b o q) .inr⟩
section
variable {prog : Program} {w : World} {A : Around} {G : Gd} {env : Env} {he V0 V : View} {s0 s : Shared} {ρ ρ' : Vars} {μ : List (Addr × List D)} {R : Value → Asn} {ds : List D} {l : Addr} {n : Nat}
theorem Sa.top (p : Sa G env he V0 s0 ρ μ V s) : Sa G env he V s0 ρ μ V s :=
  { on := p.on, cx := p.cx, gr := ⟨p.gr.keep, fun _ _ e => e, p.on, fun _ _ e => .inl e⟩, rest := p.rest, loc := p.loc, locNs := p.locNs, cel := p.cel, apart := p.apart, muOwn := p.muOwn, muApart := p.muApart }
theorem Sa.under {V1 : View} {s1 : Shared} (p : Sa G env he V0 s0 ρ μ V s) (q : Sa G env he V s0 ρ' μ V1 s1) : Sa G env he V0 s0 ρ' μ V1 s1 :=
  { on := q.on, cx := q.cx, gr := p.gr.top q.gr, rest := q.rest, loc := q.loc, locNs := q.locNs, cel := q.cel, apart := q.apart, muOwn := q.muOwn, muApart := q.muApart }
theorem PEF.ifFalse {I : View → Heap → Prop} {t a b : Expr} {pos : Pos} (st : Stable I) (h1 : PB (model prog w) A I (isTrue t env (eval t env)) false) (h3 : PEF (model prog w) A I (eval b env) ds) : PEF (model prog w) A I (eval (.IfExp t a b pos) env) ds :=
  fun V s on i Q E k => wpAny_IfExp (h1 V s on i _ E fun V1 s1 t1 g1 => h3 V1 _ g1.on (st _ _ _ _ i g1) Q E fun a V2 s2 t2 g2 hn m => k a V2 s2 t2 (g1.trans g2) (by
    cases q : s.heap.get? a with
    | none => rfl
    | some o => exact absurd (g1.keep a o q) (by
        show ¬ s1.get? a = some o
        have hn' : s1.get? a = none := hn
        rw [hn']; intro z; cases z)) m)
theorem SaT.forEmpty {target iter : Expr} {body : List Stmt} {pos : Pos} (hh : A.handled = none) (hit : PE (model prog w) A (Cx G env ρ μ) (eval iter env) (.val (.ref l))) (hm : (l, []) ∈ μ) (hs : ∀ x, foldedSetIterable iter env x = pure x := by intro _; rfl) :
    SaT (model prog w) A G env he V0 s0 ρ μ (exec (.For target iter body [] pos) env) ρ μ R := fun V s p Q E n r => by
  refine wpAny_For (hit V s p.on p.cx _ E fun v V1 h1 t1 g1 r1 => ItbG.mut hh hm V1 _ v g1.on ((p.grow (tk := t1) g1).cx) r1 _ E fun o St P hf it hP st => ?_) hs
  have p1 := p.grow (tk := t1) g1
  have hI1 : h1.get? h1.objs.size = none := none_ge _ (Nat.le_refl _)
  have hV1I : V1 h1.objs.size = none := g1.on.none hI1
  have heI : he h1.objs.size = none := by
    cases q : he h1.objs.size with
    | none => rfl
    | some o => rw [p1.gr.keep _ o q] at hI1; cases hI1
  have hIl : h1.objs.size ≠ env.locals := by
    obtain ⟨m, o', es, ep, ho, _⟩ := p1.locNs
    rintro z; rw [← z] at ho; exact absurd ho (by rw [show _ = h1.get? h1.objs.size from rfl, hI1]; simp)
  have hIc : ∀ x c, env.cells.lookup x = some c → h1.objs.size ≠ c := by
    rintro x c hc rfl
    obtain ⟨_, _, u, o', ho, _⟩ := p1.cel x _ hc
    exact absurd ho (by rw [show _ = h1.get? h1.objs.size from rfl, hI1]; simp)
  have hIm : ∀ q ∈ μ, q.1 ≠ h1.objs.size := by
    rintro q hq z
    obtain ⟨items, ⟨o', ho⟩, _⟩ := p1.cx.mu q hq
    rw [z] at ho
    exact absurd ho (by rw [show _ = h1.get? h1.objs.size from rfl, hI1]; simp)
  have p2 := p1.grow (tk := t1) (Grow.pushSkip g1.on o)
  refine codeAny_forLoop_any (fun k s' => s' = { s with heap := h1.push o, toks := t1 }) ?_ 0 rfl
  rintro k s' rfl
  refine it.done V1 _ _ _ p2.on (fun _ _ e => e) st fun h4 tk4 ex4 => ?_
  refine wpAny_execs_nil ?_
  exact n V1 _ ((p2.change ex4 heI hV1I hIl hIc hIm).grow (tk := tk4) (Grow.refl (p2.change ex4 heI hV1I hIl hIc hIm).on))
noncomputable def iS (i : Nat) : Stmt := ((fBody (mth 14 0))[i]?).getD (.Pass ⟨0, 0, 0, 0⟩)
noncomputable abbrev iEnv (L' : Addr) (code : Value) : Env := envOf (mth 14 0) "Headers.__init__" 141 L' code
theorem put2 {V : View} {x dx : Addr} {ox od : Obj} (hne : x ≠ dx) : (View.put (View.put V dx od) x ox) x = some ox ∧ (View.put (View.put V dx od) x ox) dx = some od :=
  ⟨View.put_self _ _ _, by
    unfold View.put
    rw [if_neg (Ne.symm hne), if_pos rfl]⟩
theorem init_ok (F : GF w G) (Rm : Room A (n + 1)) {x dx : Addr} (on : On V s.heap) (base : ∀ b o, G.h₁.get? b = some o → V b = some o) (hx : s.heap.get? x = some (heldObj dx)) (hdx : s.heap.get? dx = some emptyDict) (vx : V x = none) (vdx : V dx = none) (hne : x ≠ dx)
    (gr : GrowK he V V s.heap) (ex : he x = none) (edx : he dx = none) (hge : ∀ b, s.heap.objs.size ≤ b → he b = none) {RR : Result → Shared → Prop}
    (k : ∀ l V' h' tk, GrowK he V V' h' → Rd V' (.ref x) (.held l) → MutL V' h' l [] → he l = none → RR (.ok (.ret .none)) { s with heap := h', toks := tk }) : codeAny (model pw w) A (.call (.ref 141) ⟨[.ref x], []⟩) RR s := by
  have sub1 : ∀ b o, V b = some o → (V.put dx emptyDict) b = some o := View.put_sub _ vdx
  have vx1 : (V.put dx emptyDict) x = none := by unfold View.put; rw [if_neg hne]; exact vx
  have sub : ∀ b o, V b = some o → ((V.put dx emptyDict).put x (heldObj dx)) b = some o := fun b o e => View.put_sub _ vx1 b o (sub1 b o e)
  have onW : On ((V.put dx emptyDict).put x (heldObj dx)) s.heap := ((gr.freeze hdx edx vdx).freeze hx ex vx1).on
  have hW := put2 (V := V) (ox := heldObj dx) (od := emptyDict) hne
  have new : ∀ b o, ((V.put dx emptyDict).put x (heldObj dx)) b = some o → V b = some o ∨ he b = none := ((gr.freeze hdx edx vdx).freeze hx ex vx1).new
  generalize (V.put dx emptyDict).put x (heldObj dx) = W at sub onW hW new
  have baseW : ∀ b o, G.h₁.get? b = some o → W b = some o := fun b o e => sub b o (base b o e)
  refine fn_callC (R := RR) (ρ := [(Str.ofString "self", .val (.ref x)), (Str.ofString "headers", .none)]) (μ := []) (binds := [(Str.ofString "self", .ref x), (Str.ofString "headers", .none)]) (V := W) F.f_init Rm.lt onW baseW ?_ ?_ ?_ (fun _ h => nomatch h) .nil (he := he) ⟨gr.keep, fun _ _ e => e, onW, fun _ _ e => .inl e⟩ hge (fun _ h => nomatch h) ?_
  · intro doc pm code ct an A' Q' E' s' kp q
    have ho := kp _ _ (onW _ _ (baseW _ _ (F.kin _ _ (hi_dflt w.params))))
    exact BindsTo.of_defaults (T := 134) (items := #[.none]) rfl ho rfl rfl rfl _ _ _ _ q
  · intro L p hp
    simp only [List.mem_cons, List.not_mem_nil, or_false] at hp
    rcases hp with rfl | rfl <;> exact .inl rfl
  · intro L code p hp
    simp only [List.mem_cons, List.not_mem_nil, or_false] at hp
    rcases hp with rfl | rfl
    · exact ⟨_, .val _, .inl ⟨rfl, rfl⟩⟩
    · exact ⟨_, .none, .inl ⟨rfl, rfl⟩⟩
  · intro L code
    have R1 := Rm.deeper (iEnv L code)
    refine Tr.cons (SaT.assignF (ds := []) rfl (.inl rfl) (PEF.ifFalse Cx.stable (PB.compare Cx.stable (PE.name (d := .none) rfl (by walk_at "var")) PE.cNone (op_isnot_none false none_isNone)) (PEF.lit PL.nil (by simp))) (by walk_at "subs")) (Tr.ex fun l => ?_)
    refine Tr.cons (SaT.if_ (c := false) (PB.thaw (ρ' := [(Str.ofString "headers", .list [])]) (fun q hq => ?_) (PB.compare Cx.stable (PE.call Cx.stable (PE.blt rfl rfl rfl rfl F.b_type.1 F.b_type.2) (fun _ _ _ _ => keeps_type) (PL.cons Cx.stable (PE.name rfl (by walk_at "var")) PL.nil) op_type_list) (PE.blt rfl rfl rfl rfl F.b_list.1 F.b_list.2) op_isnot_type)) (fun hc => nomatch hc) (fun hc => Tr.nil fun _ _ n => n)) ?_
    · have : q = (Str.ofString "headers", .list []) := by simpa using hq
      subst this
      exact .inr ⟨by walk_at "var", rfl⟩
    refine Tr.cons (N := fun V3 s3 => Sa G (iEnv L code) he V s [(Str.ofString "headers", .val (.ref l))] [(l, [])] V3 s3 ∧ Rd V3 (.ref x) (.held l)) (fun V2 s2 p2 Q2 E2 n2 r2 => ?_) ?_
    · have hA : ∀ px, PE (model pw w) (A.deeper (iEnv L code)) (Cx G (iEnv L code) [(Str.ofString "headers", .val (.ref l)), (Str.ofString "self", .val (.ref x))] [(l, [])]) (eval (.Name (Str.ofString "headers") px) (iEnv L code)) (.val (.ref l)) := fun px => PE.name rfl (by walk_at "var")
      have hB : ∀ px, PE (model pw w) (A.deeper (iEnv L code)) (Cx G (iEnv L code) [(Str.ofString "headers", .val (.ref l)), (Str.ofString "self", .val (.ref x))] [(l, [])]) (eval (.Name (Str.ofString "self") px) (iEnv L code)) (.val (.ref x)) := fun px => PE.name rfl (by walk_at "var")
      refine plainObj_wpAny_Assign_Attribute ?_ (by rfl)
      refine hA _ V2 s2 p2.on p2.cx _ _ fun v Va ha ta ga ra => ?_
      have pa := p2.grow (tk := ta) ga
      refine hB _ Va _ pa.on pa.cx _ _ fun v' Vb hb tb gb rb => ?_
      have pb := pa.grow (tk := tb) gb
      have : v = .ref l := by cases ra; rfl
      subst this
      have : v' = .ref x := by cases rb; rfl
      subst this
      have bx : Vb x = some (heldObj dx) := pb.gr.sub _ _ hW.1
      have bdx : Vb dx = some emptyDict := pb.gr.sub _ _ hW.2
      have K1 : (KT w.params).In hb := F.kin.keeps (pb.cx.old pb.on)
      have I1 : InstAt hb x (heldObj dx) 249 (some emptyDict) := ⟨pb.on _ _ bx, rfl, rfl, pb.on _ _ bdx⟩
      dsimp only
      refine set_plain K1 I1 (hi_set _) (osa_new K1 I1 rfl (hi_over _) (hi_take _) (hi_has _) ?_)
      dsimp only
      have hD : hb.get? dx = some emptyDict := pb.on _ _ bdx
      have D' := Heap.get?_update_self (Obj.putName (Str.ofString "_headers") (PyData.keyHash w.params (Str.ofString "_headers")) (.str (Str.ofString "_headers") (tb + 1)) (.ref l)) hD (by rfl)
      have exB : Heap.ExtBut dx hb (hb.update dx (Obj.putName (Str.ofString "_headers") (PyData.keyHash w.params (Str.ofString "_headers")) (.str (Str.ofString "_headers") (tb + 1)) (.ref l))) := (Heap.SameBut.update ..).extBut
      have hO : ∃ hs t n, Obj.putName (Str.ofString "_headers") (PyData.keyHash w.params (Str.ofString "_headers")) (.str (Str.ofString "_headers") (tb + 1)) (.ref l) emptyDict = heldDict l hs t n := ⟨_, _, _, rfl⟩
      generalize hb.update dx _ = h3 at D' exB ⊢
      generalize Obj.putName (Str.ofString "_headers") _ _ _ emptyDict = oD at D' hO
      obtain ⟨hs, tkn, nn, rfl⟩ := hO
      -- the view without the old dict, then with the new one
      have ll : dx ≠ (iEnv L code).locals := fun z => by have := pb.loc.1; rw [← z, bdx] at this; cases this
      have lc : ∀ y c, (iEnv L code).cells.lookup y = some c → dx ≠ c := fun y c hc z => by have := (pb.cel y c hc).1; rw [← z, bdx] at this; cases this
      have lm : l ≠ dx := fun z => by
        obtain ⟨_, _, _, hv⟩ := pb.cx.mu (l, []) (.head _)
        dsimp only at hv
        rw [z, bdx] at hv; cases hv
      have nV : ∀ b, b ≠ dx → (fun b => if b = dx then some (heldDict l hs tkn nn) else Vb b) b = Vb b := fun b hb => if_neg hb
      have sV : (fun b => if b = dx then some (heldDict l hs tkn nn) else Vb b) dx = some (heldDict l hs tkn nn) := if_pos rfl
      generalize (fun b => if b = dx then some (heldDict l hs tkn nn) else Vb b) = V3 at nV sV
      have g3 : GrowK he V V3 h3 :=
        { keep := fun b o e => exB b o (fun z => by subst z; rw [edx] at e; cases e) (pb.gr.keep b o e)
          sub := fun b o e => by
            have hb' : b ≠ dx := fun z => by subst z; rw [vdx] at e; cases e
            rw [nV b hb']
            exact pb.gr.sub b o (sub b o e)
          on := fun b o e => by
            by_cases hb' : b = dx
            · subst hb'; rw [sV] at e; cases e; exact D'
            · rw [nV b hb'] at e; exact exB b o hb' (pb.on b o e)
          new := fun b o e => by
            by_cases hb' : b = dx
            · subst hb'; exact .inr edx
            · rw [nV b hb'] at e
              rcases pb.gr.new b o e with q | q
              · exact new b o q
              · exact .inr q }
      refine n2 V3 _ ⟨?_, .held (dx := dx) (hs := hs) (t := tkn) (n := nn) ((nV x hne).trans bx) sV⟩
      exact
        { on := g3.on
          cx :=
            { base := fun b o e => g3.sub b o (base b o e)
              fm := fun q hq => by
                have : q = (Str.ofString "headers", .val (.ref l)) := by simpa using hq
                subst this
                obtain ⟨u, at', r⟩ := pb.cx.fm (Str.ofString "headers", .val (.ref l)) (by walk_at "var")
                refine ⟨u, ?_, r.ofFlat rfl⟩
                rcases at' with ⟨e, m0, n0, z⟩ | ⟨_, c, lk, _⟩
                · exact .inl ⟨e, m0, n0.at' fun o ho => exB _ o (Ne.symm ll) ho, z⟩
                · exact nomatch lk
              mu := fun q hq => by
                have : q = (l, []) := by simpa using hq
                subst this
                obtain ⟨items, ⟨kk, ho⟩, r, hv⟩ := pb.cx.mu (l, []) (.head _)
                dsimp only at ho r hv ⊢
                cases r
                exact ⟨[], ⟨kk, exB _ _ lm ho⟩, .nil, by rw [nV l lm]; exact hv⟩ }
          gr := g3
          rest := by rw [p2.rest]
          loc := ⟨by rw [nV _ (Ne.symm ll)]; exact pb.loc.1, pb.loc.2⟩
          locNs := let ⟨m0, n0⟩ := pb.locNs; ⟨m0, n0.at' fun o ho => exB _ o (Ne.symm ll) ho⟩
          cel := fun y c hc => nomatch hc
          apart := pb.apart
          muOwn := pb.muOwn
          muApart := pb.muApart }
    · intro V3 s3 ⟨p3, rd⟩
      have hT : Tr (model pw w) (A.deeper (iEnv L code)) (Sa G (iEnv L code) he V3 s [(Str.ofString "headers", .val (.ref l))] [(l, [])]) (execs [iS 3] (iEnv L code)) (fun V' s' => Sa G (iEnv L code) he V3 s [(Str.ofString "headers", .val (.ref l))] [(l, [])] V' s') (fun _ _ _ => False) :=
        Tr.last (SaT.if_ (c := true) (PB.plain PE.cBool) (fun _ => Tr.last (SaT.forEmpty R1.hh (PE.name rfl (by walk_at "var")) (.head _))) (fun hc => nomatch hc))
      intro Q3 E3 n3 r3
      refine hT V3 s3 p3.top Q3 E3 (fun V4 s4 p4 => n3 V4 s4 ?_) fun _ _ _ z => z.elim
      rw [p4.rest]
      exact k l V4 _ _ (p3.gr.top p4.gr) (rd.mono p4.gr.sub) (p4.cx.mu _ (.head _)) (p4.muOwn (l, []) (.head _))
end
end FS
end
section
set_option linter.unusedVariables false
set_option maxRecDepth 100000
namespace FS
open PySem PySem.Calls PySem.W PyProof.Rows
theorem units_make (A : Around) (C : Addr) (vals : List Value) : (A.under (.builtin "type.__call__" ⟨.ref C :: vals, []⟩)).units = A.units + 1 := rfl
theorem depth_make (A : Around) (C : Addr) (vals : List Value) : (A.under (.builtin "type.__call__" ⟨.ref C :: vals, []⟩)).depth = A.depth + 1 := rfl
section
variable {w : World} {A : Around} {G : Gd} {env : Env} {he V0 V : View} {s0 s : Shared} {ρ ρ' : Vars} {R : Value → Asn} {n : Nat}
theorem make_ok (F : GF w G) (Rm : Room A (n + 2)) (on : On V s.heap) (base : ∀ b o, G.h₁.get? b = some o → V b = some o) {Q : Value → Shared → Prop} {E : Value → Shared → Prop}
    (k : ∀ x l V' h' tk, Grow s.heap V V' h' → Rd V' (.ref x) (.held l) → MutL V' h' l [] → s.heap.get? l = none → Q (.ref x) { s with heap := h', toks := tk }) : wpAny (model pw w) A (call (.ref 249) []) Q E s := by
  obtain ⟨h, g, d, t, os⟩ := s
  dsimp only at on k ⊢
  have X : (KT w.params).In h := F.kin.keeps fun b o e => on b o (base b o e)
  have Rm' : Room (A.under (.builtin "type.__call__" ⟨[.ref 249], []⟩)) (n + 1) := ⟨by rw [depth_make]; have := Rm.dep; omega, Rm.hh, by rw [units_make]; have := Rm.un; omega⟩
  refine wpAny_call (make_core (makes_of X (hi_makes _)) (looks_findIn X (hi_init _)) (fun self => bind_fn X self (hi_fn _)) (.inl rfl) ?_)
  have g1 : Grow h V V (h.push emptyDict) := .pushSkip on _
  have hs1 : (h.push emptyDict).objs.size = h.objs.size + 1 := by rw [Heap.size_push]
  have g2 : Grow (h.push emptyDict) V V ((h.push emptyDict).push (instObj 249 h.objs.size)) := .pushSkip g1.on _
  have g3 := g1.trans g2
  have hx : ((h.push emptyDict).push (instObj 249 h.objs.size)).get? (h.objs.size + 1) = some (heldObj h.objs.size) := by
    rw [← hs1]; exact Heap.get?_push_size _ rfl
  have hdx : ((h.push emptyDict).push (instObj 249 h.objs.size)).get? h.objs.size = some emptyDict := g2.keep _ _ (Heap.get?_push_size _ rfl)
  have nx : h.get? (h.objs.size + 1) = none := none_ge _ (Nat.le_succ _)
  have ndx : h.get? h.objs.size = none := none_ge _ (Nat.le_refl _)
  have sz : ((h.push emptyDict).push (instObj 249 h.objs.size)).objs.size = h.objs.size + 2 := by rw [Heap.size_push, hs1]
  refine init_ok (s := ⟨(h.push emptyDict).push (instObj 249 h.objs.size), g, d, t, os⟩) (he := h.get?) F Rm' (V := V) g3.on base hx hdx (on.none nx) (on.none ndx) (Nat.succ_ne_self _) ⟨g3.keep, fun _ _ e => e, g3.on, fun _ _ e => .inl e⟩ nx ndx (fun b hb => none_ge _ (by dsimp only at hb; rw [sz] at hb; omega)) fun l V' h' tk g4 rd m el => ?_
  exact ⟨rfl, k (h.objs.size + 1) l V' h' tk g4 rd m el⟩
/-- held = Headers() -/
theorem SaT.newHeld {x f : Str} {np p' pos pos' : Pos} (F : GF w G) (Rm : Room A (n + 2)) (hk : env.scope.kind = .function) (hx : env.kindOf x = some .local ∨ (env.kindOf x = some .cell ∧ (env.cells.lookup x).isSome = true)) (hs : Sub x ρ ρ')
    (hf : PE (model pw w) A (Cx G env ρ []) (eval (.Name f np) env) (.val (.ref 249))) (hw : swapsWith (.Call (.Name f np) [] [] pos) (some (.Name x p')) pos'.line env = pure false := by rfl) :
    Tr (model pw w) A (Sa G env he V0 s0 ρ []) (exec (.Assign [.Name x p'] (.Call (.Name f np) [] [] pos) pos') env) (fun V s => ∃ l, Sa G env he V0 s0 ((x, .held l) :: ρ') [(l, [])] V s) R := fun V s p Q E n r => by
  refine wpAny_Assign_Name (wpAny_Call_NameR (hf V s p.on p.cx _ E fun v V1 h1 t1 g1 r1 => ?_)) hw
  have : v = .ref 249 := by cases r1; rfl
  subst this
  have p1 := p.grow (tk := t1) g1
  refine callWith_of (P := fun h => Keeps1 (model pw w) (.ref 249) h) rfl (fun h x => x) (evalArgs_nil3 ⟨?_, ?_⟩)
  · obtain ⟨k, a, b⟩ := looks_keep (M := model pw w) (hi_keep w.params) (F.kin.keeps (p1.cx.old p1.on))
    exact ⟨k, a.elim .inl (fun e => .inr (.inl e)), b⟩
  · refine make_ok F Rm p1.on p1.cx.base fun x0 l V' h' tk g4 rd m el => ?_
    exact (p1.addM (tk := tk) g4 el m).store hk hx rd hs fun h'' tk' q _ => n V' _ ⟨l, q⟩
end
end FS
end
section
set_option linter.unusedVariables false
set_option maxRecDepth 100000
namespace FS
open PySem PySem.Calls PySem.W PyProof.Rows

noncomputable def takeR (ranks : List Nat) (k : Nat) (L : LS) : LS := takeL (fun i => decide (gN ranks k < gN ranks i)) k (k % 2 == 1) L
noncomputable def stepsL (ranks : List Nat) : Nat → LS
  | 0 => []
  | k + 1 => takeR ranks k (stepsL ranks k)
noncomputable def insO (ranks : List Nat) (i : Nat) : List Nat → List Nat
  | [] => [i]
  | j :: l => if 1000 * gN ranks i + i < 1000 * gN ranks j + j then i :: j :: l else j :: insO ranks i l
noncomputable def ordOf (ranks : List Nat) : List Nat := (List.range ranks.length).foldl (fun l i => insO ranks i l) []
noncomputable def okAt (ranks : List Nat) (L : LS) : Bool :=
  (L.map Prod.snd).isPerm (List.range ranks.length) && L.all (fun e => e.1 == (ranks.length % 2 == 0)) && (ordOf ranks).isPerm (List.range ranks.length) &&
  decide ((ordOf ranks).Pairwise fun i j => 1000 * gN ranks i + i < 1000 * gN ranks j + j) && idxOkN (L.map Prod.snd) (ordOf ranks) &&
  decide (((pairsN (L.map Prod.snd) ranks : Nat) : Int) = (fallsL ranks ranks.length).sum) && ((undoGo ranks ranks.length (L.map Prod.snd) []).reverse == List.range ranks.length)
noncomputable def treeP : Nat → List Nat → LS → Bool
  | 0, ranks, L => okAt ranks L
  | f + 1, ranks, L => okAt ranks L && ([0, 1, 2, 3].all fun r => treeP f (ranks ++ [r]) (takeR (ranks ++ [r]) ranks.length L))
noncomputable def L3 : LS := stepsL [2, 0, 1] 3
theorem small_perm : ((stepsL [2, 0, 1] 0).map Prod.snd).isPerm (List.range 0) = true ∧ ((stepsL [2, 0, 1] 1).map Prod.snd).isPerm (List.range 1) = true ∧ ((stepsL [2, 0, 1] 2).map Prod.snd).isPerm (List.range 2) = true := by decide +kernel
theorem node_root : okAt [2, 0, 1] L3 = true := by decide +kernel
theorem tr_000 : treeP 2 [2, 0, 1, 0, 0, 0] (stepsL [2, 0, 1, 0, 0, 0] 6) = true := by decide +kernel
theorem tr_001 : treeP 2 [2, 0, 1, 0, 0, 1] (stepsL [2, 0, 1, 0, 0, 1] 6) = true := by decide +kernel
theorem tr_002 : treeP 2 [2, 0, 1, 0, 0, 2] (stepsL [2, 0, 1, 0, 0, 2] 6) = true := by decide +kernel
theorem tr_003 : treeP 2 [2, 0, 1, 0, 0, 3] (stepsL [2, 0, 1, 0, 0, 3] 6) = true := by decide +kernel
theorem tr_010 : treeP 2 [2, 0, 1, 0, 1, 0] (stepsL [2, 0, 1, 0, 1, 0] 6) = true := by decide +kernel
theorem tr_011 : treeP 2 [2, 0, 1, 0, 1, 1] (stepsL [2, 0, 1, 0, 1, 1] 6) = true := by decide +kernel
theorem tr_012 : treeP 2 [2, 0, 1, 0, 1, 2] (stepsL [2, 0, 1, 0, 1, 2] 6) = true := by decide +kernel
theorem tr_013 : treeP 2 [2, 0, 1, 0, 1, 3] (stepsL [2, 0, 1, 0, 1, 3] 6) = true := by decide +kernel
theorem tr_020 : treeP 2 [2, 0, 1, 0, 2, 0] (stepsL [2, 0, 1, 0, 2, 0] 6) = true := by decide +kernel
theorem tr_021 : treeP 2 [2, 0, 1, 0, 2, 1] (stepsL [2, 0, 1, 0, 2, 1] 6) = true := by decide +kernel
theorem tr_022 : treeP 2 [2, 0, 1, 0, 2, 2] (stepsL [2, 0, 1, 0, 2, 2] 6) = true := by decide +kernel
theorem tr_023 : treeP 2 [2, 0, 1, 0, 2, 3] (stepsL [2, 0, 1, 0, 2, 3] 6) = true := by decide +kernel
theorem tr_030 : treeP 2 [2, 0, 1, 0, 3, 0] (stepsL [2, 0, 1, 0, 3, 0] 6) = true := by decide +kernel
theorem tr_031 : treeP 2 [2, 0, 1, 0, 3, 1] (stepsL [2, 0, 1, 0, 3, 1] 6) = true := by decide +kernel
theorem tr_032 : treeP 2 [2, 0, 1, 0, 3, 2] (stepsL [2, 0, 1, 0, 3, 2] 6) = true := by decide +kernel
theorem tr_033 : treeP 2 [2, 0, 1, 0, 3, 3] (stepsL [2, 0, 1, 0, 3, 3] 6) = true := by decide +kernel
theorem tr_100 : treeP 2 [2, 0, 1, 1, 0, 0] (stepsL [2, 0, 1, 1, 0, 0] 6) = true := by decide +kernel
theorem tr_101 : treeP 2 [2, 0, 1, 1, 0, 1] (stepsL [2, 0, 1, 1, 0, 1] 6) = true := by decide +kernel
theorem tr_102 : treeP 2 [2, 0, 1, 1, 0, 2] (stepsL [2, 0, 1, 1, 0, 2] 6) = true := by decide +kernel
theorem tr_103 : treeP 2 [2, 0, 1, 1, 0, 3] (stepsL [2, 0, 1, 1, 0, 3] 6) = true := by decide +kernel
theorem tr_110 : treeP 2 [2, 0, 1, 1, 1, 0] (stepsL [2, 0, 1, 1, 1, 0] 6) = true := by decide +kernel
theorem tr_111 : treeP 2 [2, 0, 1, 1, 1, 1] (stepsL [2, 0, 1, 1, 1, 1] 6) = true := by decide +kernel
theorem tr_112 : treeP 2 [2, 0, 1, 1, 1, 2] (stepsL [2, 0, 1, 1, 1, 2] 6) = true := by decide +kernel
theorem tr_113 : treeP 2 [2, 0, 1, 1, 1, 3] (stepsL [2, 0, 1, 1, 1, 3] 6) = true := by decide +kernel
theorem tr_120 : treeP 2 [2, 0, 1, 1, 2, 0] (stepsL [2, 0, 1, 1, 2, 0] 6) = true := by decide +kernel
theorem tr_121 : treeP 2 [2, 0, 1, 1, 2, 1] (stepsL [2, 0, 1, 1, 2, 1] 6) = true := by decide +kernel
theorem tr_122 : treeP 2 [2, 0, 1, 1, 2, 2] (stepsL [2, 0, 1, 1, 2, 2] 6) = true := by decide +kernel
theorem tr_123 : treeP 2 [2, 0, 1, 1, 2, 3] (stepsL [2, 0, 1, 1, 2, 3] 6) = true := by decide +kernel
theorem tr_130 : treeP 2 [2, 0, 1, 1, 3, 0] (stepsL [2, 0, 1, 1, 3, 0] 6) = true := by decide +kernel
theorem tr_131 : treeP 2 [2, 0, 1, 1, 3, 1] (stepsL [2, 0, 1, 1, 3, 1] 6) = true := by decide +kernel
theorem tr_132 : treeP 2 [2, 0, 1, 1, 3, 2] (stepsL [2, 0, 1, 1, 3, 2] 6) = true := by decide +kernel
theorem tr_133 : treeP 2 [2, 0, 1, 1, 3, 3] (stepsL [2, 0, 1, 1, 3, 3] 6) = true := by decide +kernel
theorem tr_200 : treeP 2 [2, 0, 1, 2, 0, 0] (stepsL [2, 0, 1, 2, 0, 0] 6) = true := by decide +kernel
theorem tr_201 : treeP 2 [2, 0, 1, 2, 0, 1] (stepsL [2, 0, 1, 2, 0, 1] 6) = true := by decide +kernel
theorem tr_202 : treeP 2 [2, 0, 1, 2, 0, 2] (stepsL [2, 0, 1, 2, 0, 2] 6) = true := by decide +kernel
theorem tr_203 : treeP 2 [2, 0, 1, 2, 0, 3] (stepsL [2, 0, 1, 2, 0, 3] 6) = true := by decide +kernel
theorem tr_210 : treeP 2 [2, 0, 1, 2, 1, 0] (stepsL [2, 0, 1, 2, 1, 0] 6) = true := by decide +kernel
theorem tr_211 : treeP 2 [2, 0, 1, 2, 1, 1] (stepsL [2, 0, 1, 2, 1, 1] 6) = true := by decide +kernel
theorem tr_212 : treeP 2 [2, 0, 1, 2, 1, 2] (stepsL [2, 0, 1, 2, 1, 2] 6) = true := by decide +kernel
theorem tr_213 : treeP 2 [2, 0, 1, 2, 1, 3] (stepsL [2, 0, 1, 2, 1, 3] 6) = true := by decide +kernel
theorem tr_220 : treeP 2 [2, 0, 1, 2, 2, 0] (stepsL [2, 0, 1, 2, 2, 0] 6) = true := by decide +kernel
theorem tr_221 : treeP 2 [2, 0, 1, 2, 2, 1] (stepsL [2, 0, 1, 2, 2, 1] 6) = true := by decide +kernel
theorem tr_222 : treeP 2 [2, 0, 1, 2, 2, 2] (stepsL [2, 0, 1, 2, 2, 2] 6) = true := by decide +kernel
theorem tr_223 : treeP 2 [2, 0, 1, 2, 2, 3] (stepsL [2, 0, 1, 2, 2, 3] 6) = true := by decide +kernel
theorem tr_230 : treeP 2 [2, 0, 1, 2, 3, 0] (stepsL [2, 0, 1, 2, 3, 0] 6) = true := by decide +kernel
theorem tr_231 : treeP 2 [2, 0, 1, 2, 3, 1] (stepsL [2, 0, 1, 2, 3, 1] 6) = true := by decide +kernel
theorem tr_232 : treeP 2 [2, 0, 1, 2, 3, 2] (stepsL [2, 0, 1, 2, 3, 2] 6) = true := by decide +kernel
theorem tr_233 : treeP 2 [2, 0, 1, 2, 3, 3] (stepsL [2, 0, 1, 2, 3, 3] 6) = true := by decide +kernel
theorem tr_300 : treeP 2 [2, 0, 1, 3, 0, 0] (stepsL [2, 0, 1, 3, 0, 0] 6) = true := by decide +kernel
theorem tr_301 : treeP 2 [2, 0, 1, 3, 0, 1] (stepsL [2, 0, 1, 3, 0, 1] 6) = true := by decide +kernel
theorem tr_302 : treeP 2 [2, 0, 1, 3, 0, 2] (stepsL [2, 0, 1, 3, 0, 2] 6) = true := by decide +kernel
theorem tr_303 : treeP 2 [2, 0, 1, 3, 0, 3] (stepsL [2, 0, 1, 3, 0, 3] 6) = true := by decide +kernel
theorem tr_310 : treeP 2 [2, 0, 1, 3, 1, 0] (stepsL [2, 0, 1, 3, 1, 0] 6) = true := by decide +kernel
theorem tr_311 : treeP 2 [2, 0, 1, 3, 1, 1] (stepsL [2, 0, 1, 3, 1, 1] 6) = true := by decide +kernel
theorem tr_312 : treeP 2 [2, 0, 1, 3, 1, 2] (stepsL [2, 0, 1, 3, 1, 2] 6) = true := by decide +kernel
theorem tr_313 : treeP 2 [2, 0, 1, 3, 1, 3] (stepsL [2, 0, 1, 3, 1, 3] 6) = true := by decide +kernel
theorem tr_320 : treeP 2 [2, 0, 1, 3, 2, 0] (stepsL [2, 0, 1, 3, 2, 0] 6) = true := by decide +kernel
theorem tr_321 : treeP 2 [2, 0, 1, 3, 2, 1] (stepsL [2, 0, 1, 3, 2, 1] 6) = true := by decide +kernel
theorem tr_322 : treeP 2 [2, 0, 1, 3, 2, 2] (stepsL [2, 0, 1, 3, 2, 2] 6) = true := by decide +kernel
theorem tr_323 : treeP 2 [2, 0, 1, 3, 2, 3] (stepsL [2, 0, 1, 3, 2, 3] 6) = true := by decide +kernel
theorem tr_330 : treeP 2 [2, 0, 1, 3, 3, 0] (stepsL [2, 0, 1, 3, 3, 0] 6) = true := by decide +kernel
theorem tr_331 : treeP 2 [2, 0, 1, 3, 3, 1] (stepsL [2, 0, 1, 3, 3, 1] 6) = true := by decide +kernel
theorem tr_332 : treeP 2 [2, 0, 1, 3, 3, 2] (stepsL [2, 0, 1, 3, 3, 2] 6) = true := by decide +kernel
theorem tr_333 : treeP 2 [2, 0, 1, 3, 3, 3] (stepsL [2, 0, 1, 3, 3, 3] 6) = true := by decide +kernel
end FS
end
section
set_option linter.unusedVariables false
set_option maxRecDepth 100000
namespace FS
open PySem PySem.Calls PySem.W PyProof.Rows
section
variable {p : Nat → Prop} {g : Bool}
theorem setL_all {M : LS} {e : Bool × Nat} (h : ∀ x ∈ M, p x.2) (he : p e.2) : ∀ x ∈ setL g M e, p x.2 := fun x hx => by
  unfold setL at hx
  rcases List.mem_append.mp hx with q | q
  · exact h x (List.mem_filter.mp q).1
  · have : x = (g, e.2) := by simpa using q
    subst this; exact he
theorem setAll_all : ∀ (es M : LS), (∀ x ∈ es, p x.2) → (∀ x ∈ M, p x.2) → ∀ x ∈ es.foldl (setL g) M, p x.2
  | [], M, _, h => h
  | e :: es, M, he, h => setAll_all es _ (fun x hx => he x (.tail _ hx)) (setL_all h (he e (.head _)))
theorem stepF_all {tw : LS} (ht : ∀ x ∈ tw, p x.2) : ∀ (l : List Nat) (a : LS × Nat), (∀ x ∈ a.1, p x.2) → ∀ x ∈ (l.foldl (stepF g tw) a).1, p x.2
  | [], a, h => h
  | z :: l, a, h => stepF_all ht l _ (setAll_all _ _ (fun e he => ht e (List.mem_of_mem_drop (List.mem_of_mem_take (mem_rot he)))) h)
theorem takeL_all {f : Nat → Bool} {k : Nat} {L : LS} (h : ∀ x ∈ L, p x.2) (hk : p k) : ∀ x ∈ takeL f k g L, p x.2 :=
  setL_all (stepF_all (fun x hx => (List.mem_append.mp hx).elim (h x) (h x)) _ _ h) hk
end
theorem takeL_congr {f f' : Nat → Bool} {k : Nat} {g : Bool} {L : LS} (h : ∀ e ∈ L, f e.2 = f' e.2) : takeL f k g L = takeL f' k g L := by
  unfold takeL
  rw [List.map_congr_left h]
theorem stepsL_lt (ranks : List Nat) : ∀ k, ∀ e ∈ stepsL ranks k, e.2 < k
  | 0 => fun _ h => nomatch h
  | k + 1 => by
    have ih := stepsL_lt ranks k
    show ∀ e ∈ takeR ranks k (stepsL ranks k), e.2 < k + 1
    generalize stepsL ranks k = L at ih
    unfold takeR
    exact takeL_all (p := fun x => x < k + 1) (fun x hx => Nat.lt_succ_of_lt (ih x hx)) (Nat.lt_succ_self k)
theorem stepsL_congr {r1 r2 : List Nat} : ∀ k, (∀ i, i < k → gN r1 i = gN r2 i) → stepsL r1 k = stepsL r2 k
  | 0, _ => rfl
  | k + 1, h => by
    have ih := stepsL_congr k fun i hi => h i (Nat.lt_succ_of_lt hi)
    show takeR r1 k (stepsL r1 k) = takeR r2 k (stepsL r2 k)
    rw [ih]
    unfold takeR
    refine takeL_congr fun e he => ?_
    rw [h k (Nat.lt_succ_self k), h e.2 (Nat.lt_succ_of_lt (stepsL_lt _ _ e he))]
theorem gN_app {l m : List Nat} {i : Nat} (h : i < l.length) : gN (l ++ m) i = gN l i := by
  unfold gN; rw [List.getElem?_append_left h]
theorem steps_app (ranks m : List Nat) : stepsL (ranks ++ m) ranks.length = stepsL ranks ranks.length := stepsL_congr _ fun i hi => gN_app hi
theorem take_steps (ranks : List Nat) (r : Nat) : takeR (ranks ++ [r]) ranks.length (stepsL ranks ranks.length) = stepsL (ranks ++ [r]) (ranks.length + 1) := by
  show _ = takeR (ranks ++ [r]) ranks.length (stepsL (ranks ++ [r]) ranks.length)
  rw [steps_app]
theorem tree_up {f : Nat} {ranks : List Nat} (h : okAt ranks (stepsL ranks ranks.length) = true) (h0 : treeP f (ranks ++ [0]) (stepsL (ranks ++ [0]) (ranks.length + 1)) = true)
    (h1 : treeP f (ranks ++ [1]) (stepsL (ranks ++ [1]) (ranks.length + 1)) = true) (h2 : treeP f (ranks ++ [2]) (stepsL (ranks ++ [2]) (ranks.length + 1)) = true)
    (h3 : treeP f (ranks ++ [3]) (stepsL (ranks ++ [3]) (ranks.length + 1)) = true) : treeP (f + 1) ranks (stepsL ranks ranks.length) = true := by
  rw [← take_steps] at h0 h1 h2 h3
  rw [treeP, h]
  simp only [List.all_cons, List.all_nil, h0, h1, h2, h3, Bool.and_true]
theorem tr_00 : treeP 3 [2, 0, 1, 0, 0] (stepsL [2, 0, 1, 0, 0] 5) = true := tree_up (ranks := [2, 0, 1, 0, 0]) (by decide +kernel) tr_000 tr_001 tr_002 tr_003
theorem tr_01 : treeP 3 [2, 0, 1, 0, 1] (stepsL [2, 0, 1, 0, 1] 5) = true := tree_up (ranks := [2, 0, 1, 0, 1]) (by decide +kernel) tr_010 tr_011 tr_012 tr_013
theorem tr_02 : treeP 3 [2, 0, 1, 0, 2] (stepsL [2, 0, 1, 0, 2] 5) = true := tree_up (ranks := [2, 0, 1, 0, 2]) (by decide +kernel) tr_020 tr_021 tr_022 tr_023
theorem tr_03 : treeP 3 [2, 0, 1, 0, 3] (stepsL [2, 0, 1, 0, 3] 5) = true := tree_up (ranks := [2, 0, 1, 0, 3]) (by decide +kernel) tr_030 tr_031 tr_032 tr_033
theorem tr_10 : treeP 3 [2, 0, 1, 1, 0] (stepsL [2, 0, 1, 1, 0] 5) = true := tree_up (ranks := [2, 0, 1, 1, 0]) (by decide +kernel) tr_100 tr_101 tr_102 tr_103
theorem tr_11 : treeP 3 [2, 0, 1, 1, 1] (stepsL [2, 0, 1, 1, 1] 5) = true := tree_up (ranks := [2, 0, 1, 1, 1]) (by decide +kernel) tr_110 tr_111 tr_112 tr_113
theorem tr_12 : treeP 3 [2, 0, 1, 1, 2] (stepsL [2, 0, 1, 1, 2] 5) = true := tree_up (ranks := [2, 0, 1, 1, 2]) (by decide +kernel) tr_120 tr_121 tr_122 tr_123
theorem tr_13 : treeP 3 [2, 0, 1, 1, 3] (stepsL [2, 0, 1, 1, 3] 5) = true := tree_up (ranks := [2, 0, 1, 1, 3]) (by decide +kernel) tr_130 tr_131 tr_132 tr_133
theorem tr_20 : treeP 3 [2, 0, 1, 2, 0] (stepsL [2, 0, 1, 2, 0] 5) = true := tree_up (ranks := [2, 0, 1, 2, 0]) (by decide +kernel) tr_200 tr_201 tr_202 tr_203
theorem tr_21 : treeP 3 [2, 0, 1, 2, 1] (stepsL [2, 0, 1, 2, 1] 5) = true := tree_up (ranks := [2, 0, 1, 2, 1]) (by decide +kernel) tr_210 tr_211 tr_212 tr_213
theorem tr_22 : treeP 3 [2, 0, 1, 2, 2] (stepsL [2, 0, 1, 2, 2] 5) = true := tree_up (ranks := [2, 0, 1, 2, 2]) (by decide +kernel) tr_220 tr_221 tr_222 tr_223
theorem tr_23 : treeP 3 [2, 0, 1, 2, 3] (stepsL [2, 0, 1, 2, 3] 5) = true := tree_up (ranks := [2, 0, 1, 2, 3]) (by decide +kernel) tr_230 tr_231 tr_232 tr_233
theorem tr_30 : treeP 3 [2, 0, 1, 3, 0] (stepsL [2, 0, 1, 3, 0] 5) = true := tree_up (ranks := [2, 0, 1, 3, 0]) (by decide +kernel) tr_300 tr_301 tr_302 tr_303
theorem tr_31 : treeP 3 [2, 0, 1, 3, 1] (stepsL [2, 0, 1, 3, 1] 5) = true := tree_up (ranks := [2, 0, 1, 3, 1]) (by decide +kernel) tr_310 tr_311 tr_312 tr_313
theorem tr_32 : treeP 3 [2, 0, 1, 3, 2] (stepsL [2, 0, 1, 3, 2] 5) = true := tree_up (ranks := [2, 0, 1, 3, 2]) (by decide +kernel) tr_320 tr_321 tr_322 tr_323
theorem tr_33 : treeP 3 [2, 0, 1, 3, 3] (stepsL [2, 0, 1, 3, 3] 5) = true := tree_up (ranks := [2, 0, 1, 3, 3]) (by decide +kernel) tr_330 tr_331 tr_332 tr_333
theorem tr_0 : treeP 4 [2, 0, 1, 0] (stepsL [2, 0, 1, 0] 4) = true := tree_up (ranks := [2, 0, 1, 0]) (by decide +kernel) tr_00 tr_01 tr_02 tr_03
theorem tr_1 : treeP 4 [2, 0, 1, 1] (stepsL [2, 0, 1, 1] 4) = true := tree_up (ranks := [2, 0, 1, 1]) (by decide +kernel) tr_10 tr_11 tr_12 tr_13
theorem tr_2 : treeP 4 [2, 0, 1, 2] (stepsL [2, 0, 1, 2] 4) = true := tree_up (ranks := [2, 0, 1, 2]) (by decide +kernel) tr_20 tr_21 tr_22 tr_23
theorem tr_3 : treeP 4 [2, 0, 1, 3] (stepsL [2, 0, 1, 3] 4) = true := tree_up (ranks := [2, 0, 1, 3]) (by decide +kernel) tr_30 tr_31 tr_32 tr_33
theorem tree_all : treeP 5 [2, 0, 1] L3 = true := tree_up (ranks := [2, 0, 1]) node_root tr_0 tr_1 tr_2 tr_3
theorem tree_ok : ∀ (f : Nat) (ranks : List Nat), treeP f ranks (stepsL ranks ranks.length) = true → ∀ rs : List Nat, rs.length ≤ f → (∀ r ∈ rs, r < 4) → okAt (ranks ++ rs) (stepsL (ranks ++ rs) (ranks ++ rs).length) = true
  | 0, ranks, h, rs, hl, h4 => by
    have : rs = [] := List.eq_nil_of_length_eq_zero (by omega)
    subst this
    rw [List.append_nil]; exact h
  | f + 1, ranks, h, rs, hl, h4 => by
    rw [treeP, Bool.and_eq_true] at h
    cases rs with
    | nil => rw [List.append_nil]; exact h.1
    | cons r rs =>
      have hr := h4 r (.head _)
      have hm : r ∈ [0, 1, 2, 3] := by simp; omega
      have h1 := List.all_eq_true.mp h.2 r hm
      have e : takeR (ranks ++ [r]) ranks.length (stepsL ranks ranks.length) = stepsL (ranks ++ [r]) (ranks ++ [r]).length := by
        rw [List.length_append]
        show _ = takeR (ranks ++ [r]) ranks.length (stepsL (ranks ++ [r]) ranks.length)
        rw [steps_app]
      rw [e] at h1
      have := tree_ok f (ranks ++ [r]) h1 rs (by simpa using hl) fun x hx => h4 x (.tail _ hx)
      rw [List.append_assoc] at this
      exact this
theorem okAt_perm {ranks : List Nat} {L : LS} (h : okAt ranks L = true) : (L.map Prod.snd).Perm (List.range ranks.length) := by
  unfold okAt at h
  simp only [Bool.and_eq_true] at h
  exact List.isPerm_iff.mp h.1.1.1.1.1.1
/-- the law, in plain numbers -/
structure PlainOk (ranks : List Nat) : Prop where
  perm : ∀ k, k ≤ ranks.length → ((stepsL ranks k).map Prod.snd).Perm (List.range k)
  great : ∀ e ∈ stepsL ranks ranks.length, e.1 = (ranks.length % 2 == 0)
  counts : CountsOk ((stepsL ranks ranks.length).map Prod.snd) ranks (ordOf ranks)
  undone : (undoGo ranks ((stepsL ranks ranks.length).map Prod.snd).length ((stepsL ranks ranks.length).map Prod.snd) []).reverse = List.range ranks.length
theorem plain_law (rs : List Nat) (h5 : rs.length ≤ 5) (h4 : ∀ r ∈ rs, r < 4) : PlainOk ([2, 0, 1] ++ rs) := by
  have key : ∀ m : List Nat, m.length ≤ 5 → (∀ r ∈ m, r < 4) → okAt ([2, 0, 1] ++ m) (stepsL ([2, 0, 1] ++ m) ([2, 0, 1] ++ m).length) = true := tree_ok 5 [2, 0, 1] tree_all
  have fin := key rs h5 h4
  have hperm := okAt_perm fin
  have hn : ((stepsL ([2, 0, 1] ++ rs) ([2, 0, 1] ++ rs).length).map Prod.snd).length = ([2, 0, 1] ++ rs).length := by simpa using hperm.length_eq
  have hlen : ([2, 0, 1] ++ rs).length = rs.length + 3 := by simp
  have perm : ∀ k, k ≤ ([2, 0, 1] ++ rs).length → ((stepsL ([2, 0, 1] ++ rs) k).map Prod.snd).Perm (List.range k) := fun k hk => by
    rcases Nat.lt_or_ge k 3 with h | h
    · have e : stepsL ([2, 0, 1] ++ rs) k = stepsL [2, 0, 1] k := stepsL_congr k fun i hi => gN_app (by simp; omega)
      rw [e]
      have hk' : k = 0 ∨ k = 1 ∨ k = 2 := by omega
      rcases hk' with rfl | rfl | rfl
      · exact List.isPerm_iff.mp small_perm.1
      · exact List.isPerm_iff.mp small_perm.2.1
      · exact List.isPerm_iff.mp small_perm.2.2
    · have hl : (rs.take (k - 3)).length = k - 3 := by rw [List.length_take]; omega
      have q := okAt_perm (key (rs.take (k - 3)) (by omega) fun r hr => h4 r (List.mem_of_mem_take hr))
      have e1 : ([2, 0, 1] ++ rs.take (k - 3)).length = k := by rw [List.length_append, hl]; simp; omega
      have e2 : [2, 0, 1] ++ rs = ([2, 0, 1] ++ rs.take (k - 3)) ++ rs.drop (k - 3) := by rw [List.append_assoc, List.take_append_drop]
      have e3 := steps_app ([2, 0, 1] ++ rs.take (k - 3)) (rs.drop (k - 3))
      rw [← e2] at e3
      rw [← e3, e1] at q
      exact q
  generalize hR : [2, 0, 1] ++ rs = ranks at *
  generalize hL : stepsL ranks ranks.length = L at *
  unfold okAt at fin
  simp only [Bool.and_eq_true, decide_eq_true_eq, List.all_eq_true, beq_iff_eq] at fin
  obtain ⟨⟨⟨⟨⟨⟨f1, f2⟩, f3⟩, f4⟩, f5⟩, f6⟩, f7⟩ := fin
  refine ⟨perm, ?_, ?_, ?_⟩
  · rw [hL]; exact f2
  · rw [hL]
    refine ⟨by rw [hn]; omega, hn.symm, fun x hx => ?_, by rw [hn]; exact hperm, by rw [hn]; exact List.isPerm_iff.mp f3, f4, f5, by rw [hn]; exact f6⟩
    rw [← hR] at hx
    rcases List.mem_append.mp hx with q | q
    · simp at q; omega
    · have := h4 x q; omega
  · rw [hL, hn]; exact f7
end FS
end
section
set_option linter.unusedVariables false
set_option maxRecDepth 100000
namespace FS
open PySem PySem.Calls PySem.W PyProof.Rows
/-- a typed text, by the drawn number -/
noncomputable def typedD (y : Nat) : Str := ((typedMenu (y % 4))[y / 4]?).getD ⟨#[115]⟩
noncomputable def txOf (dr : List Nat) (i : Nat) : Str := typedD (gN dr i)
noncomputable def rkS (r : Nat) : Str := if r = 0 then ⟨#[115]⟩ else if r = 1 then ⟨#[115, 115]⟩ else if r = 2 then ⟨#[115, 116]⟩ else ⟨#[116]⟩
theorem typed_text : ∀ y, y < 16 → textOk (typedD y) = true := by decide +kernel
theorem typed_plain : ∀ y, y < 16 → plainS (typedD y) = rkS (y % 4) := by decide +kernel
theorem typed_menu : ∀ y, y < 16 → (typedMenu (y % 4))[y / 4]? = some (typedD y) := by decide +kernel
noncomputable def clipI (x : Int) : Int := if (if x < 1 then x else 1) > -1 then (if x < 1 then x else 1) else -1
theorem coll_rk : ∀ a b, a < 4 → b < 4 → coll (rkS a) (rkS b) = clipI ((a : Int) - (b : Int)) := by
  have h : ∀ a : Nat, a < 4 → ∀ b : Nat, b < 4 → coll (rkS a) (rkS b) = clipI ((a : Int) - (b : Int)) := by decide +kernel
  exact fun a b ha hb => h a ha b hb
theorem one_rk : ∀ a : Nat, a < 4 → ∀ b : Nat, b < 4 → isOne (Str.ofString (toString (clipI ((a : Int) - (b : Int))))) = decide (b < a) := by decide +kernel
theorem noFind_typed (P : Params) (y : Nat) (hy : y < 16) : NoFind P (reOf false) (typedD y) := by
  have h : y = 0 ∨ y = 1 ∨ y = 2 ∨ y = 3 ∨ y = 4 ∨ y = 5 ∨ y = 6 ∨ y = 7 ∨ y = 8 ∨ y = 9 ∨ y = 10 ∨ y = 11 ∨ y = 12 ∨ y = 13 ∨ y = 14 ∨ y = 15 := by omega
  rcases h with rfl | rfl | rfl | rfl | rfl | rfl | rfl | rfl | rfl | rfl | rfl | rfl | rfl | rfl | rfl | rfl <;> exact fun prog t => by kernel_rfl
theorem abc_at : ∀ i, i < 8 → (seqIndex? ((i : Nat) : Int) (Str.ofString "abcdefgh").length).bind ((Str.ofString "abcdefgh").cps[·]?) = some (97 + i) := by decide +kernel
theorem abc_find : ∀ i, i < 8 → Txt.find (Str.ofString "abcdefgh") (nmS i) = (i : Int) := by decide +kernel
theorem div4 : ∀ y, y < 16 → Builtin.divisionGoesByPylong ((y : Nat) : Int) 4 = false := by decide +kernel
theorem clip_str : ∀ a : Nat, a < 4 → ∀ b : Nat, b < 4 → PyData.canLay0 (.str (Str.ofString (toString (clipI ((a : Int) - (b : Int)))))) = true := by decide +kernel
theorem nm_lay : ∀ i, i < 8 → PyData.canLay0 (.str (nmS i)) = true := by decide +kernel
theorem nmG_lay : ∀ g, ∀ i, i < 8 → PyData.canLay0 (.str (nmG g i)) = true := by decide +kernel
theorem typed_lay : ∀ y, y < 16 → PyData.canLay0 (.str (typedD y)) = true := by decide +kernel
theorem clip_log (a b : Nat) (ha : a < 4) (hb : b < 4) : (clipI ((a : Int) - (b : Int))).natAbs.log2 < 1920 := by
  have h : ∀ a : Nat, a < 4 → ∀ b : Nat, b < 4 → (clipI ((a : Int) - (b : Int))).natAbs.log2 < 1920 := by decide +kernel
  exact h a ha b hb
section
variable {dr : List Nat} (h16 : ∀ y ∈ dr, y < 16)
theorem gN_lt {dr : List Nat} (h16 : ∀ y ∈ dr, y < 16) (i : Nat) : gN dr i < 16 := by
  unfold gN
  cases q : dr[i]? with
  | none => decide
  | some y => exact h16 y (List.mem_of_getElem? q)
theorem gN_map (dr : List Nat) (i : Nat) : gN (dr.map (· % 4)) i = gN dr i % 4 := by
  unfold gN
  rw [List.getElem?_map]
  cases dr[i]? <;> rfl
theorem txOk_of {P : Params} {dr : List Nat} (h16 : ∀ y ∈ dr, y < 16) : TxOk P (txOf dr) := fun i => ⟨typed_text _ (gN_lt h16 i), noFind_typed P _ (gN_lt h16 i)⟩
theorem told_eq {dr : List Nat} (h16 : ∀ y ∈ dr, y < 16) (k i : Nat) : toldS (txOf dr) k i = Str.ofString (toString (clipI (((gN dr i % 4 : Nat) : Int) - ((gN dr k % 4 : Nat) : Int)))) := by
  unfold toldS txOf
  rw [typed_plain _ (gN_lt h16 i), typed_plain _ (gN_lt h16 k), coll_rk _ _ (Nat.mod_lt _ (by decide)) (Nat.mod_lt _ (by decide))]
theorem one_eq {dr : List Nat} (h16 : ∀ y ∈ dr, y < 16) (k i : Nat) : isOne (toldS (txOf dr) k i) = decide (gN (dr.map (· % 4)) k < gN (dr.map (· % 4)) i) := by
  rw [told_eq h16, one_rk (gN dr i % 4) (Nat.mod_lt _ (by decide)) (gN dr k % 4) (Nat.mod_lt _ (by decide)), gN_map, gN_map]
end
theorem rdL_of {V : View} : ∀ {vs : List Value} {ds : List D}, vs.length = ds.length → (∀ (i : Nat) v d, vs[i]? = some v → ds[i]? = some d → Rd V v d) → RdL V vs ds
  | [], [], _, _ => .nil
  | v :: vs, d :: ds, h, k => .cons (k 0 v d rfl rfl) (rdL_of (by simpa using h) fun i v' d' a b => k (i + 1) v' d' (by simpa using a) (by simpa using b))
theorem pickD_takeN (ds : List D) (n : Nat) : pickD ds none (some (n : Int)) none = ds.take n := by
  rw [pickD_plain]
  simp only [Option.elim]
  rw [clipAt_nat, List.drop_zero, Nat.sub_zero]
  rcases Nat.le_total n ds.length with h | h
  · rw [Nat.min_eq_left h]
  · rw [Nat.min_eq_right h, List.take_of_length_le (Nat.le_refl _), List.take_of_length_le h]
theorem fit_names {l : List (Nat × Str)} (h : ∀ q ∈ l, PyData.canLay0 (.str (nmS q.1)) = true ∧ PyData.canLay0 (.str q.2) = true) : D.fit (.list (l.map nameD)) = true := by
  have h : D.plains (l.map nameD) = true ∧ PyData.canLayAll0 (D.pys (l.map nameD)) = true ∧ PyData.depthAll (D.pys (l.map nameD)) ≤ 1 := by
    induction l with
    | nil => exact ⟨by simp [D.plains], by simp [D.pys, PyData.canLayAll0], by simp [D.pys, PyData.depthAll]⟩
    | cons x l ih =>
      obtain ⟨h1, h2, h3⟩ := ih fun q hq => h q (.tail _ hq)
      obtain ⟨a, b⟩ := h x (.head _)
      refine ⟨?_, ?_, ?_⟩
      · rw [List.map_cons, D.plains, h1]; rfl
      · rw [List.map_cons, D.pys, PyData.canLayAll0, h2, Bool.and_true]
        show PyData.canLay0 (.tuple [.str (nmS x.1), .str x.2]) = true
        rw [PyData.canLay0, PyData.canLayAll0, PyData.canLayAll0, PyData.canLayAll0, a, b]; rfl
      · rw [List.map_cons, D.pys, PyData.depthAll]
        have : PyData.depth (nameD x).py = 1 := by
          show PyData.depth (.tuple [.str (nmS x.1), .str x.2]) = 1
          rw [PyData.depth, PyData.depthAll, PyData.depthAll, PyData.depthAll]; rfl
        omega
  obtain ⟨h1, h2, h3⟩ := h
  unfold D.fit SeqAt.shaped
  have e1 : D.plain (.list (l.map nameD)) = true := by rw [D.plain]; exact h1
  have e2 : PyData.canLay0 (D.py (.list (l.map nameD))) = true := by rw [D.py, PyData.canLay0]; exact h2
  have e3 : PyData.depth (D.py (.list (l.map nameD))) ≤ 64 := by rw [D.py, PyData.depth]; omega
  simp [e1, e2, e3]
theorem fit_pair {x y : Str} (hx : PyData.canLay0 (.str x) = true) (hy : PyData.canLay0 (.str y) = true) : D.fit (.tup [.str x, .str y]) = true := by
  have e1 : D.plain (.tup [.str x, .str y]) = true := by rw [D.plain, D.plains, D.plains, D.plains]; rfl
  have e2 : PyData.canLay0 (D.py (.tup [.str x, .str y])) = true := by
    show PyData.canLay0 (.tuple [.str x, .str y]) = true
    rw [PyData.canLay0, PyData.canLayAll0, PyData.canLayAll0, PyData.canLayAll0, hx, hy]; rfl
  have e3 : PyData.depth (D.py (.tup [.str x, .str y])) ≤ 64 := by
    show PyData.depth (.tuple [.str x, .str y]) ≤ 64
    simp [PyData.depth, PyData.depthAll]
  unfold D.fit SeqAt.shaped
  simp [e1, e2, e3]
theorem eqv_fit {d : D} (h : d.fit = true) : PyData.eqv d.py d.py = true := by
  unfold D.fit at h
  exact SeqAt.eqv_refl _ (SeqAt.canLay_of_shaped (Bool.and_eq_true_iff.mp h).2)
section
variable {prog : Program} {w : World} {A : Around} {I : View → Heap → Prop} {env : Env} {d d1 d2 : D}
theorem op_ne_same (hu : A.units + 64 < cLine) (f1 : d.fit = true) : Op2 (model prog w) A I (compareOp .NotEq) d d (.bool false) := by
  have := op_ne_deep (prog := prog) (w := w) (A := A) (I := I) hu f1 f1
  rw [eqv_fit f1] at this
  exact this
theorem op_eq_same (hu : A.units + 64 < cLine) (f1 : d.fit = true) : Op2 (model prog w) A I (compareOp .Eq) d d (.bool true) := by
  have := op_eq_deep (prog := prog) (w := w) (A := A) (I := I) hu f1 f1
  rw [eqv_fit f1] at this
  exact this
theorem PE.and {e₁ e₂ : Expr} {pos : Pos} (st : Stable I) (h1 : PE (model prog w) A I (eval e₁ env) (.bool true)) (h2 : PE (model prog w) A I (eval e₂ env) d) : PE (model prog w) A I (eval (.BoolOp .And [e₁, e₂] pos) env) d := fun V s on i Q E k =>
  BoolOp_and (h1 V s on i _ E fun v V1 a1 t1 g1 r1 => by
    cases r1
    refine wpAny_truthy_bool ?_
    rw [if_pos rfl]
    exact BoolOp_one (h2 V1 _ g1.on (st _ _ _ _ i g1) Q E fun v V2 a2 t2 g2 r2 => k v V2 a2 t2 (g1.trans g2) r2))
theorem op_list_range (hh : A.handled = none) {n : Nat} (hn : n ≤ 1000) : OpN (model prog w) A I (.type "list") [] [.rng 0 n] (.list ((List.range n).map natD)) := fun V s on i vs r Q E k => by
  obtain ⟨v, rfl, r1⟩ := r.one
  cases r1 with
  | rng e =>
    rename_i r0 t u v
    have hr : IsRange s.heap r0 0 (n : Int) 1 t u v := on _ _ e
    refine call_list_range hh hr (small_of (by omega) (by omega) (by omega) (by omega)) (n := n) (by rw [rangeSize_one]; split <;> omega) (by omega) fun h' tk acc' c' hk ho hi => ?_
    have hn' : s.heap.get? s.heap.objs.size = none := none_ge _ (Nat.le_refl _)
    have g : Grow s.heap V V h' := .skip on hk
    refine k _ _ _ _ (GrowK.freeze g (o := { cls := .type "list", data := .seq acc' c' }) ho hn' (on.none hn')) (.list (items := acc'.toList) (n := c') (View.put_self ..) ?_)
    obtain ⟨hs, hv⟩ := hi
    refine rdL_of (by simp [hs]) fun i v d hv' hd => ?_
    obtain ⟨t', rfl⟩ := hv i v (by simpa using hv')
    have hi : i < n := by
      have := (List.getElem?_eq_some_iff.mp hd).1
      simpa using this
    rw [List.getElem?_map, List.getElem?_range hi] at hd
    have : d = .int (0 + (i : Int) * 1) := by rw [Int.zero_add, Int.mul_one]; exact (Option.some.inj hd).symm
    subst this
    exact .int _ _
end
end FS
end
section
set_option linter.unusedVariables false
set_option maxRecDepth 100000
namespace FS
open PySem PySem.Calls PySem.W PyProof.Rows
section
variable {G : Gd} {env : Env} {he he' V0 V V' : View} {s0 s s' : Shared} {ρ ρ' : Vars} {μ μ' : List (Addr × List D)}
theorem Sa.unbaseG {s1 : Shared} (q : Sa G env he' V s1 ρ' μ' V' s') (p : Sa G env he V0 s0 ρ μ V s) (hk : ∀ b o, he b = some o → he' b = some o) : Sa G env he V0 s1 ρ' μ' V' s' :=
  have dn : ∀ b, he' b = none → he b = none := fun b hb => by
    cases z : he b with
    | none => rfl
    | some o => rw [hk b o z] at hb; cases hb
  { on := q.on, cx := q.cx
    gr := p.gr.behind q.gr hk
    rest := q.rest
    loc := ⟨q.loc.1, dn _ q.loc.2⟩
    locNs := q.locNs
    cel := fun x c hx => let ⟨a, b, r⟩ := q.cel x c hx; ⟨a, dn _ b, r⟩
    apart := q.apart
    muOwn := fun y hy => dn _ (q.muOwn y hy)
    muApart := q.muApart }
end
section
variable {prog : Program} {w : World} {A : Around} {G : Gd} {env : Env} {he V0 : View} {R : Value → Asn} {dx : D}
theorem SaT.forG_ {α : Type} (s0f : Nat → Shared) {t : Str} {iter : Expr} {body : List Stmt} {px pos : Pos} (ds : List D) (J : Nat → α → Prop) (ρf : Nat → α → Vars) (μf : Nat → α → List (Addr × List D)) (a0 : α) (RR : View → View → Value → Asn)
    (hk : env.scope.kind = .function) (ht : env.kindOf t = some .local ∨ (env.kindOf t = some .cell ∧ (env.cells.lookup t).isSome = true)) (hJ0 : J 0 a0)
    (hit : PE (model prog w) A (Cx G env (ρf 0 a0) (μf 0 a0)) (eval iter env) dx) (hib : Itb prog w A dx ds) (hsub : ∀ i a, Sub t (ρf i a) (ρf i a))
    (hR : ∀ he' V' v V s, (∀ b o, he b = some o → he' b = some o) → (∀ b o, V0 b = some o → V' b = some o) → (∀ b o, V' b = some o → V0 b = some o ∨ he b = none) → RR he' V' v V s → R v V s)
    (hbody : ∀ he' V' i a d, J i a → ds[i]? = some d → Tr (model prog w) A (Sa G env he' V' (s0f i) ((t, d) :: ρf i a) (μf i a)) (execs body env) (fun V s => ∃ a', J (i + 1) a' ∧ Sa G env he' V' (s0f (i + 1)) (ρf (i + 1) a') (μf (i + 1) a') V s) (RR he' V'))
    (hs : ∀ x, foldedSetIterable iter env x = pure x := by intro _; rfl) :
    Tr (model prog w) A (Sa G env he V0 (s0f 0) (ρf 0 a0) (μf 0 a0)) (exec (.For (.Name t px) iter body [] pos) env) (fun V s => ∃ a', J ds.length a' ∧ Sa G env he V0 (s0f ds.length) (ρf ds.length a') (μf ds.length a') V s) R := fun V s p Q E n r => by
  refine wpAny_For (hit V s p.on p.cx _ E fun v V1 h1 t1 g1 r1 => hib V1 _ v g1.on r1 _ E fun o St hf it st => ?_) hs
  have p1 := p.grow (tk := t1) g1
  have hI1 : h1.get? h1.objs.size = none := none_ge _ (Nat.le_refl _)
  have hV1I : V1 h1.objs.size = none := g1.on.none hI1
  have heI : he h1.objs.size = none := by
    cases q : he h1.objs.size with
    | none => rfl
    | some o => rw [p1.gr.keep _ o q] at hI1; cases hI1
  have hIl : h1.objs.size ≠ env.locals := by
    obtain ⟨m, o', es, ep, ho, _⟩ := p1.locNs
    rintro z; rw [← z] at ho; exact absurd ho (by rw [show _ = h1.get? h1.objs.size from rfl, hI1]; simp)
  have hIc : ∀ x c, env.cells.lookup x = some c → h1.objs.size ≠ c := by
    rintro x c hc rfl
    obtain ⟨_, _, u, o', ho, _⟩ := p1.cel x _ hc
    exact absurd ho (by rw [show _ = h1.get? h1.objs.size from rfl, hI1]; simp)
  have hIm : ∀ q ∈ μf 0 a0, q.1 ≠ h1.objs.size := by
    rintro q hq z
    obtain ⟨items, ⟨o', ho⟩, _⟩ := p1.cx.mu q hq
    rw [z] at ho
    exact absurd ho (by rw [show _ = h1.get? h1.objs.size from rfl, hI1]; simp)
  have p2 := p1.grow (tk := t1) (Grow.pushSkip g1.on o)
  generalize h1.objs.size = I at *
  generalize h1.push o = h2 at *
  refine codeAny_forLoop
    (fun k s' => ∃ i V' a, i ≤ ds.length ∧ k = ds.length + 1 - i ∧ J i a ∧ Sa G env he V0 (s0f i) (ρf i a) (μf i a) V' s' ∧ (∀ b o, V1 b = some o → V' b = some o) ∧ V' I = none ∧ St i s'.heap ∧ (∀ q ∈ μf i a, q.1 ≠ I)) ?_ (ds.length + 1)
    ⟨0, V1, a0, Nat.zero_le _, rfl, hJ0, p2, fun _ _ e => e, hV1I, st, hIm⟩
  rintro k s' ⟨i, V', a, hi, rfl, hJ, p3, sub, vI, st3, hm3⟩
  obtain ⟨oI, vsI, hoI, hdI⟩ := it.flds _ _ st3
  rcases Nat.lt_or_ge i ds.length with hlt | hge
  · refine it.item i V' s' _ _ hlt p3.on sub st3 fun v h4 tk4 d hd rv st4 ex4 => ?_
    have p4 : Sa G env he V0 (s0f i) (ρf i a) (μf i a) V' { s' with heap := h4, toks := tk4 } := (p3.change ex4 heI vI hIl hIc hm3).grow (tk := tk4) (Grow.refl (p3.change ex4 heI vI hIl hIc hm3).on)
    refine wpAny_assign_Name (p4.store hk ht rv (hsub i a) fun h5 tk5 p5 kp => ?_)
    have st5 : St (i + 1) h5 := it.frame _ _ _ st4 fun o e => kp I o hIl hIc e
    obtain ⟨o5, vs5, ho5, hd5⟩ := it.flds _ _ st5
    have q5 := p5.rebase (I := I) (o := o5) ho5 hIl hIc hm3
    refine hbody _ _ i a d hJ hd V' _ q5 _ _ (fun V6 s6 ⟨a', hJ', q6⟩ => ?_) (fun v V6 s6 hr => ?_)
    · have ex : ∀ b o', he b = some o' → View.put he I o5 b = some o' := View.put_old heI
      have p6 := q6.unbaseG p5 ex
      have pI : View.put he I o5 I = some o5 := View.put_self _ _ _
      refine ⟨ds.length + 1 - (i + 1), by omega, i + 1, V6, a', hlt, rfl, hJ', p6, fun b o' e => q6.gr.sub b o' (sub b o' e), ?_, ?_, ?_⟩
      · cases z : V6 I with
        | none => rfl
        | some o' =>
          rcases q6.gr.new I o' z with e | e
          · rw [vI] at e; cases e
          · rw [pI] at e; cases e
      · exact it.frame _ _ _ st5 fun o' e => by
          have : o' = o5 := by rw [ho5] at e; cases e; rfl
          subst this
          exact q6.gr.keep I _ pI
      · rintro q hq rfl
        have := q6.muOwn q hq
        rw [pI] at this; cases this
    · exact r _ _ _ (hR _ _ _ _ _ (View.put_old heI) p3.gr.sub (fun b o' e => p3.gr.new b o' e) hr)
  · have hin : i = ds.length := by omega
    subst hin
    refine it.done V' s' _ _ p3.on sub st3 fun h4 tk4 ex4 => ?_
    refine wpAny_execs_nil ?_
    exact n V' _ ⟨a, hJ, (p3.change ex4 heI vI hIl hIc hm3).grow (tk := tk4) (Grow.refl (p3.change ex4 heI vI hIl hIc hm3).on)⟩
end
section
variable {prog : Program} {w : World} {A : Around} {G : Gd} {env : Env} {he V0 V : View} {s0 s : Shared} {ρ ρ' : Vars} {R : Value → Asn} {ds ds' es : List D} {d : D} {l : Addr}
theorem Sa.reGens {μ : List (Addr × List D)} (p : Sa G env he V0 s0 ρ μ V s) (g : Array GenState) : Sa G env he V0 { s0 with gens := g } ρ μ V { s with gens := g } :=
  { on := p.on, cx := p.cx, gr := p.gr, rest := by rw [p.rest], loc := p.loc, locNs := p.locNs, cel := p.cel, apart := p.apart, muOwn := p.muOwn, muApart := p.muApart }
/-- x = f(..), where f changes the one list and makes and ends a generator -/
theorem SaT.assignG {x f : Str} {np p' pos pos' : Pos} {e : Expr} {rest : List Expr} {fa : Addr} {st : Stmt} {q : Str} {dV kV : Value} (hk : env.scope.kind = .function) (hx : env.kindOf x = some .local ∨ (env.kindOf x = some .cell ∧ (env.cells.lookup x).isSome = true)) (hs : Sub x ρ ρ')
    (hf : PE (model prog w) A (Cx G env ρ [(l, ds)]) (eval (.Name f np) env) (.val (.ref fa))) (FA : FnAt G.h₁ fa st q dV kV)
    (h2 : PL (model prog w) A (Cx G env ρ [(l, ds)]) (spliced (backTo pos (starEach (e :: rest) env))) es)
    (ho : ∀ V (s : Shared), On V s.heap → (∀ b o, G.h₁.get? b = some o → V b = some o) → MutL V s.heap l ds → ∀ vs, RdL V vs es → EvG (model prog w) A (PySem.call (.ref fa) vs) V s l ds' d)
    (hpl : ((backTo pos (starEach (e :: rest) env)).any (·.1)) = false := by rfl) (hse : starEach (e :: rest) env = (false, eval e env) :: starEach rest env := by rfl)
    (hw : swapsWith (.Call (.Name f np) (e :: rest) [] pos) (some (.Name x p')) pos'.line env = pure false := by rfl) :
    Tr (model prog w) A (Sa G env he V0 s0 ρ [(l, ds)]) (exec (.Assign [.Name x p'] (.Call (.Name f np) (e :: rest) [] pos) pos') env) (Sa G env he V0 { s0 with gens := s0.gens.push .finished } ((x, d) :: ρ') [(l, ds')]) R := fun V s p Q E n r => by
  refine wpAny_Assign_Name (wpAny_Call_NameR (hf V s p.on p.cx _ E fun v V1 h1 t1 g1 r1 => ?_)) hw
  have : v = .ref fa := by cases r1; rfl
  subst this
  have p1 := p.grow (tk := t1) g1
  refine callWith_of (P := fun h => Keeps1 (model prog w) (.ref fa) h) (by rw [hpl]; rfl) (fun h x => x) ?_
  have go : ∀ {Q' : Value → Shared → Prop}, (∀ v V3 h3 t3, Sa G env he V0 { s0 with gens := s0.gens.push .finished } ρ [(l, ds')] V3 { s with heap := h3, toks := t3, gens := s0.gens.push .finished } → Rd V3 v d → Q' v { s with heap := h3, toks := t3, gens := s0.gens.push .finished }) →
      wpAny (model prog w) A (spliced (backTo pos (starEach (e :: rest) env))) (fun vs s₁ => Keeps1 (model prog w) (.ref fa) s₁.heap ∧ wpAny (model prog w) A (PySem.call (.ref fa) ([] ++ vs)) Q' E s₁) E { s with heap := h1, toks := t1 } := fun {Q'} kq =>
    h2 V1 _ p1.on p1.cx _ E fun vs V2 a2 t2 g2 r2 => by
      have p2 := p1.grow (tk := t2) g2
      refine ⟨FA.keeps1 (p2.cx.old p2.on), ?_⟩
      refine ho V2 _ p2.on p2.cx.base (p2.cx.mu _ (.head _)) vs r2 _ E fun v V3 a3 t3 g3 m3 r3 => ?_
      have p3 := (p2.growM (tk := t3) g3 m3).reGens (s0.gens.push .finished)
      have eg : s.gens = s0.gens := by rw [p.rest]
      dsimp only
      rw [eg]
      exact kq v V3 a3 t3 p3 r3
  rw [hse] at go ⊢
  exact evalArgs_plain (go fun v V3 h3 t3 p3 r3 => p3.store hk hx r3 hs fun h'' tk' q _ => n V3 _ q)
end
end FS
end
section
set_option linter.unusedVariables false
set_option maxRecDepth 100000
namespace FS
open PySem PySem.Calls PySem.W PyProof.Rows
local macro_rules | `(tactic| walk_at "subs") => `(tactic| repeat (first | exact Sub.nil | (apply Sub.skip; (focus decide)) | apply Sub.same))
local macro_rules | `(tactic| walk_at "var") => `(tactic| repeat (first | exact List.Mem.head _ | apply List.Mem.tail))
noncomputable abbrev lEnv (a L' : Addr) (code : Value) : Env := envOf (stm 21) "law" a L' code
noncomputable def lS (i : Nat) : Stmt := ((fBody (stm 21))[i]?).getD (.Pass ⟨0, 0, 0, 0⟩)
noncomputable def finG (g : Array GenState) : Nat → Array GenState
  | 0 => g
  | n + 1 => (finG g n).push .finished
noncomputable def rkL (dr : List Nat) : List Nat := dr.map (· % 4)
noncomputable def rhoL (l : Addr) (dr : List Nat) : Vars := [(Str.ofString "held", .held l), (Str.ofString "ranks", .list ((rkL dr).map natD)), (Str.ofString "drawn", .list (dr.map natD))]
noncomputable def rwD (dr : List Nat) (k : Nat) : List D := rowsD ((stepsL (rkL dr) k).map (rowE (txOf dr)))
theorem natAt (l : List Nat) (i : Nat) (hi : i < l.length) : (l.map natD)[i]? = some (.int (gN l i : Nat)) := by rw [List.getElem?_map, gN_some hi]; rfl
section
variable {w : World} {A : Around} {G : Gd} {n : Nat} {a L' : Addr} {code : Value} {he V0 : View} {s0 : Shared} {R : Value → Asn} {l : Addr} {dr : List Nat}
noncomputable def toldZ (dr : List Nat) (k i : Nat) : D × Option D := (.int (0 + (i : Int)), some (nameD (i, toldS (txOf dr) k i)))
theorem abcK {I : View → Heap → Prop} {env : Env} {M : Program} {e : Expr} {p pos : Pos} {kk : Nat} {i : Nat} (st : Stable I) (h : PE (model pw w) A I (eval e env) (.int (i : Nat))) (hi : i < 8)
    (hs : ∀ t i u, subscripted e false (.str (Str.ofString "abcdefgh") t) (.int i u) = operate [.str (Str.ofString "abcdefgh") t, .int i u] (getItem (.str (Str.ofString "abcdefgh") t) (.int i u)) := by intro _ _ _; with_unfolding_all rfl) :
    PE (model pw w) A I (eval (.Subscript (.Constant (.str (Str.ofString "abcdefgh")) kk p) e pos) env) (.str (nmS i)) :=
  PE.item st PE.cStr h (op_item_str (by omega) (by omega) (abc_at i hi) hs)
theorem law_told (F : GF w G) (Rm : Room A n) (h16 : ∀ y ∈ dr, y < 16) (h8 : dr.length ≤ 8) {k : Nat} (hk : k < dr.length) {env : Env} {ρ : Vars} {μ : List (Addr × List D)} {cl : List (Str × Addr)} {pos : Pos} {scope : Scope} {elt iter : Expr} {px : Pos}
    (h : PE (model pw w) A (Cx G env ρ μ) (eval (.ListComp elt [⟨.Name (Str.ofString "i") px, iter, [], 0⟩] scope pos) env) (.list (((List.range k).map (toldZ dr k)).filterMap Prod.snd))) :
    PE (model pw w) A (Cx G env ρ μ) (eval (.ListComp elt [⟨.Name (Str.ofString "i") px, iter, [], 0⟩] scope pos) env) (.list ((List.range k).map fun p => nameD (p, toldS (txOf dr) k p))) := by
  have e : ((List.range k).map (toldZ dr k)).filterMap Prod.snd = (List.range k).map fun p => nameD (p, toldS (txOf dr) k p) := by
    rw [List.filterMap_map]
    exact fm_some _ _ _ fun _ _ => rfl
  rw [← e]; exact h
theorem law_loop (F : GF w G) (Rm : Room A (n + 5)) (h16 : ∀ y ∈ dr, y < 16) (h8 : dr.length ≤ 8) (hp : ∀ k, k ≤ dr.length → ((stepsL (rkL dr) k).map Prod.snd).Perm (List.range k)) :
    Tr (model pw w) A (Sa G (lEnv a L' code) he V0 s0 (rhoL l dr) [(l, [])]) (exec (lS 3) (lEnv a L' code)) (Sa G (lEnv a L' code) he V0 { s0 with gens := finG s0.gens dr.length } (rhoL l dr) [(l, rwD dr dr.length)]) R := by
  have rkLen : (rkL dr).length = dr.length := by unfold rkL; rw [List.length_map]
  refine Tr.post (SaT.forG_ (α := Unit) (fun i => { s0 with gens := finG s0.gens i }) (rangeD 0 dr.length) (fun _ _ => True) (fun _ _ => rhoL l dr) (fun i _ => [(l, rwD dr i)]) () (fun _ _ _ _ _ => False) rfl (.inr ⟨rfl, rfl⟩) trivial
    (PE.call (d := .rng 0 dr.length) Cx.stable (PE.blt rfl rfl rfl rfl F.b_range.1 F.b_range.2) (fun _ _ _ _ => keeps_type) (PL.cons Cx.stable (PE.call (d := .int dr.length) Cx.stable (PE.blt rfl rfl rfl rfl F.b_len.1 F.b_len.2) (fun _ _ _ _ => keeps_builtin) (PL.cons Cx.stable (PE.name (d := .list (dr.map natD)) rfl (by walk_at "var")) PL.nil) ?_) PL.nil) op_range1) ?_ (fun _ _ => by walk_at "subs") (fun _ _ _ _ _ _ _ _ h => h.elim) (fun he' V' i u d hJ hd => ?_)) fun V s h => ?_
  · have := op_len (prog := pw) (w := w) (A := A) (I := Cx G (lEnv a L' code) (rhoL l dr) [(l, rwD dr 0)]) (ds := dr.map natD) (by rw [List.length_map]; omega)
    rw [List.length_map] at this
    exact this
  · have z := Itb.range (prog := pw) (w := w) (a := 0) (b := (dr.length : Int)) Rm.hh (by omega) (by omega) (by omega) (by omega)
    rw [show ((dr.length : Int) - 0).toNat = dr.length by omega] at z
    exact z
  · have hi : i < dr.length := by
      have := (List.getElem?_eq_some_iff.mp hd).1
      unfold rangeD at this
      simpa using this
    have e : d = .int (i : Nat) := by
      unfold rangeD at hd
      rw [List.getElem?_map, List.getElem?_range hi] at hd
      have := Option.some.inj hd
      rw [← this]
      show D.int (0 + (i : Int)) = _
      rw [Int.zero_add]
    subst e
    have hi8 : i < 8 := by omega
    have hri : gN (rkL dr) i = gN dr i % 4 := gN_map dr i
    have hgi := gN_lt h16 i
    refine Tr.cons (SaT.assignG (fa := 270) (es := [.held l, .str (nmG false i), .str (txOf dr i), .bool (i % 2 == 1)]) (ds' := rwD dr (i + 1)) (d := .list ((List.range i).map fun p => nameD (p, toldS (txOf dr) i p))) rfl (.inl rfl) (by walk_at "subs") (PE.glob rfl rfl rfl F.g_take) F.f_take ?_ (fun V s on base hm vs r => ?_)) ?_
    · refine PL.cons Cx.stable (PE.name rfl (by walk_at "var")) (PL.cons Cx.stable (abcK (M := pw) Cx.stable (PE.name rfl (by walk_at "var")) hi8) (PL.cons Cx.stable ?_ (PL.cons Cx.stable ?_ PL.nil)))
      · have e2 : D.int ((gN dr i : Nat) / 4) = .int ((gN dr i / 4 : Nat) : Int) := by congr 1
        refine PE.fn (ds := [.int ((gN (rkL dr) i : Nat) : Int), .int ((gN dr i / 4 : Nat) : Int)]) rfl rfl rfl F.g_typed F.f_typed (PL.cons Cx.stable (PE.item Cx.stable (PE.name (d := .list ((rkL dr).map natD)) rfl (by walk_at "var")) (PE.name (d := .int (i : Nat)) rfl (by walk_at "var")) (op_item_list (by omega) (by omega) (natAt _ i (by omega)))) (PL.cons Cx.stable ?_ PL.nil)) (typed_ok (n := n) F (Rm.less (by omega)) (by rw [hri]; exact Nat.mod_lt _ (by decide)) (by omega) (by rw [hri]; exact typed_menu _ hgi))
        rw [← e2]
        exact PE.binop Cx.stable (PE.item Cx.stable (PE.name (d := .list (dr.map natD)) rfl (by walk_at "var")) (PE.name (d := .int (i : Nat)) rfl (by walk_at "var")) (op_item_list (by omega) (by omega) (natAt _ i hi))) PE.cInt (op_div_int (by decide) (div4 _ hgi))
      · have e2 : (i % 2 == 1) = (((i : Nat) : Int) % 2 == 1) := by
          rw [Bool.eq_iff_iff, beq_iff_eq, beq_iff_eq]; omega
        rw [e2]
        exact PE.compare Cx.stable (PE.binop Cx.stable (PE.name (d := .int (i : Nat)) rfl (by walk_at "var")) PE.cInt (op_mod_int (by decide))) PE.cInt op_eq_int
    · obtain ⟨v1, v2, v3, v4, rfl, r1, r2, r3, r4⟩ := r.four
      have ht := take_ok (w := w) (A := A) (n := n) (l := l) (k := i) (g := i % 2 == 1) (L := stepsL (rkL dr) i) (tx := txOf dr) F Rm (txOk_of h16) hi8 (hp i (by omega)) V s on base hm v1 v2 v3 v4 r1 r2 r3 r4
      have e3 : takeL (fun j => isOne (toldS (txOf dr) i j)) i (i % 2 == 1) (stepsL (rkL dr) i) = stepsL (rkL dr) (i + 1) := by
        show _ = takeR (rkL dr) i (stepsL (rkL dr) i)
        generalize stepsL (rkL dr) i = L0
        unfold takeR
        exact takeL_congr fun e _ => one_eq h16 i e.2
      rw [e3] at ht
      exact ht
    · refine Tr.last (SaT.if_ (c := false) (PB.compare Cx.stable (PE.name rfl (by walk_at "var")) (law_told F Rm h16 h8 hi (cl := []) ?_) (op_ne_same Rm.cl ?_)) (fun hc => nomatch hc) (fun hc => Tr.nil fun V s p => ⟨(), trivial, p.weaken fun q hq => .tail _ (.tail _ hq)⟩))
      · refine PE.comp _ (ρ' := [(Str.ofString "ranks", .list ((rkL dr).map natD)), (Str.ofString "k", .int (i : Nat))]) (cl := [(Str.ofString "ranks", L' + 1), (Str.ofString "k", L' + 2)]) (dx := .rng 0 i) ⟨rfl, by decide, rfl, by decide, rfl⟩ ?_
          (PE.call Cx.stable (PE.blt rfl rfl rfl rfl F.b_range.1 F.b_range.2) (fun _ _ _ _ => keeps_type) (PL.cons Cx.stable (PE.name rfl (by walk_at "var")) PL.nil) op_range1) ?_ (by simp; omega) (fun C z hz => ?_) (fun C z d hz hd => ?_)
        · intro p hp
          simp only [List.mem_cons, List.not_mem_nil, or_false] at hp
          rcases hp with rfl | rfl
          · exact ⟨by walk_at "var", .inl rfl, fun C => .inl rfl, rfl⟩
          · exact ⟨by walk_at "var", .inl rfl, fun C => .inl rfl, rfl⟩
        · refine Itb.toG ?_
          have z := Itb.range (prog := pw) (w := w) (a := 0) (b := (i : Int)) Rm.hh (by omega) (by omega) (by omega) (by omega)
          rw [show ((i : Int) - 0).toNat = i by omega] at z
          rw [List.map_map]
          exact z
        · obtain ⟨j, hj, rfl⟩ := List.mem_map.mp hz
          exact PT.nil
        · obtain ⟨j, hj, rfl⟩ := List.mem_map.mp hz
          have hj' := List.mem_range.mp hj
          have e4 : d = .tup [.str (nmS j), .str (Str.ofString (toString (clipI (((gN (rkL dr) j : Nat) : Int) - ((gN (rkL dr) i : Nat) : Int)))))] := by
            have := (Option.some.inj hd).symm
            rw [this, told_eq h16]
            unfold rkL
            rw [gN_map, gN_map]
            rfl
          subst e4
          have hj0 : (0 + (j : Int)) = ((j : Nat) : Int) := Int.zero_add _
          have r4 : ∀ j, gN (rkL dr) j < 4 := fun j => by unfold rkL; rw [gN_map]; exact Nat.mod_lt _ (by decide)
          dsimp only [toldZ]
          rw [hj0]
          refine PE.dTup (PL.cons Cx.stable (abcK (M := pw) Cx.stable (PE.name rfl (by walk_at "var")) (by omega)) (PL.cons Cx.stable (PE.call Cx.stable (PE.blt rfl rfl rfl rfl F.b_str.1 F.b_str.2) (fun _ _ _ _ => keeps_type) (PL.cons Cx.stable ?_ PL.nil) (op_str_int (clip_log _ _ (r4 j) (r4 i)))) PL.nil)) (by simp)
          exact PE.call (ds := [.int (-1), .int (if (((gN (rkL dr) j : Nat) : Int) - ((gN (rkL dr) i : Nat) : Int)) < 1 then (((gN (rkL dr) j : Nat) : Int) - ((gN (rkL dr) i : Nat) : Int)) else 1)]) Cx.stable (PE.blt rfl rfl rfl rfl F.b_max.1 F.b_max.2) (fun _ _ _ _ => keeps_builtin) (PL.cons Cx.stable (PE.neg PE.cInt) (PL.cons Cx.stable
            (PE.call Cx.stable (PE.blt rfl rfl rfl rfl F.b_min.1 F.b_min.2) (fun _ _ _ _ => keeps_builtin) (PL.cons Cx.stable PE.cInt (PL.cons Cx.stable (PE.binop Cx.stable
              (PE.item Cx.stable (PE.name (d := .list ((rkL dr).map natD)) rfl (by walk_at "var")) (PE.name (d := .int (j : Nat)) rfl (by walk_at "var")) (op_item_list (by omega) (by omega) (natAt _ j (by omega))))
              (PE.item Cx.stable (PE.name (d := .list ((rkL dr).map natD)) rfl (by walk_at "var")) (PE.name (d := .int (i : Nat)) rfl (by walk_at "var")) (op_item_list (by omega) (by omega) (natAt _ i (by omega)))) op_sub_int) PL.nil)) (op_min2 Rm.hh)) PL.nil)) (op_max2 Rm.hh)
      · have e5 : ((List.range i).map fun p => nameD (p, toldS (txOf dr) i p)) = ((List.range i).map fun p => (p, toldS (txOf dr) i p)).map nameD := by rw [List.map_map]; rfl
        rw [e5]
        refine fit_names fun q hq => ?_
        obtain ⟨p, hp, rfl⟩ := List.mem_map.mp hq
        have := List.mem_range.mp hp
        refine ⟨nm_lay _ (by dsimp only; omega), ?_⟩
        dsimp only
        rw [told_eq h16]
        exact clip_str _ (Nat.mod_lt _ (by decide)) _ (Nat.mod_lt _ (by decide))
  · obtain ⟨_, _, p⟩ := h
    have e : (rangeD 0 dr.length).length = dr.length := by unfold rangeD; simp
    rw [e] at p
    exact p
end
end FS
end
section
set_option linter.unusedVariables false
set_option maxRecDepth 100000
namespace FS
open PySem PySem.Calls PySem.W PyProof.Rows
local macro_rules | `(tactic| walk_at "subs") => `(tactic| repeat (first | exact Sub.nil | (apply Sub.skip; (focus decide)) | apply Sub.same))
local macro_rules | `(tactic| walk_at "var") => `(tactic| repeat (first | exact List.Mem.head _ | apply List.Mem.tail))
noncomputable def drL (ns : List Int) : List Nat := [14, 8, 1] ++ (ns.take 5).map fun x => (x % 16).toNat
theorem drL_eq (ns : List Int) : [D.int 14, .int 8, .int 1] ++ ((ns.take 5).map fun x : Int => (D.int x, some (D.int (x % 16)))).filterMap Prod.snd = (drL ns).map natD := by
  unfold drL
  rw [List.map_append, List.filterMap_map, List.map_map]
  congr 1
  refine (fm_some _ (fun x : Int => D.int (x % 16)) _ fun _ _ => rfl).trans (List.map_congr_left fun x _ => ?_)
  show D.int (x % 16) = D.int ((x % 16).toNat : Nat)
  congr 1
  omega
theorem drL_16 (ns : List Int) : ∀ y ∈ drL ns, y < 16 := fun y hy => by
  unfold drL at hy
  rcases List.mem_append.mp hy with q | q
  · simp at q; omega
  · obtain ⟨x, _, rfl⟩ := List.mem_map.mp q
    omega
theorem drL_len (ns : List Int) : (drL ns).length ≤ 8 := by
  unfold drL
  rw [List.length_append, List.length_map, List.length_take]
  simp
  omega
theorem drL_plain (ns : List Int) : PlainOk (rkL (drL ns)) := by
  have e : rkL (drL ns) = [2, 0, 1] ++ (ns.take 5).map fun x => (x % 16).toNat % 4 := by
    unfold rkL drL
    rw [List.map_append, List.map_map]
    rfl
  rw [e]
  refine plain_law _ (by rw [List.length_map, List.length_take]; omega) fun r hr => ?_
  obtain ⟨x, _, rfl⟩ := List.mem_map.mp hr
  omega
section
variable {w : World} {A : Around} {G : Gd} {n : Nat} {a L' : Addr} {code : Value} {he V0 : View} {s0 : Shared} {R : Value → Asn} {l : Addr} {dr : List Nat} {μ : List (Addr × List D)}
noncomputable def rhoR (L : LS) (dr : List Nat) : Vars := [(Str.ofString "row", .list ((L.map Prod.snd).map natD)), (Str.ofString "rows", .list (rowsD (L.map (rowE (txOf dr))))), (Str.ofString "ranks", .list ((rkL dr).map natD)), (Str.ofString "drawn", .list (dr.map natD))]
theorem law_rows (F : GF w G) (Rm : Room A (n + 1)) {L : LS} (h16 : ∀ y ∈ dr, y < 16) (h8 : dr.length ≤ 8) (hL : (L.map Prod.snd).Perm (List.range dr.length)) (hg : ∀ e ∈ L, e.1 = (dr.length % 2 == 0)) :
    Tr (model pw w) A (Sa G (lEnv a L' code) he V0 s0 (rhoR L dr) μ) (exec (lS 7) (lEnv a L' code)) (Sa G (lEnv a L' code) he V0 s0 (rhoR L dr) μ) R := by
  have rkLen : (rkL dr).length = dr.length := by unfold rkL; rw [List.length_map]
  have hLl : L.length = dr.length := by have := hL.length_eq; simpa using this
  have lenR : ∀ {I : View → Heap → Prop}, OpN (model pw w) A I (.builtin "len") [] [.list ((L.map Prod.snd).map natD)] (.int (dr.length : Nat)) := fun {I} => by
    have := op_len (prog := pw) (w := w) (A := A) (I := I) (ds := (L.map Prod.snd).map natD) (by rw [List.length_map, List.length_map]; omega)
    rw [List.length_map, List.length_map, hLl] at this
    exact this
  refine Tr.post (SaT.for_ (α := Unit) (rangeD 0 dr.length) (fun _ _ => True) (fun _ _ => rhoR L dr) (fun _ _ => μ) () (fun _ _ _ _ _ => False) rfl (.inr ⟨rfl, rfl⟩) trivial
    (PE.call (d := .rng 0 dr.length) Cx.stable (PE.blt rfl rfl rfl rfl F.b_range.1 F.b_range.2) (fun _ _ _ _ => keeps_type) (PL.cons Cx.stable (PE.call (d := .int dr.length) Cx.stable (PE.blt rfl rfl rfl rfl F.b_len.1 F.b_len.2) (fun _ _ _ _ => keeps_builtin) (PL.cons Cx.stable (PE.name (d := .list ((L.map Prod.snd).map natD)) rfl (by walk_at "var")) PL.nil) lenR) PL.nil) op_range1) ?_ (fun _ _ => by walk_at "subs") (fun _ _ _ _ _ _ _ _ h => h.elim) (fun he' V' i u d hJ hd => ?_)) fun V s h => ?_
  · have z := Itb.range (prog := pw) (w := w) (a := 0) (b := (dr.length : Int)) Rm.hh (by omega) (by omega) (by omega) (by omega)
    rw [show ((dr.length : Int) - 0).toNat = dr.length by omega] at z
    exact z
  · have hi : i < dr.length := by
      have := (List.getElem?_eq_some_iff.mp hd).1
      unfold rangeD at this
      simpa using this
    have e : d = .int (i : Nat) := by
      unfold rangeD at hd
      rw [List.getElem?_map, List.getElem?_range hi] at hd
      have := Option.some.inj hd
      rw [← this]
      show D.int (0 + (i : Int)) = _
      rw [Int.zero_add]
    subst e
    have hLi : L[i]? = some (L[i]'(by omega)) := List.getElem?_eq_getElem (by omega)
    generalize L[i]'(by omega) = e at hLi
    have heL : e ∈ L := List.mem_of_getElem? hLi
    have he2 : e.2 < dr.length := List.mem_range.mp (hL.mem_iff.mp (List.mem_map_of_mem heL))
    have he8 : e.2 < 8 := by omega
    have hrow : ((L.map Prod.snd).map natD)[i]? = some (.int (e.2 : Nat)) := by rw [List.getElem?_map, List.getElem?_map, hLi]; rfl
    have hrows : (rowsD (L.map (rowE (txOf dr))))[i]? = some (.tup [.str (nmG e.1 e.2), .str (txOf dr e.2)]) := by unfold rowsD; rw [List.getElem?_map, List.getElem?_map, hLi]; rfl
    have hri : gN (rkL dr) e.2 = gN dr e.2 % 4 := gN_map dr e.2
    have hgi := gN_lt h16 e.2
    have hrowK : ∀ {I : View → Heap → Prop} {vl sl : Expr}, NoSlice sl → Op2 (model pw w) A I (subscriptTail vl sl) (.list ((L.map Prod.snd).map natD)) (.int (i : Nat)) (.int (e.2 : Nat)) := fun h => op_item_list (by omega) (by omega) hrow h
    refine Tr.cons (SaT.assign (d := .str (nmS e.2)) rfl (.inl rfl) (abcK (M := pw) Cx.stable (PE.item Cx.stable (PE.name (d := .list ((L.map Prod.snd).map natD)) rfl (by walk_at "var")) (PE.name (d := .int (i : Nat)) rfl (by walk_at "var")) (op_item_list (by omega) (by omega) hrow)) he8) (by walk_at "subs")) ?_
    refine Tr.cons (N := Sa G (lEnv a L' code) he' V' s0 ((Str.ofString "name", .str (nmG (dr.length % 2 == 0) e.2)) :: (Str.ofString "k", .int (i : Nat)) :: rhoR L dr) μ) (SaT.if_ (c := dr.length % 2 == 0) ?_ (fun hc => ?_) (fun hc => ?_)) ?_
    · have e2 : (dr.length % 2 == 0) = (((dr.length : Nat) : Int) % 2 == 0) := by
        rw [Bool.eq_iff_iff, beq_iff_eq, beq_iff_eq]; omega
      rw [e2]
      exact PB.compare Cx.stable (PE.binop Cx.stable (PE.call Cx.stable (PE.blt rfl rfl rfl rfl F.b_len.1 F.b_len.2) (fun _ _ _ _ => keeps_builtin) (PL.cons Cx.stable (PE.name rfl (by walk_at "var")) PL.nil) lenR) PE.cInt (op_mod_int (by decide))) PE.cInt op_eq_int
    · rw [hc]
      have z : Txt.upper (nmS e.2) = nmG true e.2 := by rw [← nmF, nm_upper _ _ he8]
      rw [← z]
      exact Tr.last (SaT.assign rfl (.inl rfl) (PE.meth0 Cx.stable (PE.name rfl (by walk_at "var")) mth_upper (opm_upper (by rw [← nmF]; exact (nm_long _ _ he8).2))) (by walk_at "subs"))
    · rw [hc]
      exact Tr.nil fun _ _ p => p
    · have hg' := hg e heL
      rw [hg'] at hrows
      refine Tr.last (SaT.if_ (c := false) (PB.compare Cx.stable (PE.item Cx.stable (PE.name (d := .list (rowsD (L.map (rowE (txOf dr))))) rfl (by walk_at "var")) (PE.name (d := .int (i : Nat)) rfl (by walk_at "var")) (op_item_list (by omega) (by omega) hrows)) (PE.dTup (PL.cons Cx.stable (PE.name rfl (by walk_at "var")) (PL.cons Cx.stable ?_ PL.nil)) (by simp)) (op_ne_same Rm.cl (fit_pair (nmG_lay _ _ he8) (typed_lay _ hgi)))) (fun hc => nomatch hc) (fun hc => Tr.nil fun V s p => ⟨(), trivial, p.weaken fun q hq => .tail _ (.tail _ hq)⟩))
      have e2 : D.int ((gN dr e.2 : Nat) / 4) = .int ((gN dr e.2 / 4 : Nat) : Int) := by congr 1
      refine PE.fn (ds := [.int ((gN (rkL dr) e.2 : Nat) : Int), .int ((gN dr e.2 / 4 : Nat) : Int)]) rfl rfl rfl F.g_typed F.f_typed (PL.cons Cx.stable (PE.item Cx.stable (PE.name (d := .list ((rkL dr).map natD)) rfl (by walk_at "var")) (PE.item Cx.stable (PE.name (d := .list ((L.map Prod.snd).map natD)) rfl (by walk_at "var")) (PE.name (d := .int (i : Nat)) rfl (by walk_at "var")) (op_item_list (by omega) (by omega) hrow)) (op_item_list (by omega) (by omega) (natAt _ e.2 (by omega)))) (PL.cons Cx.stable ?_ PL.nil)) (typed_ok (n := n) F Rm (by rw [hri]; exact Nat.mod_lt _ (by decide)) (by omega) (by rw [hri]; exact typed_menu _ hgi))
      rw [← e2]
      exact PE.binop Cx.stable (PE.item Cx.stable (PE.name (d := .list (dr.map natD)) rfl (by walk_at "var")) (PE.item Cx.stable (PE.name (d := .list ((L.map Prod.snd).map natD)) rfl (by walk_at "var")) (PE.name (d := .int (i : Nat)) rfl (by walk_at "var")) (op_item_list (by omega) (by omega) hrow)) (op_item_list (by omega) (by omega) (natAt _ e.2 he2))) PE.cInt (op_div_int (by decide) (div4 _ hgi))
  · obtain ⟨_, _, p⟩ := h
    exact p
end
end FS
end
section
set_option linter.unusedVariables false
set_option maxRecDepth 100000
namespace FS
open PySem PySem.Calls PySem.W PyProof.Rows
local macro_rules | `(tactic| walk_at "subs") => `(tactic| repeat (first | exact Sub.nil | (apply Sub.skip; (focus decide)) | apply Sub.same))
local macro_rules | `(tactic| walk_at "var") => `(tactic| repeat (first | exact List.Mem.head _ | apply List.Mem.tail))
section
variable {prog : Program} {w : World} {A : Around} {I : View → Heap → Prop} {env : Env} {d : D} {ds : List D}
theorem PE.findC {pl : Sem Bool} {x y : Str} {kk : Nat} {p apos pos : Pos} {e : Expr} (st : Stable I) (ha : PE (model prog w) A I (eval e env) (.str y)) (hse : starEach [e] env = (false, eval e env) :: starEach [] env := by rfl) (hpl : ((backTo pos (starEach [e] env)).any (·.1)) = false := by rfl)
    (he : eval (.Call (.Attribute (.Constant (.str x) kk p) (Str.ofString "find") apos) [e] [] pos) env = (do
      let ov ← eval (.Constant (.str x) kk p) env
      standAt apos.atName
      let (f, first) ← holding [ov] (getMethod ov (Str.ofString "find") pl)
      callWith pos f first (backTo pos (starEach [e] env)) []) := by rfl) :
    PE (model prog w) A I (eval (.Call (.Attribute (.Constant (.str x) kk p) (Str.ofString "find") apos) [e] [] pos) env) (.int (Txt.find x y)) :=
  PE.meth1 (d0 := .str x) (ds := [.str y]) (pl := pl) st PE.cStr mth_find (PL.cons st ha PL.nil hse) opm_find hpl hse he
end
noncomputable def rowZ (dr : List Nat) (e : Bool × Nat) : D × Option D := (rowD (rowE (txOf dr) e), some (natD e.2))
section
variable {w : World} {A : Around} {G : Gd} {n : Nat} {a : Addr} {V : View} {s : Shared}
theorem law_ok {ns : List Int} {v : Value} (F : GF w G) (FL : FnAt G.h₁ a (stm 21) "law" .none .none) (Rm : Room A (n + 6)) (hns : ns.length ≤ 1000) (on : On V s.heap) (base : ∀ b o, G.h₁.get? b = some o → V b = some o) (rv : Rd V v (.list (ns.map D.int)))
    {Q : Value → Shared → Prop} {E : Value → Shared → Prop} (k : ∀ V' h' tk, Grow s.heap V V' h' → Q (.bool true) { s with heap := h', toks := tk, gens := finG s.gens (drL ns).length }) : wpAny (model pw w) A (call (.ref a) [v]) Q E s := by
  refine fn_call (ρ := [(Str.ofString "script", .list (ns.map D.int))]) (binds := [(Str.ofString "script", v)]) FL Rm.lt on base (fun _ _ _ _ _ => rfl) ?_ ?_ (Grow.refl on) none_ge ?_
  · intro L p hp
    simp only [List.mem_cons, List.not_mem_nil, or_false] at hp
    rcases hp with rfl; exact .inl rfl
  · intro L code p hp
    simp only [List.mem_cons, List.not_mem_nil, or_false] at hp
    rcases hp with rfl
    exact ⟨_, rv, .inl ⟨rfl, rfl⟩⟩
  · intro L' code
    have R1 := Rm.deeper (lEnv a L' code)
    have h16 := drL_16 ns
    have h8 := drL_len ns
    have P := drL_plain ns
    have e1 := drL_eq ns
    generalize drL ns = dr at h16 h8 P e1 k
    have rkLen : (rkL dr).length = dr.length := by unfold rkL; rw [List.length_map]
    rw [← rkLen] at k
    have pg := P.great
    have pc := P.counts
    have pu := P.undone
    have pp := P.perm
    rw [rkLen] at pg pc pu pp k
    -- drawn
    refine Tr.cons (SaT.assign (d := .list (dr.map natD)) rfl (.inl rfl) ?_ (by walk_at "subs")) ?_
    · rw [← e1]
      refine PE.binop Cx.stable (PE.dList (PL.cons Cx.stable PE.cInt (PL.cons Cx.stable PE.cInt (PL.cons Cx.stable PE.cInt PL.nil)))) (PE.comp _ (ρ' := []) (cl := []) (dx := .list ((ns.map D.int).take 5)) ⟨rfl, by decide, rfl, by decide, rfl⟩ (fun _ h => nomatch h) ?_ ?_ (by simp; omega) (fun C z hz => ?_) (fun C z d hz hd => ?_)) (op_add_list ?_)
      · have e2 : (ns.map D.int).take 5 = pickD (ns.map D.int) none (some ((5 : Nat) : Int)) none := (pickD_takeN _ 5).symm
        rw [e2]
        exact PE.slice Cx.stable (PE.name rfl (by walk_at "var")) PPart.none (PPart.some PE.cInt) PPart.none (by decide) (by rw [List.length_map]; exact hns)
      · rw [List.map_map, ← List.map_take]
        exact (Itb.list R1.hh).toG
      · obtain ⟨x, hx, rfl⟩ := List.mem_map.mp hz
        exact PT.nil
      · obtain ⟨x, hx, rfl⟩ := List.mem_map.mp hz
        have e3 : d = .int (x % 16) := (Option.some.inj hd).symm
        subst e3
        exact PE.binop Cx.stable (PE.name (d := .int x) rfl (by walk_at "var")) PE.cInt (op_mod_int (by decide))
      · have : ((((ns.take 5).map fun x : Int => (D.int x, some (D.int (x % 16)))).filterMap Prod.snd)).length ≤ ((ns.take 5).map fun x : Int => (D.int x, some (D.int (x % 16)))).length := List.length_filterMap_le _ _
        rw [List.length_map, List.length_take] at this
        have h3 : ([D.int 14, .int 8, .int 1] : List D).length = 3 := rfl
        omega
    -- ranks
    refine Tr.cons (SaT.assign (d := .list ((rkL dr).map natD)) rfl (.inr ⟨rfl, rfl⟩) ?_ (by walk_at "subs")) ?_
    · have e2 : (rkL dr).map natD = (dr.map fun y : Nat => (natD y, some (natD (y % 4)))).filterMap Prod.snd := by
        unfold rkL
        rw [List.filterMap_map, List.map_map]
        exact (fm_some _ _ _ fun _ _ => rfl).symm
      rw [e2]
      refine PE.comp _ (ρ' := []) (cl := []) (dx := .list (dr.map natD)) ⟨rfl, by decide, rfl, by decide, rfl⟩ (fun _ h => nomatch h) (PE.name rfl (by walk_at "var")) ?_ (by simp; omega) (fun C z hz => ?_) (fun C z d hz hd => ?_)
      · rw [List.map_map]
        exact (Itb.list R1.hh).toG
      · obtain ⟨x, hx, rfl⟩ := List.mem_map.mp hz
        exact PT.nil
      · obtain ⟨x, hx, rfl⟩ := List.mem_map.mp hz
        have e3 : d = .int ((x : Int) % 4) := (Option.some.inj hd).symm
        subst e3
        exact PE.binop Cx.stable (PE.name (d := .int (x : Nat)) rfl (by walk_at "var")) PE.cInt (op_mod_int (by decide))
    -- held
    refine Tr.cons (SaT.newHeld (n := n) F (R1.less (by omega)) rfl (.inl rfl) (by walk_at "subs") (PE.glob rfl rfl rfl F.g_headers)) (Tr.ex fun l => ?_)
    refine Tr.cons (Tr.pre (law_loop (n := n) (dr := dr) F R1 h16 h8 pp) fun V s p => p.weaken fun q hq => ?_) ?_
    · simp only [rhoL, List.mem_cons, List.not_mem_nil, or_false] at hq
      rcases hq with rfl | rfl | rfl <;> walk_at "var"
    -- rows
    have hrl : (rwD dr dr.length).length ≤ 1000 := by
      have := (pp _ (Nat.le_refl _)).length_eq
      unfold rwD rowsD
      rw [List.length_map, List.length_map]
      simp at this
      omega
    have hperm := pp _ (Nat.le_refl _)
    have hrw : rwD dr dr.length = rowsD ((stepsL (rkL dr) dr.length).map (rowE (txOf dr))) := rfl
    generalize stepsL (rkL dr) dr.length = L at pg pc pu hperm hrw
    rw [hrw] at hrl ⊢
    have hLl : L.length = dr.length := by have := hperm.length_eq; simpa using this
    have hsm : ∀ e ∈ L, e.2 < 8 := fun e he => by
      have := List.mem_range.mp (hperm.mem_iff.mp (List.mem_map_of_mem (f := Prod.snd) he))
      omega
    refine Tr.cons (SaT.itemsH (n := n) F (R1.less (by omega)) hrl rfl (.inl rfl) (by walk_at "subs") (PE.name rfl (by walk_at "var"))) ?_
    -- row
    have ez : (L.map (rowZ dr)).filterMap Prod.snd = (L.map Prod.snd).map natD := by
      rw [List.filterMap_map, List.map_map]
      exact fm_some _ _ _ fun _ _ => rfl
    refine Tr.cons (SaT.assignComp (dx := .list (rowsD (L.map (rowE (txOf dr))))) (L.map (rowZ dr)) (ρ' := []) (cl := []) rfl (.inl rfl) (by walk_at "subs") ⟨rfl, by decide, rfl, by decide, rfl⟩ (fun _ h => nomatch h) (PE.name rfl (by walk_at "var")) ?_ (by simp; omega) (fun C z hz => ?_) (fun C z d hz hd => ?_) rfl) ?_
    · have e2 : (L.map (rowZ dr)).map Prod.fst = rowsD (L.map (rowE (txOf dr))) := by unfold rowsD; rw [List.map_map, List.map_map]; rfl
      rw [e2]
      exact (Itb.list R1.hh).toG
    · obtain ⟨e, he, rfl⟩ := List.mem_map.mp hz
      exact PT.nil
    · obtain ⟨e, he, rfl⟩ := List.mem_map.mp hz
      have he8 := hsm e he
      have e3 : d = .int (Txt.find (Str.ofString "abcdefgh") (Txt.lower (nmG e.1 e.2))) := by
        rw [nm_lower _ _ he8, nmF, abc_find _ he8]
        exact (Option.some.inj hd).symm
      subst e3
      show PE (model pw w) _ (Cx G _ ((_, rowD (rowE (txOf dr) e)) :: []) _) _ _
      generalize txOf dr = tx
      have hi : ∀ {I : View → Heap → Prop} {vl sl : Expr}, NoSlice sl → Op2 (model pw w) (A.deeper (lEnv a L' code)) I (subscriptTail vl sl) (rowD (rowE tx e)) (.int 0) (.str (nmG e.1 e.2)) := fun h => op_item_tup (by decide) (by decide) rfl h
      refine PE.findC Cx.stable ?_
      exact PE.meth0 (d0 := .str (nmG e.1 e.2)) Cx.stable (PE.item Cx.stable (PE.name (d := rowD (rowE tx e)) rfl (by walk_at "var")) PE.cInt (hi (by intro _ _ _; with_unfolding_all rfl))) mth_lower (opm_lower (nm_long _ _ he8).1)
    rw [ez]
    refine Tr.pre (P := Sa G (lEnv a L' code) s.heap.get? V { s with gens := finG s.gens dr.length } (rhoR L dr) [(l, rowsD (L.map (rowE (txOf dr))))]) ?_ fun V s p => p.weaken fun q hq => ?_
    rotate_left
    · simp only [rhoR, List.mem_cons, List.not_mem_nil, or_false] at hq
      rcases hq with rfl | rfl | rfl | rfl <;> walk_at "var"
    have lenD : ∀ {I : View → Heap → Prop}, OpN (model pw w) (A.deeper (lEnv a L' code)) I (.builtin "len") [] [.list (dr.map natD)] (.int (dr.length : Nat)) := fun {I} => by
      have := op_len (prog := pw) (w := w) (A := A.deeper (lEnv a L' code)) (I := I) (ds := dr.map natD) (by rw [List.length_map]; omega)
      rw [List.length_map] at this
      exact this
    -- sorted(row) != list(range(len(drawn)))
    refine Tr.cons (SaT.if_ (c := false) (PB.compare Cx.stable (d1 := .list ((List.range dr.length).map natD)) (PE.call (ds := [.list ((L.map Prod.snd).map natD)]) Cx.stable (PE.blt rfl rfl rfl rfl F.b_sorted.1 F.b_sorted.2) (fun _ _ _ _ => keeps_builtin) (PL.cons Cx.stable (PE.name rfl (by walk_at "var")) PL.nil) ?_)
      (PE.call Cx.stable (PE.blt rfl rfl rfl rfl F.b_list.1 F.b_list.2) (fun _ _ _ _ => keeps_type) (PL.cons Cx.stable (PE.call Cx.stable (PE.blt rfl rfl rfl rfl F.b_range.1 F.b_range.2) (fun _ _ _ _ => keeps_type) (PL.cons Cx.stable (PE.call Cx.stable (PE.blt rfl rfl rfl rfl F.b_len.1 F.b_len.2) (fun _ _ _ _ => keeps_builtin) (PL.cons Cx.stable (PE.name rfl (by walk_at "var")) PL.nil) lenD) PL.nil) op_range1) PL.nil) (op_list_range R1.hh (by omega))) (op_ne_same R1.cl (fit_nats _))) (fun hc => nomatch hc) (fun hc => Tr.nil fun _ _ n => n)) ?_
    · rw [natD_ints, natD_ints]
      refine op_sorted_ints (by unfold intsOf; rw [List.length_map, List.length_map]; omega) ?_ ?_
      · exact (hperm.map fun n : Nat => (n : Int)).symm
      · unfold intsOf
        rw [List.pairwise_map]
        exact List.pairwise_lt_range.imp fun h => by omega
    refine Tr.cons (law_rows (n := n) F (R1.less (by omega)) h16 h8 hperm pg) ?_
    -- the end
    have hrowLt : ∀ x ∈ L.map Prod.snd, x < (rkL dr).length := fun x hx => by rw [rkLen]; exact List.mem_range.mp (hperm.mem_iff.mp hx)
    have un := undone_ok (w := w) (A := A.deeper (lEnv a L' code)) (G := G) (n := n) (row := L.map Prod.snd) (ranks := rkL dr) F (R1.less (by omega)) (by rw [List.length_map]; omega) hrowLt (by omega)
    rw [pu] at un
    refine Tr.last (SaT.ret (d := .bool true) (PE.and Cx.stable (PE.fn rfl rfl rfl F.g_counts F.f_counts (PL.cons Cx.stable (PE.name rfl (by walk_at "var")) (PL.cons Cx.stable (PE.name rfl (by walk_at "var")) PL.nil)) (counts_ok (n := n) F (R1.less (by omega)) pc))
      (PE.compare Cx.stable (PE.fn rfl rfl rfl F.g_undone F.f_undone (PL.cons Cx.stable (PE.name rfl (by walk_at "var")) (PL.cons Cx.stable (PE.name rfl (by walk_at "var")) PL.nil)) un)
        (PE.call Cx.stable (PE.blt rfl rfl rfl rfl F.b_list.1 F.b_list.2) (fun _ _ _ _ => keeps_type) (PL.cons Cx.stable (PE.call Cx.stable (PE.blt rfl rfl rfl rfl F.b_range.1 F.b_range.2) (fun _ _ _ _ => keeps_type) (PL.cons Cx.stable (PE.call Cx.stable (PE.blt rfl rfl rfl rfl F.b_len.1 F.b_len.2) (fun _ _ _ _ => keeps_builtin) (PL.cons Cx.stable (PE.name rfl (by walk_at "var")) PL.nil) lenD) PL.nil) op_range1) PL.nil) (op_list_range R1.hh (by omega))) (op_eq_same R1.cl (fit_nats _)))) fun V2 s2 v p r => ?_)
    have : v = .bool true := by cases r; rfl
    subst this
    rw [p.rest]
    exact k V2 _ _ p.gr
end
end FS
end
section
set_option linter.unusedVariables false
set_option maxRecDepth 100000
namespace FS
open PySem PySem.Calls PySem.W PyProof.Rows
theorem k_strcoll (P : Params) : (KT P).lookup 45 = some (Obj.mk (.type "function") none (.func (fdOf (stm 3) (Str.ofString "_strcoll") .none .none (Value.none) (Value.str (Str.ofString "cpy313.locale") 289) (.ref 44) .none none)) #[]) := by kernel_rfl
theorem kc_strcoll (P : Params) : (KT P).lookup 44 = some (o_p5_44 P) := by kernel_rfl
theorem fn_strcoll {P : Params} {h : Heap} (X : (KT P).In h) : FnAt h 45 (stm 3) (Str.ofString "_strcoll") .none .none :=
  ⟨_, _, _, _, _, _, X _ _ (k_strcoll P), rfl, 44, _, _, _, rfl, X _ _ (kc_strcoll P), rfl, rfl⟩
theorem k_grouping (P : Params) : (KT P).lookup 52 = some (Obj.mk (.type "function") none (.func (fdOf (stm 5) (Str.ofString "_grouping_intervals") .none .none (Value.none) (Value.str (Str.ofString "cpy313.locale") 289) (.ref 51) .none none)) #[]) := by kernel_rfl
theorem kc_grouping (P : Params) : (KT P).lookup 51 = some (o_p5_51 P) := by kernel_rfl
theorem fn_grouping {P : Params} {h : Heap} (X : (KT P).In h) : FnAt h 52 (stm 5) (Str.ofString "_grouping_intervals") .none .none :=
  ⟨_, _, _, _, _, _, X _ _ (k_grouping P), rfl, 51, _, _, _, rfl, X _ _ (kc_grouping P), rfl, rfl⟩
theorem k_inb1 (P : Params) : (KT P).lookup 70 = some (Obj.mk (.type "function") none (.func (fdOf (stm 8) (Str.ofString "in_table_b1") .none .none (Value.none) (Value.str (Str.ofString "cpy313.stringprep") 310) (.ref 69) .none none)) #[]) := by kernel_rfl
theorem kc_inb1 (P : Params) : (KT P).lookup 69 = some (o_p7_69 P) := by kernel_rfl
theorem fn_inb1 {P : Params} {h : Heap} (X : (KT P).In h) : FnAt h 70 (stm 8) (Str.ofString "in_table_b1") .none .none :=
  ⟨_, _, _, _, _, _, X _ _ (k_inb1 P), rfl, 69, _, _, _, rfl, X _ _ (kc_inb1 P), rfl, rfl⟩
theorem k_map (P : Params) : (KT P).lookup 116 = some (Obj.mk (.type "function") none (.func (fdOf (stm 10) (Str.ofString "map_table_b3") .none .none (Value.none) (Value.str (Str.ofString "cpy313.stringprep") 310) (.ref 115) .none none)) #[]) := by kernel_rfl
theorem kc_map (P : Params) : (KT P).lookup 115 = some (o_p12_115 P) := by kernel_rfl
theorem fn_map {P : Params} {h : Heap} (X : (KT P).In h) : FnAt h 116 (stm 10) (Str.ofString "map_table_b3") .none .none :=
  ⟨_, _, _, _, _, _, X _ _ (k_map P), rfl, 115, _, _, _, rfl, X _ _ (kc_map P), rfl, rfl⟩
theorem k_typed (P : Params) : (KT P).lookup 260 = some (Obj.mk (.type "function") none (.func (fdOf (stm 16) (Str.ofString "_law_typed") .none .none (Value.none) (Value.str (Str.ofString "law_wf0096_01") 2556) (.ref 259) .none none)) #[]) := by kernel_rfl
theorem kc_typed (P : Params) : (KT P).lookup 259 = some (o_fin_259 P) := by kernel_rfl
theorem fn_typed {P : Params} {h : Heap} (X : (KT P).In h) : FnAt h 260 (stm 16) (Str.ofString "_law_typed") .none .none :=
  ⟨_, _, _, _, _, _, X _ _ (k_typed P), rfl, 259, _, _, _, rfl, X _ _ (kc_typed P), rfl, rfl⟩
theorem k_plain (P : Params) : (KT P).lookup 265 = some (Obj.mk (.type "function") none (.func (fdOf (stm 17) (Str.ofString "_law_plain") .none .none (Value.none) (Value.str (Str.ofString "law_wf0096_01") 2556) (.ref 264) .none none)) #[]) := by kernel_rfl
theorem kc_plain (P : Params) : (KT P).lookup 264 = some (o_fin_264 P) := by kernel_rfl
theorem fn_plain {P : Params} {h : Heap} (X : (KT P).In h) : FnAt h 265 (stm 17) (Str.ofString "_law_plain") .none .none :=
  ⟨_, _, _, _, _, _, X _ _ (k_plain P), rfl, 264, _, _, _, rfl, X _ _ (kc_plain P), rfl, rfl⟩
theorem k_take (P : Params) : (KT P).lookup 270 = some (Obj.mk (.type "function") none (.func (fdOf (stm 18) (Str.ofString "_law_take") .none .none (Value.none) (Value.str (Str.ofString "law_wf0096_01") 2556) (.ref 269) .none none)) #[]) := by kernel_rfl
theorem kc_take (P : Params) : (KT P).lookup 269 = some (o_fin_269 P) := by kernel_rfl
theorem fn_take {P : Params} {h : Heap} (X : (KT P).In h) : FnAt h 270 (stm 18) (Str.ofString "_law_take") .none .none :=
  ⟨_, _, _, _, _, _, X _ _ (k_take P), rfl, 269, _, _, _, rfl, X _ _ (kc_take P), rfl, rfl⟩
theorem k_counts (P : Params) : (KT P).lookup 275 = some (Obj.mk (.type "function") none (.func (fdOf (stm 19) (Str.ofString "_law_counts") .none .none (Value.none) (Value.str (Str.ofString "law_wf0096_01") 2556) (.ref 274) .none none)) #[]) := by kernel_rfl
theorem kc_counts (P : Params) : (KT P).lookup 274 = some (o_fin_274 P) := by kernel_rfl
theorem fn_counts {P : Params} {h : Heap} (X : (KT P).In h) : FnAt h 275 (stm 19) (Str.ofString "_law_counts") .none .none :=
  ⟨_, _, _, _, _, _, X _ _ (k_counts P), rfl, 274, _, _, _, rfl, X _ _ (kc_counts P), rfl, rfl⟩
theorem k_undone (P : Params) : (KT P).lookup 282 = some (Obj.mk (.type "function") none (.func (fdOf (stm 20) (Str.ofString "_law_undone") .none .none (Value.none) (Value.str (Str.ofString "law_wf0096_01") 2556) (.ref 281) .none none)) #[]) := by kernel_rfl
theorem kc_undone (P : Params) : (KT P).lookup 281 = some (o_fin_281 P) := by kernel_rfl
theorem fn_undone {P : Params} {h : Heap} (X : (KT P).In h) : FnAt h 282 (stm 20) (Str.ofString "_law_undone") .none .none :=
  ⟨_, _, _, _, _, _, X _ _ (k_undone P), rfl, 281, _, _, _, rfl, X _ _ (kc_undone P), rfl, rfl⟩
theorem k_init (P : Params) : (KT P).lookup 141 = some (Obj.mk (.type "function") none (.func (fdOf (mth 14 0) (Str.ofString "Headers.__init__") (.ref 134) .none (Value.none) (Value.str (Str.ofString "cpy313.wsgiref.headers") 2338) (.ref 140) .none none)) #[]) := by kernel_rfl
theorem kc_init (P : Params) : (KT P).lookup 140 = some (o_p13_140 P) := by kernel_rfl
theorem fn_init {P : Params} {h : Heap} (X : (KT P).In h) : FnAt h 141 (mth 14 0) (Str.ofString "Headers.__init__") (.ref 134) .none :=
  ⟨_, _, _, _, _, _, X _ _ (k_init P), rfl, 140, _, _, _, rfl, X _ _ (kc_init P), rfl, rfl⟩
theorem k_conv (P : Params) : (KT P).lookup 148 = some (Obj.mk (.type "function") none (.func (fdOf (mth 14 1) (Str.ofString "Headers._convert_string_type") .none .none (Value.none) (Value.str (Str.ofString "cpy313.wsgiref.headers") 2338) (.ref 147) .none none)) #[]) := by kernel_rfl
theorem kc_conv (P : Params) : (KT P).lookup 147 = some (o_p13_147 P) := by kernel_rfl
theorem fn_conv {P : Params} {h : Heap} (X : (KT P).In h) : FnAt h 148 (mth 14 1) (Str.ofString "Headers._convert_string_type") .none .none :=
  ⟨_, _, _, _, _, _, X _ _ (k_conv P), rfl, 147, _, _, _, rfl, X _ _ (kc_conv P), rfl, rfl⟩
theorem k_set (P : Params) : (KT P).lookup 162 = some (Obj.mk (.type "function") none (.func (fdOf (mth 14 3) (Str.ofString "Headers.__setitem__") .none .none (Value.none) (Value.str (Str.ofString "cpy313.wsgiref.headers") 2338) (.ref 161) .none none)) #[]) := by kernel_rfl
theorem kc_set (P : Params) : (KT P).lookup 161 = some (o_p13_161 P) := by kernel_rfl
theorem fn_set {P : Params} {h : Heap} (X : (KT P).In h) : FnAt h 162 (mth 14 3) (Str.ofString "Headers.__setitem__") .none .none :=
  ⟨_, _, _, _, _, _, X _ _ (k_set P), rfl, 161, _, _, _, rfl, X _ _ (kc_set P), rfl, rfl⟩
theorem k_del (P : Params) : (KT P).lookup 167 = some (Obj.mk (.type "function") none (.func (fdOf (mth 14 4) (Str.ofString "Headers.__delitem__") .none .none (Value.none) (Value.str (Str.ofString "cpy313.wsgiref.headers") 2338) (.ref 166) .none none)) #[]) := by kernel_rfl
theorem kc_del (P : Params) : (KT P).lookup 166 = some (o_p13_166 P) := by kernel_rfl
theorem fn_del {P : Params} {h : Heap} (X : (KT P).In h) : FnAt h 167 (mth 14 4) (Str.ofString "Headers.__delitem__") .none .none :=
  ⟨_, _, _, _, _, _, X _ _ (k_del P), rfl, 166, _, _, _, rfl, X _ _ (kc_del P), rfl, rfl⟩
theorem k_items (P : Params) : (KT P).lookup 213 = some (Obj.mk (.type "function") none (.func (fdOf (mth 14 11) (Str.ofString "Headers.items") .none .none (Value.none) (Value.str (Str.ofString "cpy313.wsgiref.headers") 2338) (.ref 212) .none none)) #[]) := by kernel_rfl
theorem kc_items (P : Params) : (KT P).lookup 212 = some (o_p13_212 P) := by kernel_rfl
theorem fn_items {P : Params} {h : Heap} (X : (KT P).In h) : FnAt h 213 (mth 14 11) (Str.ofString "Headers.items") .none .none :=
  ⟨_, _, _, _, _, _, X _ _ (k_items P), rfl, 212, _, _, _, rfl, X _ _ (kc_items P), rfl, rfl⟩
theorem k_law (P : Params) : (KT P).lookup 287 = some (Obj.mk (.type "function") none (.func (fdOf (stm 21) (Str.ofString "law") .none .none (Value.none) (Value.str (Str.ofString "law_wf0096_01") 2556) (.ref 286) .none none)) #[]) := by kernel_rfl
theorem kc_law (P : Params) : (KT P).lookup 286 = some (o_fin_286 P) := by kernel_rfl
theorem fn_law {P : Params} {h : Heap} (X : (KT P).In h) : FnAt h 287 (stm 21) (Str.ofString "law") .none .none :=
  ⟨_, _, _, _, _, _, X _ _ (k_law P), rfl, 286, _, _, _, rfl, X _ _ (kc_law P), rfl, rfl⟩
end FS
end
section
set_option linter.unusedVariables false
set_option maxRecDepth 100000
namespace FS
open PySem PySem.Calls PySem.W PyProof.Rows
noncomputable def es3 (P : Params) : Array DictEntry := match (o_fin_3 P).data with
  | .dict es _ => es
  | _ => #[]
theorem k3 (P : Params) : (KT P).lookup 3 = some (o_fin_3 P) := by kernel_rfl
theorem mg_look {P : Params} {h : Heap} {mg : Str → Option Value} (X : (KT P).In h) (N : h.Ns mainGlobals mg) (name : Str) : mg name = nsFind (es3 P) name := by
  obtain ⟨o, es, ep, ho, hd, _, hf⟩ := N
  have e : h.get? mainGlobals = some (o_fin_3 P) := X _ _ (k3 P)
  rw [ho] at e
  cases e
  rw [← hf]
  unfold es3
  rw [hd]
theorem n_g_strcoll (P : Params) : nsFind (es3 P) (Str.ofString "_strcoll") = some (.ref 45) := by kernel_rfl
theorem n_g_grouping (P : Params) : nsFind (es3 P) (Str.ofString "_grouping_intervals") = some (.ref 52) := by kernel_rfl
theorem n_g_b1 (P : Params) : nsFind (es3 P) (Str.ofString "b1_set") = some (.ref 60) := by kernel_rfl
theorem n_g_inb1 (P : Params) : nsFind (es3 P) (Str.ofString "in_table_b1") = some (.ref 70) := by kernel_rfl
theorem n_g_b3 (P : Params) : nsFind (es3 P) (Str.ofString "b3_exceptions") = some (.ref 71) := by kernel_rfl
theorem n_g_map (P : Params) : nsFind (es3 P) (Str.ofString "map_table_b3") = some (.ref 116) := by kernel_rfl
theorem n_g_nre (P : Params) : nsFind (es3 P) (Str.ofString "_name_disallowed_re") = some (.ref 121) := by kernel_rfl
theorem n_g_vre (P : Params) : nsFind (es3 P) (Str.ofString "_value_disallowed_re") = some (.ref 126) := by kernel_rfl
theorem n_g_headers (P : Params) : nsFind (es3 P) (Str.ofString "Headers") = some (.ref 249) := by kernel_rfl
theorem n_g_typed (P : Params) : nsFind (es3 P) (Str.ofString "_law_typed") = some (.ref 260) := by kernel_rfl
theorem n_g_plain (P : Params) : nsFind (es3 P) (Str.ofString "_law_plain") = some (.ref 265) := by kernel_rfl
theorem n_g_take (P : Params) : nsFind (es3 P) (Str.ofString "_law_take") = some (.ref 270) := by kernel_rfl
theorem n_g_counts (P : Params) : nsFind (es3 P) (Str.ofString "_law_counts") = some (.ref 275) := by kernel_rfl
theorem n_g_undone (P : Params) : nsFind (es3 P) (Str.ofString "_law_undone") = some (.ref 282) := by kernel_rfl
theorem n_g_law (P : Params) : nsFind (es3 P) (Str.ofString "law") = some (.ref 287) := by kernel_rfl
theorem n_char (P : Params) : ∃ t, nsFind (es3 P) (Str.ofString "CHAR_MAX") = some (.int 127 t) := ⟨299, by kernel_rfl⟩
theorem nb_chr (P : Params) : nsFind (es3 P) (Str.ofString "chr") = none := by kernel_rfl
theorem bb_chr : bootBuiltins (Str.ofString "chr") = some (.builtin "chr") := by kernel_rfl
theorem nb_ord (P : Params) : nsFind (es3 P) (Str.ofString "ord") = none := by kernel_rfl
theorem bb_ord : bootBuiltins (Str.ofString "ord") = some (.builtin "ord") := by kernel_rfl
theorem nb_len (P : Params) : nsFind (es3 P) (Str.ofString "len") = none := by kernel_rfl
theorem bb_len : bootBuiltins (Str.ofString "len") = some (.builtin "len") := by kernel_rfl
theorem nb_range (P : Params) : nsFind (es3 P) (Str.ofString "range") = none := by kernel_rfl
theorem bb_range : bootBuiltins (Str.ofString "range") = some (.type "range") := by kernel_rfl
theorem nb_str (P : Params) : nsFind (es3 P) (Str.ofString "str") = none := by kernel_rfl
theorem bb_str : bootBuiltins (Str.ofString "str") = some (.type "str") := by kernel_rfl
theorem nb_list (P : Params) : nsFind (es3 P) (Str.ofString "list") = none := by kernel_rfl
theorem bb_list : bootBuiltins (Str.ofString "list") = some (.type "list") := by kernel_rfl
theorem nb_type (P : Params) : nsFind (es3 P) (Str.ofString "type") = none := by kernel_rfl
theorem bb_type : bootBuiltins (Str.ofString "type") = some (.type "type") := by kernel_rfl
theorem nb_max (P : Params) : nsFind (es3 P) (Str.ofString "max") = none := by kernel_rfl
theorem bb_max : bootBuiltins (Str.ofString "max") = some (.builtin "max") := by kernel_rfl
theorem nb_min (P : Params) : nsFind (es3 P) (Str.ofString "min") = none := by kernel_rfl
theorem bb_min : bootBuiltins (Str.ofString "min") = some (.builtin "min") := by kernel_rfl
theorem nb_sum (P : Params) : nsFind (es3 P) (Str.ofString "sum") = none := by kernel_rfl
theorem bb_sum : bootBuiltins (Str.ofString "sum") = some (.builtin "sum") := by kernel_rfl
theorem nb_sorted (P : Params) : nsFind (es3 P) (Str.ofString "sorted") = none := by kernel_rfl
theorem bb_sorted : bootBuiltins (Str.ofString "sorted") = some (.builtin "sorted") := by kernel_rfl
noncomputable def lst60 : List (Int × Tok) := [(65024, 328), (65025, 329), (65026, 330), (65027, 331), (65028, 332), (65029, 333), (6150, 314), (65030, 334), (65031, 335), (65032, 336), (65033, 337), (6155, 315), (6156, 316), (6157, 317), (8203, 318), (8204, 319), (8205, 320), (65034, 338), (65035, 339), (65036, 340), (65037, 341), (65038, 342), (65039, 343), (173, 312), (847, 313), (8288, 321), (65279, 322)]
theorem k60 (P : Params) : (KT P).lookup 60 = some (Obj.mk (.type "set") none (.set (lst60.map fun p => (p.1, Value.int p.1 p.2)).toArray 29 (SetTable.mk 127 #[0, 1, 2, 3, 4, 5, 6, 7, 8, 9, 10, 11, 12, 13, 14, 15, 16, 17, 18, 19, 20, 21, 22, 45, 79, 96, 127] #[] 0 (!P.followText "set-order") 2 true)) #[]) := by kernel_rfl
theorem perm60 : (lst60.map Prod.fst).isPerm b1List = true := by decide +kernel
theorem hash60 : ∀ p ∈ lst60, hashInt p.1 = p.1 := by decide +kernel
theorem set60 {P : Params} {h : Heap} (X : (KT P).In h) (prog : Program) (w' : World) : h.SetOf (intKind prog w') 60 b1Has 27 := by
  refine ⟨_, _, _, _, X _ _ (k60 P), ⟨rfl, rfl, rfl⟩, rfl, ?_, ?_, ?_, ?_, ?_⟩
  · intro e he
    have he' : e ∈ lst60.map fun p => (p.1, Value.int p.1 p.2) := by simpa using he
    obtain ⟨p, hp, rfl⟩ := List.mem_map.mp he'
    refine ⟨⟨p.1, ?_, ?_⟩, rfl⟩
    · show Value.isInt p.1 (.int p.1 p.2) = true
      simp [Value.isInt]
    · exact (hash60 p hp).symm
  · intro k
    have hb : b1Has k = true ↔ k ∈ b1List := by unfold b1Has; rw [List.contains_iff_mem]
    rw [hb, ← (List.isPerm_iff.mp perm60).mem_iff]
    constructor
    · intro hk
      obtain ⟨p, hp, rfl⟩ := List.mem_map.mp hk
      refine ⟨(p.1, Value.int p.1 p.2), by simpa using hp, ?_⟩
      show Value.isInt p.1 (.int p.1 p.2) = true
      simp [Value.isInt]
    · rintro ⟨e, he, hk⟩
      have he' : e ∈ lst60.map fun p => (p.1, Value.int p.1 p.2) := by simpa using he
      obtain ⟨p, hp, rfl⟩ := List.mem_map.mp he'
      have hk' : Value.isInt k (.int p.1 p.2) = true := hk
      have : p.1 = k := by simpa [Value.isInt] using hk'
      subst this
      exact List.mem_map_of_mem hp
  · decide
  · rfl
  · rfl
/-- rising, told in one walk -/
noncomputable def riseB : List Int → Bool
  | [] => true
  | a :: l => (match l with | [] => true | b :: _ => decide (a < b)) && riseB l
theorem rise_lt : ∀ (l : List Int), riseB l = true → l.Pairwise (· < ·)
  | [], _ => .nil
  | [a], _ => by simp
  | a :: b :: l, h => by
    rw [riseB, Bool.and_eq_true] at h
    have hab : a < b := of_decide_eq_true h.1
    have ih := rise_lt (b :: l) h.2
    refine .cons (fun x hx => ?_) ih
    rcases List.mem_cons.mp hx with rfl | hx
    · exact hab
    · exact Int.lt_trans hab ((List.pairwise_cons.mp ih).1 x hx)
theorem rise71 : riseB (b3Dat.map (·.1)) = true := by kernel_rfl
theorem nodup71 : (b3Dat.map (·.1)).Nodup := (rise_lt _ rise71).imp fun h => Int.ne_of_lt h
theorem rows71 (P : Params) : (match (KT P).lookup 71 with
  | some o => o.cls == .type "dict" && o.dict.isNone && o.slots.isEmpty && (match o.data with | .dict es _ => KTD.numsLook es.toList b3Dat | _ => false)
  | none => false) = true := by kernel_rfl
theorem look71 (P : Params) : KTD.keyedLook (fun a => (KT P).lookup a) 71 b3Dat = true := by
  unfold KTD.keyedLook
  rw [Bool.and_eq_true, Bool.and_eq_true]
  exact ⟨⟨by decide +kernel, decide_eq_true nodup71⟩, rows71 P⟩
theorem keyed71 {P : Params} {h : Heap} (X : (KT P).In h) : KTD.Keyed h 71 b3Dat := KTD.keyed_of_look (fun a o e => X a o e) (look71 P)
end FS
end
section
set_option linter.unusedVariables false
set_option maxRecDepth 100000
namespace FS
open PySem PySem.Calls PySem.W PyProof.Rows
noncomputable def gdOf (h : Heap) (mg mb : Str → Option Value) (g : h.Ns mainGlobals mg) (b : h.Ns builtinsNs mb) (nl : h.NoLimit) : Gd := ⟨h, mg, mb, g, b, nl⟩
theorem gf_of {w : World} {h : Heap} {mg mb : Str → Option Value} (g : h.Ns mainGlobals mg) (b : h.Ns builtinsNs mb) (nl : h.NoLimit) (X : (KT w.params).In h) (bl : ∀ x : Str, x ≠ "__name__" → mb x = bootBuiltins x) : GF w (gdOf h mg mb g b nl) where
  kin := X
  g_strcoll := (mg_look X g _).trans (n_g_strcoll _)
  g_grouping := (mg_look X g _).trans (n_g_grouping _)
  g_charmax := let ⟨t, e⟩ := n_char w.params; ⟨t, (mg_look X g _).trans e⟩
  g_b1 := (mg_look X g _).trans (n_g_b1 _)
  g_inb1 := (mg_look X g _).trans (n_g_inb1 _)
  g_b3 := (mg_look X g _).trans (n_g_b3 _)
  g_map := (mg_look X g _).trans (n_g_map _)
  g_nre := (mg_look X g _).trans (n_g_nre _)
  g_vre := (mg_look X g _).trans (n_g_vre _)
  g_headers := (mg_look X g _).trans (n_g_headers _)
  g_typed := (mg_look X g _).trans (n_g_typed _)
  g_plain := (mg_look X g _).trans (n_g_plain _)
  g_take := (mg_look X g _).trans (n_g_take _)
  g_counts := (mg_look X g _).trans (n_g_counts _)
  g_undone := (mg_look X g _).trans (n_g_undone _)
  b_chr := ⟨(mg_look X g _).trans (nb_chr _), (bl _ (by decide)).trans bb_chr⟩
  b_ord := ⟨(mg_look X g _).trans (nb_ord _), (bl _ (by decide)).trans bb_ord⟩
  b_len := ⟨(mg_look X g _).trans (nb_len _), (bl _ (by decide)).trans bb_len⟩
  b_range := ⟨(mg_look X g _).trans (nb_range _), (bl _ (by decide)).trans bb_range⟩
  b_str := ⟨(mg_look X g _).trans (nb_str _), (bl _ (by decide)).trans bb_str⟩
  b_list := ⟨(mg_look X g _).trans (nb_list _), (bl _ (by decide)).trans bb_list⟩
  b_type := ⟨(mg_look X g _).trans (nb_type _), (bl _ (by decide)).trans bb_type⟩
  b_max := ⟨(mg_look X g _).trans (nb_max _), (bl _ (by decide)).trans bb_max⟩
  b_min := ⟨(mg_look X g _).trans (nb_min _), (bl _ (by decide)).trans bb_min⟩
  b_sum := ⟨(mg_look X g _).trans (nb_sum _), (bl _ (by decide)).trans bb_sum⟩
  b_sorted := ⟨(mg_look X g _).trans (nb_sorted _), (bl _ (by decide)).trans bb_sorted⟩
  f_strcoll := fn_strcoll X
  f_grouping := fn_grouping X
  f_inb1 := fn_inb1 X
  f_map := fn_map X
  f_typed := fn_typed X
  f_plain := fn_plain X
  f_take := fn_take X
  f_counts := fn_counts X
  f_undone := fn_undone X
  f_init := fn_init X
  f_conv := fn_conv X
  f_set := fn_set X
  f_del := fn_del X
  f_items := fn_items X
  b1 := fun prog w' => set60 X prog w'
  b3 := keyed71 X
end FS
end
section
set_option linter.unusedVariables false
set_option maxRecDepth 100000
namespace FS
open PySem PySem.Calls PySem.W PyProof.Rows
theorem finG_bare : ∀ n, AllBare (finG #[] n)
  | 0 => .empty
  | n + 1 => (finG_bare n).push rfl
theorem room_caller : Room callerA (0 + 6) := ⟨by decide +kernel, rfl, by decide +kernel⟩
theorem fin_law : PySem.Challenge.rw_wf0096_01.Holds := by
  refine top_law ?_
  intro w s₀ s₁ mg mb Gr Y a o pm cd doc dV kV ho hd hcr hdf hmg hgens args vals as hpre hlay hrd hwl hlo
  have X : (KT w.params).In s₁.heap := kIn_of Y
  have T := Gr.T
  wrow_args hpre hlay hrd hwl hlo
  rename_i ns _ _ _ _ _ _ _ la vs _ hL _ w1 _ hI _ hlen _
  have ea : a = 287 := by
    have e := (mg_look X T.g (Str.ofString "law")).trans (n_g_law _)
    have e2 : mg (Str.ofString "law") = some (.ref a) := hmg
    rw [e2] at e
    injection e with e
    injection e
  subst ea
  have hns : ns.length ≤ 1000 := by omega
  have rv : Rd s₁.heap.get? (.ref la) (.list (ns.map D.int)) := by
    obtain ⟨o', ho', _, n', hd'⟩ := id hL
    cases w1 with
    | list e _ =>
      rename_i vs' hw'
      rw [e] at ho'
      cases ho'
      have : vs' = vs := by
        injection hd' with h1 _
        exact Array.toList_inj.mpr h1 |> fun h => by simpa using h
      subst this
      exact .list e (rdL_ints hI)
  refine law_ok (n := 0) (V := s₁.heap.get?) (gf_of T.g T.b T.nolimit X T.builtins) (fn_law X) room_caller hns (fun _ _ e => e) (fun _ _ e => e) rv fun V' h' tk g => ?_
  rw [hgens]
  refine ⟨.inl ⟨_, .bool true, [], rfl, fun _ => rfl, .bool true, ?_, fun _ => ⟨.nil, fun _ h => nomatch h⟩⟩, .of_keep g.keep, rfl, finG_bare _⟩
  wrow_post
end FS
end
theorem PySem.Challenge.cw_wf0096_01_holds : PySem.Challenge.rw_wf0096_01.Holds := by
  exact FS.fin_law
